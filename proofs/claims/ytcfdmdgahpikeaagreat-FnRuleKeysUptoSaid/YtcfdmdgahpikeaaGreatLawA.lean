/- Part of the proof of a law of a rule over documents (LawA), where what the arguments hold is of bulk at most 1048576. -/
import Derived.Test.YtcfdmdgahpikeaaGreatWalkD
import Derived.Test.YtcfdmdgahpikeaaGreatWideB
import Derived.Test.YtcfdmdgahpikeaaGreatBaseC
set_option linter.unusedVariables false
set_option linter.unusedSimpArgs false
set_option linter.unusedSectionVars false
set_option linter.deprecated false
namespace Go.VC
open Go Go.Proofs
variable [DB]
theorem baseName_eq:∀ t:Typ,baseName t=typeName t
 | .mk n [] nn=>rfl
 | .mk n (t::l) nn=>by
  show baseName t=typeName t
  exact baseName_eq t
theorem filter_none {α:Type}{p:α->Bool}:∀ {l:List α},(∀ x∈l,p x=false)->l.filter p=[]
 | [],_=>rfl
 | x::l,h=>by
  rw [List.filter_cons,if_neg (by rw [h x (by simp)];decide)]
  exact filter_none fun y hy=>h y (by simp [hy])
theorem filter_uniq {l:List Def}{d:Def}(hn:(l.map (·.name)).Nodup)(hd:d∈l):(l.filter fun x=>decide (x.name=d.name))=[d]:=by
 induction l with
 | nil=>cases hd
 | cons x l ih=>
  rw [List.map_cons,List.nodup_cons] at hn
  rcases List.mem_cons.1 hd with rfl|hd
  ·rw [List.filter_cons,if_pos (by simp),filter_none fun y hy=>by
    simp only [decide_eq_false_iff_not]
    exact fun e=>hn.1 (e▸List.mem_map.2 ⟨y,hy,rfl⟩)]
  ·rw [List.filter_cons,if_neg (by simp only [decide_eq_true_eq];exact fun e=>hn.1 (e▸List.mem_map.2 ⟨d,hd,rfl⟩)),ih hn.2 hd]
theorem wide_find {types:List Def}{dirs:List DirDef}{defs:List SchemaDef}(h:OkSchema types dirs defs)(n:BA):lastN Def.name (preTypes++types) n=if (findD types n).2=true then some (findD types n).1 else none:=by
 unfold lastN
 rw [List.filter_append]
 unfold findD
 cases hf:types.find? (fun d=>d.name.toList==n.toList) with
 | some d=>
  have hd:=List.mem_of_find?_eq_some hf
  have hn:d.name=n:=by
   have:=List.find?_some hf
   exact bytes_beq_t.1 this
  subst hn
  have hs:=h.names.2 d.name (List.mem_map.2 ⟨d,hd,rfl⟩)
  have e1:(preTypes.filter fun x=>decide (x.name=d.name))=[]:=filter_none fun x hx=>by
   obtain ⟨s,hs',rfl⟩:=List.mem_map.1 hx
   exact decide_eq_false fun e=>hs.2 (e▸hs')
  rw [e1,filter_uniq h.names.1 hd]
  rfl
 | none=>
  have e2:(types.filter fun x=>decide (x.name=n))=[]:=filter_none fun x hx=>by
   have:=List.find?_eq_none.1 hf x hx
   exact decide_eq_false fun e=>this (bytes_beq_t.2 e)
  rw [e2,List.append_nil]
  by_cases hsc:n∈scal
  ·rw [if_pos (c:=_=true) (any_scal.2 hsc)]
   have:∀ s∈scal,((preTypes.filter fun x=>decide (x.name=s)).getLast?)=some (scalarDef s):=by
    intro s hs
    simp only [scal,List.mem_cons,List.not_mem_nil,or_false] at hs
    rcases hs with rfl|rfl|rfl|rfl|rfl<;>first|rfl|kernel_rfl
   rw [this n hsc]
   rfl
  ·have e3:¬ (scal.any (fun s=>s.toList==n.toList)=true):=fun e=>hsc (any_scal.1 e)
   rw [if_neg e3]
   have e1:(preTypes.filter fun x=>decide (x.name=n))=[]:=filter_none fun x hx=>by
    obtain ⟨s,hs',rfl⟩:=List.mem_map.1 hx
    exact decide_eq_false fun e=>hsc (e▸hs')
   rw [e1]
   rfl
end Go.VC
namespace Go.VC
open Go Go.Proofs
variable [DB]
theorem sum_addk {α:Type}(f:α->Nat)(k:Nat):∀ xs:List α,(xs.map fun x=>f x+k).sum=(xs.map f).sum+xs.length*k
 | []=>by simp
 | x::xs=>by
  simp only [List.map_cons,List.sum_cons,List.length_cons,sum_addk f k xs,Nat.add_mul]
  omega
theorem sum_mono {α:Type}{f g:α->Nat}:∀ {xs:List α},(∀ x∈xs,f x<=g x)->(xs.map f).sum<=(xs.map g).sum
 | [],_=>Nat.le_refl _
 | x::xs,h=>by
  have h1:=h x (by simp)
  have h2:=sum_mono (xs:=xs) fun y hy=>h y (by simp [hy])
  simp only [List.map_cons,List.sum_cons]
  omega
theorem cntE_le (ob:Obs)(l:List Ev):cntE ob l<=l.length:=List.length_filter_le _ _
theorem evVars_cnt {ob:Obs}(h5:ob.on 5=false)(h6:ob.on 6=false)(h7:ob.on 7=false)(l:List VarD):cntE ob (evVars l)<=l.length:=by
 unfold evVars
 rw [cntE_append]
 have h1:=cntE_le ob (l.map Ev.var)
 have h2:cntE ob (l.flatMap fun v=>evDef v.dflt++evDs bVarLoc v.dirs)=0:=cntE_zero fun e he=>by
  obtain ⟨v,-, he⟩:=List.mem_flatMap.1 he
  rcases List.mem_append.1 he with he|he
  ·rw [evDef_slot e he];exact h7
  ·rcases evDs_slot e he with h|h|h<;>rw [h]<;>assumption
 rw [List.length_map] at h1
 omega
theorem evDs_cnt {ob:Obs}(h5:ob.on 5=false)(h6:ob.on 6=false)(h7:ob.on 7=false)(loc:BA)(l:List Dir):cntE ob (evDs loc l)=0:=cntE_zero fun e he=>by
 rcases evDs_slot e he with h|h|h<;>rw [h]<;>assumption
theorem cntE_one (ob:Obs)(e:Ev):cntE ob [e]<=1:=by simpa using cntE_le ob [e]
theorem evOp_cnt {ob:Obs}(h5:ob.on 5=false)(h6:ob.on 6=false)(h7:ob.on 7=false)(fs:List Frag)(x:OpD):cntE ob (evOp fs x)<=selL x.kids+(x.vars.length+1):=by
 unfold evOp
 simp only [cntE_append,evDs_cnt h5 h6 h7]
 have h1:=evVars_cnt h5 h6 h7 x.vars
 have h2:=evL_cnt h5 h6 h7 fs x.kids
 have h3:=cntE_one ob (.op x)
 omega
theorem evFr_cnt {ob:Obs}(h5:ob.on 5=false)(h6:ob.on 6=false)(h7:ob.on 7=false)(fs:List Frag)(x:Frag):cntE ob (evFr fs x)<=selL x.kids+1:=by
 unfold evFr
 simp only [cntE_append,evDs_cnt h5 h6 h7]
 have h2:=evL_cnt h5 h6 h7 fs x.kids
 have h3:=cntE_one ob (.frag x)
 omega
theorem spN_small {c:WCtx}{ob:Obs}(h5:ob.on 5=false)(h6:ob.on 6=false)(h7:ob.on 7=false)(h1:c.ops.length<=12)(h2:c.frags.length<=12)(hs:selTot c.ops c.frags<=2097152)(hv:∀ x∈c.ops,x.vars.length<=4194304):spN c ob c.ops c.frags<=1073741824:=by
 have hp:pot c ob []<=(c.frags.map fun f=>selL f.kids).sum+c.frags.length*1:=by
  unfold pot
  rw [<- sum_addk (fun f:Frag=>selL f.kids) 1]
  exact sum_mono fun f _=>by
   rw [potF_out (by simp)]
   exact evFr_cnt h5 h6 h7 c.frags f
 have hpt:pot c ob []<=2097164:=by
  unfold selTot at hs
  omega
 have ho:(c.ops.map fun x=>cntE ob (evOp c.frags x)+pot c ob []).sum<=(c.ops.map fun x=>selL x.kids).sum+c.ops.length*(4194305+pot c ob []):=by
  rw [<- sum_addk (fun x:OpD=>selL x.kids) (4194305+pot c ob [])]
  exact sum_mono fun x hx=>by
   have:=evOp_cnt h5 h6 h7 c.frags x
   have:=hv x hx
   omega
 have hf:(c.frags.map fun x=>cntE ob (evFr c.frags x)+pot c ob []).sum<=(c.frags.map fun x=>selL x.kids).sum+c.frags.length*(1+pot c ob []):=by
  rw [<- sum_addk (fun x:Frag=>selL x.kids) (1+pot c ob [])]
  exact sum_mono fun x hx=>by
   have:=evFr_cnt h5 h6 h7 c.frags x
   omega
 have k1:=Nat.mul_le_mul h1 (show 4194305+pot c ob []<=4194305+2097164 by omega)
 have k2:=Nat.mul_le_mul h2 (show 1+pot c ob []<=1+2097164 by omega)
 unfold spN
 unfold selTot at hs
 omega
mutual
def condS:Sel->List BA
 | .mk k al n on args dirs kids=>(if k=2/\on≠E0 then [on] else [])++condL kids
def condL:List Sel->List BA
 | []=>[]
 | s::l=>condS s++condL l
end
def onS:Sel->BA
 | .mk _ _ _ on _ _ _=>on
theorem evL_inl (fs:List Frag):∀ (l:List Sel),okSels l->∀ n,n∈condL l↔n≠E0/\∃ s,Ev.inl s∈evL fs l/\onS s=n
 | [],_,n=>by simp [condL,evL]
 | .mk k al nm on args dirs kids::l,hok,n=>by
  simp only [okSels,okSel] at hok
  obtain ⟨⟨hk,-, -, hkids,hk1,-⟩,hl⟩:=hok
  have ih1:=evL_inl fs kids hkids n
  have ih2:=evL_inl fs l hl n
  have ha:∀ s (l:List Argm),Ev.inl s∉evArgs l:=fun s l h=>by have:=evArgs_slot _ h;simp [slot] at this
  have hd:∀ s loc (l:List Dir),Ev.inl s∉evDs loc l:=fun s loc l h=>by have:=evDs_slot _ h;simp [slot] at this
  have key:(n∈condS (.mk k al nm on args dirs kids))↔n≠E0/\∃ s,Ev.inl s∈evS fs (.mk k al nm on args dirs kids)/\onS s=n:=by
   simp only [condS,List.mem_append,ih1]
   rcases hk with rfl|rfl|rfl
   ·simp only [evS,if_true,List.mem_append,List.mem_cons,List.not_mem_nil,or_false,ha,hd,false_or]
    simp
   ·rw [(hk1 rfl).2]
    simp [evS,evL,hd,spEv]
   ·simp only [evS,List.mem_append,List.mem_cons,List.not_mem_nil,or_false,hd,false_or,true_and]
    constructor
    ·rintro (h|⟨h1,s,h2,h3⟩)
     ·split at h
      ·rename_i hon
       obtain rfl:n=on:=by simpa using h
       exact ⟨hon,.mk 2 al nm n args dirs kids,by simp,rfl⟩
      ·simp at h
     ·exact ⟨h1,s,by simp [h2],h3⟩
    ·rintro ⟨h1,s,h2,h3⟩
     have h2':Ev.inl s∈evL fs kids∨s=.mk 2 al nm on args dirs kids:=by simpa [hd] using h2
     rcases h2' with h2|rfl
     ·exact .inr ⟨h1,s,h2,h3⟩
     ·refine .inl ?_
      have:on=n:=h3
      subst this
      simp [h1]
  simp only [condL,evL,List.mem_append,key,ih2]
  constructor
  ·rintro (⟨h1,s,h2,h3⟩|⟨h1,s,h2,h3⟩)
   ·exact ⟨h1,s,.inl h2,h3⟩
   ·exact ⟨h1,s,.inr h2,h3⟩
  ·rintro ⟨h1,s,h2|h2,h3⟩
   ·exact .inl ⟨h1,s,h2,h3⟩
   ·exact .inr ⟨h1,s,h2,h3⟩
theorem evVars_slot {l:List VarD}:∀ e∈evVars l,slot e=5∨slot e=6∨slot e=7∨slot e=8:=fun e he=>by
 rcases List.mem_append.1 he with he|he
 ·obtain ⟨v,-, rfl⟩:=List.mem_map.1 he
  exact .inr (.inr (.inr rfl))
 ·obtain ⟨v,-, he⟩:=List.mem_flatMap.1 he
  rcases List.mem_append.1 he with he|he
  ·exact .inr (.inr (.inl (evDef_slot e he)))
  ·rcases evDs_slot e he with h|h|h
   ·exact .inl h
   ·exact .inr (.inl h)
   ·exact .inr (.inr (.inl h))
theorem inl_op {fs:List Frag}{x:OpD}{s:Sel}:Ev.inl s∈evOp fs x↔Ev.inl s∈evL fs x.kids:=by
 simp only [evOp,List.mem_append]
 constructor
 ·rintro (h|h|h|h)
  ·have:=evVars_slot _ h;simp [slot] at this
  ·have:=evDs_slot _ h;simp [slot] at this
  ·exact h
  ·simp at h
 ·exact fun h=>.inr (.inr (.inl h))
theorem inl_fr {fs:List Frag}{x:Frag}{s:Sel}:Ev.inl s∈evFr fs x↔Ev.inl s∈evL fs x.kids:=by
 simp only [evFr,List.mem_append]
 constructor
 ·rintro (h|h|h)
  ·have:=evDs_slot _ h;simp [slot] at this
  ·exact h
  ·simp at h
 ·exact fun h=>.inr (.inl h)
end Go.VC
namespace Go.VC
open Go Go.Proofs
variable [DB]
theorem evL_slot (fs:List Frag):∀ (l:List Sel),∀ e∈evL fs l,slot e=1∨slot e=3∨slot e=4∨slot e=5∨slot e=6∨slot e=7
 | [],e,he=>by simp [evL] at he
 | .mk k al nm on args dirs kids::l,e,he=>by
  have ih1:=evL_slot fs kids
  have ih2:=evL_slot fs l
  simp only [evL,List.mem_append] at he
  rcases he with he|he
  ·simp only [evS] at he
   split at he
   ·simp only [List.mem_append,List.mem_cons,List.not_mem_nil,or_false] at he
    rcases he with he|he|he|rfl
    ·have:=evArgs_slot e he;omega
    ·have:=evDs_slot e he;omega
    ·exact ih1 e he
    ·exact .inl rfl
   ·split at he
    ·simp only [List.mem_append,List.mem_cons,List.not_mem_nil,or_false] at he
     rcases he with he|rfl
     ·have:=evDs_slot e he;omega
     ·exact .inr (.inr (.inl rfl))
    ·simp only [List.mem_append,List.mem_cons,List.not_mem_nil,or_false] at he
     rcases he with he|he|rfl
     ·have:=evDs_slot e he;omega
     ·exact ih1 e he
     ·exact .inr (.inl rfl)
  ·exact ih2 e he
theorem op_op {fs:List Frag}{x o:OpD}:Ev.op o∈evOp fs x↔o=x:=by
 simp only [evOp,List.mem_append]
 constructor
 ·rintro (h|h|h|h)
  ·have:=evVars_slot _ h;simp [slot] at this
  ·have:=evDs_slot _ h;simp [slot] at this
  ·have:=evL_slot _ _ _ h;simp [slot] at this
  ·simpa using h
 ·rintro rfl
  simp
theorem op_fr {fs:List Frag}{x:Frag}{o:OpD}:Ev.op o∉evFr fs x:=by
 simp only [evFr,List.mem_append]
 rintro (h|h|h)
 ·have:=evDs_slot _ h;simp [slot] at this
 ·have:=evL_slot _ _ _ h;simp [slot] at this
 ·simp at h
theorem frag_fr {fs:List Frag}{x f:Frag}:Ev.frag f∈evFr fs x↔f=x:=by
 simp only [evFr,List.mem_append]
 constructor
 ·rintro (h|h|h)
  ·have:=evDs_slot _ h;simp [slot] at this
  ·have:=evL_slot _ _ _ h;simp [slot] at this
  ·simpa using h
 ·rintro rfl
  simp
theorem frag_op {fs:List Frag}{x:OpD}{f:Frag}:Ev.frag f∉evOp fs x:=by
 simp only [evOp,List.mem_append]
 rintro (h|h|h|h)
 ·have:=evVars_slot _ h;simp [slot] at this
 ·have:=evDs_slot _ h;simp [slot] at this
 ·have:=evL_slot _ _ _ h;simp [slot] at this
 ·simp at h
theorem var_op {fs:List Frag}{x:OpD}{v:VarD}:Ev.var v∈evOp fs x↔v∈x.vars:=by
 simp only [evOp,evVars,List.mem_append]
 constructor
 ·rintro ((h|h)|h|h|h)
  ·simpa using h
  ·obtain ⟨y,-, he⟩:=List.mem_flatMap.1 h
   rcases List.mem_append.1 he with he|he
   ·have:=evDef_slot _ he;simp [slot] at this
   ·have:=evDs_slot _ he;simp [slot] at this
  ·have:=evDs_slot _ h;simp [slot] at this
  ·have:=evL_slot _ _ _ h;simp [slot] at this
  ·simp at h
 ·exact fun h=>.inl (.inl (List.mem_map.2 ⟨v,h,rfl⟩))
theorem var_fr {fs:List Frag}{x:Frag}{v:VarD}:Ev.var v∉evFr fs x:=by
 simp only [evFr,List.mem_append]
 rintro (h|h|h)
 ·have:=evDs_slot _ h;simp [slot] at this
 ·have:=evL_slot _ _ _ h;simp [slot] at this
 ·simp at h
theorem Told.bad {c:WCtx}{ob:Obs}{l:List Ev}(h:Told c ob c.ops c.frags l){bad:Ev->Prop}(hb:∀ e,bad e->ob.on (slot e)=true):(∃ e∈l,bad e)↔∃ e,DocEv c e/\bad e:=by
 constructor
 ·rintro ⟨e,he,hbad⟩
  exact ⟨e,(h.only e he).1,hbad⟩
 ·rintro ⟨e,⟨x,hx,he⟩|⟨x,hx,he⟩,hbad⟩
  ·exact ⟨e,h.all.1 x hx e he (hb e hbad),hbad⟩
  ·exact ⟨e,h.all.2 x hx e he (hb e hbad),hbad⟩
theorem ex_snoc {α:Type}{P:α->Prop}{l:List α}{x:α}:(∃ e∈l++[x],P e)↔(∃ e∈l,P e)∨P x:=by
 constructor
 ·rintro ⟨e,he,h⟩
  rcases List.mem_append.1 he with he|he
  ·exact .inl ⟨e,he,h⟩
  ·obtain rfl:e=x:=by simpa using he
   exact .inr h
 ·rintro (⟨e,he,h⟩|h)
  ·exact ⟨e,by simp [he],h⟩
  ·exact ⟨x,by simp,h⟩
abbrev StB (bad:Ev->Prop)(ae cnt:Nat)(l:List Ev)(w:World):Prop:=Cnt ae cnt l.length (∃ e∈l,bad e) w
theorem StB.good {bad:Ev->Prop}{ae cnt:Nat}{l:List Ev}{w:World}{ev:Ev}(h:StB bad ae cnt l w)(hb:¬ bad ev):StB bad ae cnt (l++[ev]) w:=
 Cnt.skip h (by simp) ⟨fun k=>ex_snoc.2 (.inl k),fun k=>(ex_snoc.1 k).elim id fun k=>absurd k hb⟩
theorem StB.told {bad:Ev->Prop}{ae cnt:Nat}{l:List Ev}{w:World}{ev:Ev}(h:Cnt ae cnt (l.length+1) True w)(hb:bad ev):StB bad ae cnt (l++[ev]) w:=
 Cnt.skip h (by simp) ⟨fun _=>ex_snoc.2 (.inr hb),fun _=>trivial⟩
theorem vars_few {c:WCtx}(h:PQuery c.M c.w0 c.ops c.frags c.qb):∀ x∈c.ops,x.vars.length<=4194304:=fun x hx=>by
 obtain ⟨A1,L1,C1,A2,L2,C2,pos,-, -, ⟨-, -, -, hops⟩,-⟩:=h
 obtain ⟨i,hi⟩:=List.mem_iff_getElem?.1 hx
 obtain ⟨p,v,-, -, -, b,-, hp⟩:=hops i x hi
 obtain ⟨B1,M1,D1,_,_,_,_,_,_,_,_,_,hv,-⟩:=hp
 have h1:=hv.1
 have h3:=hv.2.2.1
 omega
theorem OptQ.isNone {α:Type}{P:α->Nat->Prop}{d:Option α}{q:OA}(h:OptQ P d q):q.isNone=true↔d=none:=by
 cases d with
 | none=>rw [show q=none from h];simp
 | some d=>
  obtain ⟨b,rfl,-⟩:=h
  simp
theorem find_no {types:List Def}{n:BA}(h:(findD types n).2=false):(findD types n).1=noDef:=by
 unfold findD at h ⊢
 split
 ·rename_i d hd
  rw [hd] at h
  cases h
 ·rename_i hd
  rw [hd] at h
  split
  ·rename_i hs
   simp only [hs,if_true] at h
   cases h
  ·rfl
theorem find_E0 {types:List Def}{dirs:List DirDef}{defs:List SchemaDef}(h:OkSchema types dirs defs):(findD types E0).2=false:=by
 unfold findD
 split
 ·rename_i d hd
  have hn:d.name=E0:=bytes_beq_t.1 (List.find?_some (p:=fun d:Def=>d.name.toList==E0.toList) hd)
  exact absurd hn (h.names.2 _ (List.mem_map.2 ⟨d,List.mem_of_find?_eq_some hd,rfl⟩)).1
 ·have hs:(scal.any fun s=>s.toList==E0.toList)=false:=by kernel_rfl
  rw [if_neg (by rw [hs];decide)]
theorem Base.at3 {c:WCtx}(h:Base c)(wb fm:Nat)(fl:List (BA × Value)):Base (at3 c wb fm fl):=⟨h.m,h.sb,h.qb,h.m1,h.m2,h.okt,h.okd,h.sch,h.query,h.vars⟩
end Go.VC
namespace Go.VC
open Go Go.Proofs
variable [DB]
theorem c_laws_zzFits20 (d1:OA)(d1l d1c:Nat)(d2:OA)(d2l d2c:Nat)(d3:OA)(d3l d3c:Nat)(d4:OA)(d4l d4c:Nat)(d5:OA)(d5l d5c:Nat)(w:World):
  CP 9 #[.agg #[.slice d1 d1l d1c,.slice d2 d2l d2c,.slice d3 d3l d3c,.slice d4 d4l d4c,.slice d5 d5l d5c]] w (RetB w fun _=>True):=by
 have x:=(Ext.refl (X:=fun _=>False) w).alloc (.cells #[.slice d1 d1l d1c,.slice d2 d2l d2c,.slice d3 d3l d3c,.slice d4 d4l d4c,.slice d5 d5l d5c] 26)
 refine q_laws_zzFits20 d1 d1l d1c d2 d2l d2c d3 d3l d3c d4 d4l d4c d5 d5l d5c w _ ⟨trivial,?_⟩
 have f:∀ b:Bool,RetB w (fun _=>True) (.returned (.bool b)) (w.alloc (.cells #[.slice d1 d1l d1c,.slice d2 d2l d2c,.slice d3 d3l d3c,.slice d4 d4l d4c,.slice d5 d5l d5c] 26)):=fun b=>⟨b,rfl,x,trivial⟩
 exact ⟨fun _=>f _,fun _=>⟨fun _=>f _,fun _=>⟨fun _=>f _,fun _=>⟨fun _=>f _,fun _=>⟨fun _=>f _,fun _=>f _⟩⟩⟩⟩⟩
theorem c_laws_zzFits21 (d1:OA)(d1l d1c:Nat)(d2:OA)(d2l d2c:Nat)(w:World):
  CP 10 #[.agg #[.slice d1 d1l d1c,.slice d2 d2l d2c]] w (RetB w fun _=>True):=by
 have x:=(Ext.refl (X:=fun _=>False) w).alloc (.cells #[.slice d1 d1l d1c,.slice d2 d2l d2c] 30)
 refine q_laws_zzFits21 d1 d1l d1c d2 d2l d2c w _ ⟨trivial,?_⟩
 have f:∀ b:Bool,RetB w (fun _=>True) (.returned (.bool b)) (w.alloc (.cells #[.slice d1 d1l d1c,.slice d2 d2l d2c] 30)):=fun b=>⟨b,rfl,x,trivial⟩
 exact ⟨fun _=>f _,fun _=>⟨fun _=>f _,fun _=>f _⟩⟩
def toldB (n:Int)(ok want:Bool):Bool:=if ok=true then (if n>=0 then (decide (n>0)==want) else false) else false
theorem c_laws_told (n:Int)(ok want:Bool)(w:World):CP 15 #[.int .i64 n,.bool ok,.bool want] w fun e w'=>e=.returned (.bool (toldB n ok want))/\w'=w:=by
 refine q_laws_told n ok want w _ fun K4 hK4=>⟨fun ho=>⟨fun hn=>hK4 _ w ⟨?_,rfl⟩,fun hn=>hK4 _ w ⟨?_,rfl⟩⟩,fun ho=>hK4 _ w ⟨?_,rfl⟩⟩
 ·rw [toldB,if_pos ho,if_pos (of_decide_eq_true hn)]
 ·rw [toldB,if_pos ho,if_neg (of_decide_eq_false hn)]
 ·rw [toldB,ho];rfl
theorem told_true {n:Int}{b:Bool}(h0:0<=n)(h:n>0↔b=true):toldB n true b=true:=by
 rw [toldB,if_pos rfl,if_pos h0]
 cases b with
 | true=>simpa using h
 | false=>simpa using h
theorem flatMap_len {α β:Type}{f:α->List β}{m:Nat}:∀ {l:List α},(∀ x∈l,(f x).length<=m)->(l.flatMap f).length<=l.length*m
 | [],_=>by simp
 | x::l,h=>by
  have h1:=h x (by simp)
  have h2:=flatMap_len (l:=l) (f:=f) (m:=m) fun y hy=>h y (by simp [hy])
  rw [List.flatMap_cons,List.length_append,List.length_cons,Nat.add_mul]
  omega
theorem pushD_le {types:List Def}{l:List Named}{k m:Nat}(h1:l.length<=k)(h2:∀ x∈l,x.names.length<=m)(h3:k*m<=4194304):(pushD types l).length<=4194304:=by
 have:=flatMap_len (f:=fun x:Named=>pushOf types x.name x.names) (m:=m) (l:=l) fun x hx=>Nat.le_trans (List.length_filterMap_le _ _) (h2 x hx)
 have:=Nat.mul_le_mul_right m h1
 show (l.flatMap fun x=>pushOf types x.name x.names).length<=_
 omega
theorem okArgDef_pre {n t:BA}{b:Bool}(ht:t≠E0):okArgDef ⟨E0,n,.mk t [] b,[],[]⟩:=⟨by simpa [okTyp] using ht,⟨by simp,fun x hx=>by simp at hx⟩,fun x hx=>by simp at hx⟩
theorem wide_ok {types:List Def}{dirs:List DirDef}{defs:List SchemaDef}{roots:List RootD}(h:OkSchema types dirs defs):
  (∀ x∈(wideD types dirs roots).dirs,∀ y∈x.args,okArgDef y)/\(∀ x∈(wideD types dirs roots).types,okDef x)/\(pushD (wideD types dirs roots).types (wideD types dirs roots).possible).length<=4194304/\(pushD (wideD types dirs roots).types (wideD types dirs roots).implements).length<=4194304:=by
 have hn:=h.few.1
 have hposs:∀ n,(possibleD types n).length<=30:=fun n=>by
  unfold possibleD
  rw [List.length_map]
  exact Nat.le_trans (List.length_filter_le _ _) hn
 refine ⟨fun x hx y hy=>?_,fun x hx=>?_,pushD_le (k:=30) (m:=60) ?_ (fun x hx=>?_) (by omega),pushD_le (k:=30) (m:=60) ?_ (fun x hx=>?_) (by omega)⟩
 ·rcases List.mem_append.1 hx with hx|hx
  ·simp only [preDirs,List.mem_cons,List.not_mem_nil,or_false] at hx
   rcases hx with rfl|rfl|rfl|rfl
   ·obtain rfl:y=argIf:=by simpa [dInclude] using hy
    exact okArgDef_pre (by decide)
   ·obtain rfl:y=argIf:=by simpa [dSkip] using hy
    exact okArgDef_pre (by decide)
   ·obtain rfl:y=argReason:=by simpa [dDepr] using hy
    refine ⟨by simp only [argReason,okTyp];decide,⟨by simp [argReason],fun x hx=>?_⟩,fun x hx=>by simp [argReason] at hx⟩
    obtain rfl:=by simpa [argReason] using hx
    simp [okVal,okKids]
   ·obtain rfl:y=argUrl:=by simpa [dSpec] using hy
    exact okArgDef_pre (by decide)
  ·exact h.args x hx y hy
 ·rcases List.mem_append.1 hx with hx|hx
  ·obtain ⟨n,-, rfl⟩:=List.mem_map.1 hx
   exact ⟨.inl rfl,fun x hx=>by simp [scalarDef] at hx,fun x hx=>by simp [scalarDef] at hx,fun x hx=>by simp [scalarDef] at hx⟩
  ·exact h.ok x hx
 ·show (possN types types).length<=30
  unfold possN
  rw [List.length_map]
  exact Nat.le_trans (List.length_filter_le _ _) hn
 ·obtain ⟨t,-, rfl⟩:=List.mem_map.1 hx
  show (enumeratedD types t.name).length<=60
  unfold enumeratedD
  rw [List.length_append,List.length_map]
  have h1:=hposs t.name
  have h2:=List.length_filter_le (enumQ types t.name) types
  omega
 ·show (implN types types).length<=30
  unfold implN
  rw [List.length_map]
  exact Nat.le_trans (List.length_filter_le _ _) hn
 ·obtain ⟨t,-, rfl⟩:=List.mem_map.1 hx
  show (implementedD types t.name).length<=60
  unfold implementedD
  rw [List.length_append,List.length_map]
  have h2:=List.length_filter_le (implQ t.name) types
  have h1:(findD types t.name).1.ifaces.length<=12:=by
   unfold findD
   split
   ·rename_i d hd
    have:=h.small d (List.mem_of_find?_eq_some hd)
    show d.ifaces.length<=12
    omega
   ·split
    ·simp [scalarDef]
    ·simp [noDef]
  omega
end Go.VC
