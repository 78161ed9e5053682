/- Part of the proof of a law of a rule over documents (LawA), where what the arguments hold is of bulk at most 1048576. -/
import Derived.Test.YtimdonbcgiakgaaGreatWideB
import Derived.Test.YtimdonbcgiakgaaGreatMakeC
import Derived.Test.YtimdonbcgiakgaaGreatReadA
import Derived.Test.YtimdonbcgiakgaaGreatWalkD
import Derived.Test.YtimdonbcgiakgaaGreatWalkC
set_option linter.unusedVariables false
set_option linter.unusedSectionVars false
namespace Go.VC
open Go Go.Proofs
variable [DB]
theorem nodup_snoc {α:Type}{l:List α}{x:α}:(l++[x]).Nodup↔l.Nodup/\x∉l:=by
 rw [List.nodup_append]
 simp
 intro _
 constructor
 ·intro h hx
  exact h x hx rfl
 ·intro h a ha e
  exact h (e▸ha)
theorem sum_addk {α:Type}(f:α->Nat)(k:Nat):∀ xs:List α,(xs.map fun x=>f x+k).sum=(xs.map f).sum+xs.length*k
 | []=>by simp
 | x::xs=>by
  simp only [List.map_cons,List.sum_cons,List.length_cons,sum_addk f k xs,Nat.add_mul]
  omega
theorem sum_mono {α:Type}{f g:α->Nat}:∀ {xs:List α},(∀ x∈xs,f x<=g x)->(xs.map f).sum<=(xs.map g).sum
 | [],_=>Nat.le_refl _
 | x::xs,h=>by
  have h1:=h x (by simp)
  have h2:=sum_mono (xs:=xs) fun y hy=>h y (by simp [hy])
  simp only [List.map_cons,List.sum_cons]
  omega
mutual
def condS:Sel->List BA
 | .mk k al n on args dirs kids=>(if k=2/\on≠E0 then [on] else [])++condL kids
def condL:List Sel->List BA
 | []=>[]
 | s::l=>condS s++condL l
end
def onS:Sel->BA
 | .mk _ _ _ on _ _ _=>on
theorem cntE_le (ob:Obs)(l:List Ev):cntE ob l<=l.length:=List.length_filter_le _ _
section
variable {cx:Option OpD}
mutual
theorem evV_len:∀ v:Val,(evV cx v).length<=valW v
 | .mk k r kids=>by
  have:=evKids_len kids
  simp only [evV,valW,List.length_append,List.length_cons,List.length_nil]
  by_cases h9:k=9
  ·rw [if_pos h9,if_neg (by omega)]
   simp only [List.length_nil]
   omega
  ·rw [if_neg h9]
   by_cases h8:k=8
   ·rw [if_pos h8]
    simp only [List.length_nil]
    omega
   ·rw [if_neg h8]
    simp only [List.length_nil]
    omega
theorem evKids_len:∀ l:List (BA × Val),(evKids cx l).length<=kidsW l
 | []=>Nat.le_refl _
 | x::l=>by
  have h1:=evV_len x.2
  have h2:=evKids_len l
  simp only [evKids,kidsW,List.length_append]
  omega
end
theorem fm_len {α β:Type}{f:α->List β}{g:α->Nat}:∀ {l:List α},(∀ x∈l,(f x).length<=g x)->(l.flatMap f).length<=(l.map g).sum
 | [],_=>by simp
 | x::l,h=>by
  have h1:=h x (by simp)
  have h2:=fm_len (l:=l) (f:=f) (g:=g) fun y hy=>h y (by simp [hy])
  simp only [List.flatMap_cons,List.length_append,List.map_cons,List.sum_cons]
  omega
theorem evArgs_len (l:List Argm):(evArgs cx l).length<=argsW l:=fm_len fun x _=>by
 have:=evV_len (cx:=cx) x.v
 simp only [argW]
 omega
theorem evDs_len (loc:BA)(l:List Dir):(evDs cx loc l).length<=dirsW l+1:=by
 have:(l.flatMap fun d=>evArgs cx d.args++[.dir d loc]).length<=(l.map dirW).sum:=fm_len fun x _=>by
  have:=evArgs_len (cx:=cx) x.args
  simp only [dirW,List.length_append,List.length_cons,List.length_nil]
  omega
 simp only [evDs,dirsW,List.length_append,List.length_cons,List.length_nil]
 omega
theorem evL_len {tys:List Def}{fs:List Frag}:∀ (l:List Sel) (pd:Option Def),(evL tys fs cx pd l).length<=2*selsW l
 | [],pd=>Nat.le_refl _
 | .mk k al n on args dirs kids::l,pd=>by
  have h1:=evArgs_len (cx:=cx) args
  have h2:=evDs_len (cx:=cx) bField dirs
  have h3:=evDs_len (cx:=cx) bSpread dirs
  have h4:=evDs_len (cx:=cx) bInline dirs
  have h5:=evL_len (tys:=tys) (fs:=fs) kids (nextD tys pd n)
  have h5':=evL_len (tys:=tys) (fs:=fs) kids (inlD tys pd on)
  have h6:=evL_len (tys:=tys) (fs:=fs) l pd
  simp only [evL,evS,selsW,selW,List.length_append]
  split
  ·simp only [List.length_append,List.length_cons,List.length_nil];omega
  ·split
   ·simp only [List.length_append,List.length_cons,List.length_nil];omega
   ·simp only [List.length_append,List.length_cons,List.length_nil];omega
theorem evFr_len {tys:List Def}{fs:List Frag}(x:Frag):(evFr tys fs cx x).length<=2*fragW x:=by
 have h3:=evDs_len (cx:=cx) bFragLoc x.dirs
 have h4:=evL_len (cx:=cx) (tys:=tys) (fs:=fs) x.kids (lastN Def.name tys x.on)
 simp only [evFr,fragW,List.length_append]
 omega
end
theorem evOp_len (c:WCtx)(x:OpD):(evOp c x).length<=2*opW x:=by
 have h1:(x.vars.flatMap fun v=>evDef (some x) v.dflt++evDs (some x) bVarLoc v.dirs).length<=varsW x.vars:=fm_len (g:=varW) fun v _=>by
  have h2:=evDs_len (cx:=some x) bVarLoc v.dirs
  have h3:(evDef (some x) v.dflt).length<=valsW v.dflt:=by
   cases v.dflt with
   | nil=>exact Nat.le_refl _
   | cons y r=>
    have:=evV_len (cx:=some x) y
    simp only [evDef,valsW,List.map_cons,List.sum_cons]
    omega
  rw [List.length_append,varW]
  have:1<=typW v.t:=by cases v.t;simp only [typW];omega
  omega
 have h2:x.vars.length<=varsW x.vars:=lenW_sum fun y _=>by simp only [varW];omega
 have h3:=evDs_len (cx:=some x) (opLoc x.kind) x.dirs
 have h4:=evL_len (cx:=some x) (tys:=c.types) (fs:=c.frags) x.kids (rootT c x.kind)
 simp only [evOp,evVars,opW,List.length_append,List.length_map,List.length_cons,List.length_nil] at h1 ⊢
 omega
theorem sum_two {α:Type}(f:α->Nat):∀ l:List α,(l.map fun x=>2*f x).sum=2*(l.map f).sum
 | []=>rfl
 | x::l=>by simp only [List.map_cons,List.sum_cons,sum_two f l];omega
theorem spN_few {c:WCtx}{ob:Obs}(h1:c.ops.length<=12)(h2:c.frags.length<=12)(hs:docW c.ops c.frags<=2097152):spN c ob c.ops c.frags<=1073741824:=by
 have hp:∀ cx,ptN c ob cx<=2*(c.frags.map fragW).sum:=fun cx=>by
  unfold ptN
  rw [<- sum_two fragW]
  exact sum_mono fun f _=>Nat.le_trans (cntE_le _ _) (evFr_len f)
 unfold docW at hs
 have hpt:∀ cx,ptN c ob cx<=4194304:=fun cx=>by
  have:=hp cx
  omega
 have ho:(c.ops.map fun x=>cntE ob (evOp c x)+ptN c ob (some x)).sum<=2*(c.ops.map opW).sum+c.ops.length*4194304:=by
  rw [<- sum_two opW,<- sum_addk (fun x:OpD=>2*opW x) 4194304]
  exact sum_mono fun x hx=>Nat.add_le_add (Nat.le_trans (cntE_le _ _) (evOp_len c x)) (hpt _)
 have hf:(c.frags.map fun x=>cntE ob (evFr c.types c.frags none x)+1+ptN c ob none).sum<=2*(c.frags.map fragW).sum+c.frags.length*4194305:=by
  rw [<- sum_two fragW,<- sum_addk (fun x:Frag=>2*fragW x) 4194305]
  exact sum_mono fun x hx=>by
   have k1:=Nat.le_trans (cntE_le ob _) (evFr_len (cx:=none) (tys:=c.types) (fs:=c.frags) x)
   have k2:=hpt none
   omega
 have k1:=Nat.mul_le_mul_right 4194304 h1
 have k2:=Nat.mul_le_mul_right 4194305 h2
 unfold spN
 omega
theorem c_laws_zzFits20 (d1:OA)(d1l d1c:Nat)(d2:OA)(d2l d2c:Nat)(d3:OA)(d3l d3c:Nat)(d4:OA)(d4l d4c:Nat)(d5:OA)(d5l d5c:Nat)(w:World):
  CP 11 #[.agg #[.slice d1 d1l d1c,.slice d2 d2l d2c,.slice d3 d3l d3c,.slice d4 d4l d4c,.slice d5 d5l d5c]] w (RetB w fun _=>True):=by
 have x:=(Ext.refl (X:=fun _=>False) w).alloc (.cells #[.slice d1 d1l d1c,.slice d2 d2l d2c,.slice d3 d3l d3c,.slice d4 d4l d4c,.slice d5 d5l d5c] 26)
 refine q_laws_zzFits20 d1 d1l d1c d2 d2l d2c d3 d3l d3c d4 d4l d4c d5 d5l d5c w _ ⟨trivial,?_⟩
 have f:∀ b:Bool,RetB w (fun _=>True) (.returned (.bool b)) (w.alloc (.cells #[.slice d1 d1l d1c,.slice d2 d2l d2c,.slice d3 d3l d3c,.slice d4 d4l d4c,.slice d5 d5l d5c] 26)):=fun b=>⟨b,rfl,x,trivial⟩
 exact ⟨fun _=>f _,fun _=>⟨fun _=>f _,fun _=>⟨fun _=>f _,fun _=>⟨fun _=>f _,fun _=>⟨fun _=>f _,fun _=>f _⟩⟩⟩⟩⟩
theorem c_laws_zzFits21 (d1:OA)(d1l d1c:Nat)(d2:OA)(d2l d2c:Nat)(w:World):
  CP 12 #[.agg #[.slice d1 d1l d1c,.slice d2 d2l d2c]] w (RetB w fun _=>True):=by
 have x:=(Ext.refl (X:=fun _=>False) w).alloc (.cells #[.slice d1 d1l d1c,.slice d2 d2l d2c] 30)
 refine q_laws_zzFits21 d1 d1l d1c d2 d2l d2c w _ ⟨trivial,?_⟩
 have f:∀ b:Bool,RetB w (fun _=>True) (.returned (.bool b)) (w.alloc (.cells #[.slice d1 d1l d1c,.slice d2 d2l d2c] 30)):=fun b=>⟨b,rfl,x,trivial⟩
 exact ⟨fun _=>f _,fun _=>⟨fun _=>f _,fun _=>f _⟩⟩
def toldB (n:Int)(ok want:Bool):Bool:=if ok=true then (if n>=0 then (decide (n>0)==want) else false) else false
theorem c_laws_told (n:Int)(ok want:Bool)(w:World):CP 18 #[.int .i64 n,.bool ok,.bool want] w fun e w'=>e=.returned (.bool (toldB n ok want))/\w'=w:=by
 refine q_laws_told n ok want w _ fun K4 hK4=>⟨fun ho=>⟨fun hn=>hK4 _ w ⟨?_,rfl⟩,fun hn=>hK4 _ w ⟨?_,rfl⟩⟩,fun ho=>hK4 _ w ⟨?_,rfl⟩⟩
 ·rw [toldB,if_pos ho,if_pos (odt hn)]
 ·rw [toldB,if_pos ho,if_neg (odf hn)]
 ·rw [toldB,ho];rfl
theorem told_true {n:Int}{b:Bool}(h0:0<=n)(h:n>0↔b=true):toldB n true b=true:=by
 rw [toldB,if_pos rfl,if_pos h0]
 cases b with
 | true=>simpa using h
 | false=>simpa using h
theorem flatMap_len {α β:Type}{f:α->List β}{m:Nat}:∀ {l:List α},(∀ x∈l,(f x).length<=m)->(l.flatMap f).length<=l.length*m
 | [],_=>by simp
 | x::l,h=>by
  have h1:=h x (by simp)
  have h2:=flatMap_len (l:=l) (f:=f) (m:=m) fun y hy=>h y (by simp [hy])
  rw [List.flatMap_cons,List.length_append,List.length_cons,Nat.add_mul]
  omega
theorem pushD_le {types:List Def}{l:List Named}{k m:Nat}(h1:l.length<=k)(h2:∀ x∈l,x.names.length<=m)(h3:k*m<=4194304):(pushD types l).length<=4194304:=by
 have:=flatMap_len (f:=fun x:Named=>pushOf types x.name x.names) (m:=m) (l:=l) fun x hx=>Nat.le_trans (List.length_filterMap_le _ _) (h2 x hx)
 have:=Nat.mul_le_mul_right m h1
 show (l.flatMap fun x=>pushOf types x.name x.names).length<=_
 omega
theorem okArgDef_pre {n t:BA}{b:Bool}(ht:t≠E0):okArgDef ⟨E0,n,.mk t [] b,[],[]⟩:=⟨by simpa [okTyp] using ht,⟨by simp,fun x hx=>by simp at hx⟩,fun x hx=>by simp at hx⟩
theorem wide_ok {types:List Def}{dirs:List DirDef}{defs:List SchemaDef}{roots:List RootD}(h:OkSchema types dirs defs):
  (∀ x∈(wideD types dirs roots).dirs,∀ y∈x.args,okArgDef y)/\(∀ x∈(wideD types dirs roots).types,okDef x)/\(pushD (wideD types dirs roots).types (wideD types dirs roots).possible).length<=4194304/\(pushD (wideD types dirs roots).types (wideD types dirs roots).implements).length<=4194304:=by
 have hn:=h.few.1
 have hposs:∀ n,(possibleD types n).length<=30:=fun n=>by
  unfold possibleD
  rw [List.length_map]
  exact Nat.le_trans (List.length_filter_le _ _) hn
 refine ⟨fun x hx y hy=>?_,fun x hx=>?_,pushD_le (k:=30) (m:=60) ?_ (fun x hx=>?_) (by omega),pushD_le (k:=30) (m:=60) ?_ (fun x hx=>?_) (by omega)⟩
 ·rcases List.mem_append.1 hx with hx|hx
  ·simp only [preDirs,List.mem_cons,List.not_mem_nil,or_false] at hx
   rcases hx with rfl|rfl|rfl|rfl
   ·obtain rfl:y=argIf:=by simpa [dInclude] using hy
    exact okArgDef_pre (by decide)
   ·obtain rfl:y=argIf:=by simpa [dSkip] using hy
    exact okArgDef_pre (by decide)
   ·obtain rfl:y=argReason:=by simpa [dDepr] using hy
    refine ⟨by simp only [argReason,okTyp];decide,⟨by simp [argReason],fun x hx=>?_⟩,fun x hx=>by simp [argReason] at hx⟩
    obtain rfl:=by simpa [argReason] using hx
    simp [okVal,okKids]
   ·obtain rfl:y=argUrl:=by simpa [dSpec] using hy
    exact okArgDef_pre (by decide)
  ·exact h.args x hx y hy
 ·rcases List.mem_append.1 hx with hx|hx
  ·obtain ⟨n,-, rfl⟩:=List.mem_map.1 hx
   exact ⟨.inl rfl,fun x hx=>by simp [scalarDef] at hx,fun x hx=>by simp [scalarDef] at hx,fun x hx=>by simp [scalarDef] at hx,.inl rfl⟩
  ·exact h.ok x hx
 ·show (possN types types).length<=30
  unfold possN
  rw [List.length_map]
  exact Nat.le_trans (List.length_filter_le _ _) hn
 ·obtain ⟨t,-, rfl⟩:=List.mem_map.1 hx
  show (enumeratedD types t.name).length<=60
  unfold enumeratedD
  rw [List.length_append,List.length_map]
  have h1:=hposs t.name
  have h2:=List.length_filter_le (enumQ types t.name) types
  omega
 ·show (implN types types).length<=30
  unfold implN
  rw [List.length_map]
  exact Nat.le_trans (List.length_filter_le _ _) hn
 ·obtain ⟨t,-, rfl⟩:=List.mem_map.1 hx
  show (implementedD types t.name).length<=60
  unfold implementedD
  rw [List.length_append,List.length_map]
  have h2:=List.length_filter_le (implQ t.name) types
  have h1:(findD types t.name).1.ifaces.length<=12:=by
   unfold findD
   split
   ·rename_i d hd
    have:=h.small d (List.mem_of_find?_eq_some hd)
    show d.ifaces.length<=12
    omega
   ·split
    ·simp [scalarDef]
    ·simp [noDef]
  omega
section
variable {tys:List Def} {fs:List Frag} {cx:Option OpD}
end
theorem nodup_map_inj {α β:Type}{f:α->β}:∀ {l:List α} {x y:α},(l.map f).Nodup->x∈l->y∈l->f x=f y->x=y
 | a::l,x,y,h,hx,hy,e=>by
  rw [List.map_cons,List.nodup_cons] at h
  rcases List.mem_cons.1 hx with h1|h1
  ·rcases List.mem_cons.1 hy with h2|h2
   ·rw [h1,h2]
   ·exact absurd (List.mem_map.2 ⟨y,h2,by rw [<- e,h1]⟩) h.1
  ·rcases List.mem_cons.1 hy with h2|h2
   ·exact absurd (List.mem_map.2 ⟨x,h1,by rw [e,h2]⟩) h.1
   ·exact nodup_map_inj h.2 h1 h2 e
end Go.VC
