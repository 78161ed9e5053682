/- Part of the proof of a law of a rule over documents (LawA), where what the arguments hold is of bulk at most 1048576. -/
import Derived.Test.YtkgkigklbpefgaaGreatMakeC
import Derived.Test.YtkgkigklbpefgaaGreatWalkD
import Derived.Test.YtkgkigklbpefgaaGreatWideB
import Derived.Test.YtkgkigklbpefgaaGreatBaseC
set_option linter.unusedVariables false
set_option linter.unusedSimpArgs false
set_option linter.unusedSectionVars false
namespace Go.VC
open Go Go.Proofs
variable [DB]
theorem t_K (fs:List Frag):∀ (l:List Sel),∀ e∈evL fs l,slot e=1∨slot e=3∨slot e=4∨slot e=5∨slot e=6∨slot e=7
 | [],e,he=>by simp [evL] at he
 | .mk k al nm on args dirs kids::l,e,he=>by
  have ih1:=t_K fs kids;have ih2:=t_K fs l;simp only [evL,ma_] at he;rcases he with he|he
  ·simp only [evS] at he;split at he
   ·simp only [ma_,mc_,nn_,or_false] at he;rcases he with he|he|he|rfl
    ·have:=d_8 e he;omega
    ·have:=b_C e he;omega
    ·exact ih1 e he
    ·exact .inl rfl
   ·split at he
    ·simp only [ma_,mc_,nn_,or_false] at he;rcases he with he|rfl
     ·have:=b_C e he;omega
     ·exact .inr (.inr (.inl rfl))
    ·simp only [ma_,mc_,nn_,or_false] at he;rcases he with he|he|rfl
     ·have:=b_C e he;omega
     ·exact ih1 e he
     ·exact .inr (.inl rfl)
  ·exact ih2 e he
theorem t_2 {fs:List Frag}{x f:Frag}:Ev.frag f∈evFr fs x↔f=x:=by
 simp only [evFr,ma_];constructor
 ·rintro (h|h|h)
  ·have:=b_C _ h;simp [slot] at this
  ·have:=t_K _ _ _ h;simp [slot] at this
  ·simpa using h
 ·rintro rfl;simp
theorem Told.bad {c:WCtx}{ob:Obs}{l:List Ev}(h:Told c ob c.ops c.frags l){bad:Ev->Prop}(hb:∀ e,bad e->ob.on (slot e)=true):(∃ e∈l,bad e)↔∃ e,DocEv c e/\bad e:=by
 constructor
 ·rintro ⟨e,he,hbad⟩;exact ⟨e,(h.only e he).1,hbad⟩
 ·rintro ⟨e,⟨x,hx,he⟩|⟨x,hx,he⟩,hbad⟩
  ·exact ⟨e,h.all.1 x hx e he (hb e hbad),hbad⟩
  ·exact ⟨e,h.all.2 x hx e he (hb e hbad),hbad⟩
theorem i_p {α:Type}{P:α->Prop}{l:List α}{x:α}:(∃ e∈l++[x],P e)↔(∃ e∈l,P e)∨P x:=by
 constructor
 ·rintro ⟨e,he,h⟩;rcases ma_.1 he with he|he
  ·exact .inl ⟨e,he,h⟩
  ·obtain rfl:e=x:=by simpa using he
   exact .inr h
 ·rintro (⟨e,he,h⟩|h)
  ·exact ⟨e,by simp [he],h⟩
  ·exact ⟨x,by simp,h⟩
abbrev StB (bad:Ev->Prop)(ae cnt:Nat)(l:List Ev)(w:World):Prop:=Cnt ae cnt l.length (∃ e∈l,bad e) w
theorem StB.good {bad:Ev->Prop}{ae cnt:Nat}{l:List Ev}{w:World}{ev:Ev}(h:StB bad ae cnt l w)(hb:¬ bad ev):StB bad ae cnt (l++[ev]) w:=
 Cnt.skip h (by simp) ⟨fun k=>i_p.2 (.inl k),fun k=>(i_p.1 k).elim id fun k=>absurd k hb⟩
theorem OptQ.isNone {α:Type}{P:α->Nat->Prop}{d:Option α}{q:OA}(h:OptQ P d q):q.isNone=true↔d=none:=by
 cases d with
 | none=>rw [show q=none from h];simp
 | some d=>
  obtain ⟨b,rfl,-⟩:=h;simp
theorem Base.at3 {c:WCtx}(h:Base c)(wb fm:Nat)(fl:List (BA × Value)):Base (at3 c wb fm fl):=⟨h.m,h.sb,h.qb,h.m1,h.m2,h.okt,h.okd,h.sch,h.query,h.vars⟩
theorem f_4 (d1:OA)(d1l d1c:Nat)(d2:OA)(d2l d2c:Nat)(d3:OA)(d3l d3c:Nat)(d4:OA)(d4l d4c:Nat)(d5:OA)(d5l d5c:Nat)(w:World):
  CP 11 #[.agg #[.slice d1 d1l d1c,.slice d2 d2l d2c,.slice d3 d3l d3c,.slice d4 d4l d4c,.slice d5 d5l d5c]] w (RetB w fun _=>True):=by
 have x:=(Ext.refl (X:=fun _=>False) w).alloc (.cells #[.slice d1 d1l d1c,.slice d2 d2l d2c,.slice d3 d3l d3c,.slice d4 d4l d4c,.slice d5 d5l d5c] 26);refine g_F d1 d1l d1c d2 d2l d2c d3 d3l d3c d4 d4l d4c d5 d5l d5c w _ ⟨trivial,?_⟩;have f:∀ b:Bool,RetB w (fun _=>True) (.returned (.bool b)) (w.alloc (.cells #[.slice d1 d1l d1c,.slice d2 d2l d2c,.slice d3 d3l d3c,.slice d4 d4l d4c,.slice d5 d5l d5c] 26)):=fun b=>⟨b,rfl,x,trivial⟩;exact ⟨fun _=>f _,fun _=>⟨fun _=>f _,fun _=>⟨fun _=>f _,fun _=>⟨fun _=>f _,fun _=>⟨fun _=>f _,fun _=>f _⟩⟩⟩⟩⟩
theorem f_5 (d1:OA)(d1l d1c:Nat)(d2:OA)(d2l d2c:Nat)(w:World):
  CP 12 #[.agg #[.slice d1 d1l d1c,.slice d2 d2l d2c]] w (RetB w fun _=>True):=by
 have x:=(Ext.refl (X:=fun _=>False) w).alloc (.cells #[.slice d1 d1l d1c,.slice d2 d2l d2c] 30);refine g_G d1 d1l d1c d2 d2l d2c w _ ⟨trivial,?_⟩;have f:∀ b:Bool,RetB w (fun _=>True) (.returned (.bool b)) (w.alloc (.cells #[.slice d1 d1l d1c,.slice d2 d2l d2c] 30)):=fun b=>⟨b,rfl,x,trivial⟩;exact ⟨fun _=>f _,fun _=>⟨fun _=>f _,fun _=>f _⟩⟩
def toldB (n:Int)(ok want:Bool):Bool:=if ok=true then (if n>=0 then (decide (n>0)==want) else false) else false
theorem j_9 (n:Int)(ok want:Bool)(w:World):CP 19 #[.int .i64 n,.bool ok,.bool want] w fun e w'=>e=.returned (.bool (toldB n ok want))/\w'=w:=by
 refine k_w n ok want w _ fun K4 hK4=>⟨fun ho=>⟨fun hn=>hK4 _ w ⟨?_,rfl⟩,fun hn=>hK4 _ w ⟨?_,rfl⟩⟩,fun ho=>hK4 _ w ⟨?_,rfl⟩⟩
 ·rw [toldB,if_pos ho,if_pos (odt hn)]
 ·rw [toldB,if_pos ho,if_neg (odf hn)]
 ·rw [toldB,ho];rfl
theorem n_f {n:Int}{b:Bool}(h0:0<=n)(h:n>0↔b=true):toldB n true b=true:=by
 rw [toldB,if_pos rfl,if_pos h0];cases b with
 | true=>simpa using h
 | false=>simpa using h
theorem g_j {α β:Type}{f:α->List β}{m:Nat}:∀ {l:List α},(∀ x∈l,(f x).length<=m)->(l.flatMap f).length<=l.length*m
 | [],_=>by simp
 | x::l,h=>by
  have h1:=h x (by simp);have h2:=g_j (l:=l) (f:=f) (m:=m) fun y hy=>h y (by simp [hy]);rw [List.flatMap_cons,la_,List.length_cons,Nat.add_mul];omega
theorem k_8 {types:List Def}{l:List Named}{k m:Nat}(h1:l.length<=k)(h2:∀ x∈l,x.names.length<=m)(h3:k*m<=4194304):(pushD types l).length<=4194304:=by
 have:=g_j (f:=fun x:Named=>b_W types x.name x.names) (m:=m) (l:=l) fun x hx=>lt_ (List.length_filterMap_le _ _) (h2 x hx);have:=Nat.mul_le_mul_right m h1;show (l.flatMap fun x=>b_W types x.name x.names).length<=_;omega
theorem d_p {n t:BA}{b:Bool}(ht:t≠E0):a_s ⟨E0,n,.mk t [] b,[],[]⟩:=⟨by simpa [okTyp] using ht,⟨by simp,fun x hx=>by simp at hx⟩,fun x hx=>by simp at hx⟩
theorem k_I {types:List Def}{dirs:List DirDef}{defs:List SchemaDef}{roots:List RootD}(h:OkSchema types dirs defs):
  (∀ x∈(wideD types dirs roots).dirs,∀ y∈x.args,a_s y)/\(∀ x∈(wideD types dirs roots).types,okDef x)/\(pushD (wideD types dirs roots).types (wideD types dirs roots).possible).length<=4194304/\(pushD (wideD types dirs roots).types (wideD types dirs roots).implements).length<=4194304:=by
 have hn:=h.few.1;have hposs:∀ n,(d_r types n).length<=30:=fun n=>by
  unfold d_r;rw [List.length_map];exact lt_ (List.length_filter_le _ _) hn
 refine ⟨fun x hx y hy=>?_,fun x hx=>?_,k_8 (k:=30) (m:=60) ?_ (fun x hx=>?_) (by omega),k_8 (k:=30) (m:=60) ?_ (fun x hx=>?_) (by omega)⟩
 ·rcases ma_.1 hx with hx|hx
  ·simp only [d_s,mc_,nn_,or_false] at hx;rcases hx with rfl|rfl|rfl|rfl
   ·obtain rfl:y=argIf:=by simpa [f_C] using hy
    exact d_p (by decide)
   ·obtain rfl:y=argIf:=by simpa [dSkip] using hy
    exact d_p (by decide)
   ·obtain rfl:y=c_c:=by simpa [dDepr] using hy
    refine ⟨by simp only [c_c,okTyp];decide,⟨by simp [c_c],fun x hx=>?_⟩,fun x hx=>by simp [c_c] at hx⟩;obtain rfl:=by simpa [c_c] using hx
    simp [okVal,h_O]
   ·obtain rfl:y=l_0:=by simpa [dSpec] using hy
    exact d_p (by decide)
  ·exact h.args x hx y hy
 ·rcases ma_.1 hx with hx|hx
  ·obtain ⟨n,-, rfl⟩:=mm_.1 hx;exact ⟨.inl rfl,fun x hx=>by simp [a_A] at hx,fun x hx=>by simp [a_A] at hx,fun x hx=>by simp [a_A] at hx,.inl rfl⟩
  ·exact h.ok x hx
 ·show (possN types types).length<=30;unfold possN;rw [List.length_map];exact lt_ (List.length_filter_le _ _) hn
 ·obtain ⟨t,-, rfl⟩:=mm_.1 hx;show (b_O types t.name).length<=60;unfold b_O;rw [la_,List.length_map];have h1:=hposs t.name;have h2:=List.length_filter_le (enumQ types t.name) types;omega
 ·show (implN types types).length<=30;unfold implN;rw [List.length_map];exact lt_ (List.length_filter_le _ _) hn
 ·obtain ⟨t,-, rfl⟩:=mm_.1 hx;show (a_8 types t.name).length<=60;unfold a_8;rw [la_,List.length_map];have h2:=List.length_filter_le (implQ t.name) types;have h1:(findD types t.name).1.ifaces.length<=12:=by
   unfold findD;split
   ·rename_i d hd;have:=h.small d (List.mem_of_find?_eq_some hd);show d.ifaces.length<=12;omega
   ·split
    ·simp [a_A]
    ·simp [noDef]
  omega
end Go.VC
