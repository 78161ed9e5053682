/- Part of the proof of a law of a rule over documents (LawA), where what the arguments hold is of bulk at most 1048576. -/
import Derived.Test.YtmnhdjhlcgfpkaaGreatWalkD
import Derived.Test.YtmnhdjhlcgfpkaaGreatMakeC
import Derived.Test.YtmnhdjhlcgfpkaaGreatWalkC
set_option linter.unusedVariables false
set_option linter.unusedSectionVars false
namespace Go.VC
open Go Go.Proofs
variable [DB]
theorem k_d (ob:Obs)(l:List Ev):cntE ob l<=l.length:=List.length_filter_le _ _
section
variable {cx:Option OpD}
mutual
theorem k_g:∀ v:Val,(evV cx v).length<=valW v
 | .mk k r kids=>by
  have:=h_H kids;simp only [evV,valW,la_,List.length_cons,List.length_nil];by_cases h9:k=9
  ·rw [if_pos h9,if_neg (by omega)];simp only [List.length_nil];omega
  ·rw [if_neg h9];by_cases h8:k=8
   ·rw [if_pos h8];simp only [List.length_nil];omega
   ·rw [if_neg h8];simp only [List.length_nil];omega
theorem h_H:∀ l:List (BA × Val),(a_L cx l).length<=kidsW l
 | []=>Nat.le_refl _
 | x::l=>by
  have h1:=k_g x.2;have h2:=h_H l;simp only [a_L,kidsW,la_];omega
end
theorem k_1 {α β:Type}{f:α->List β}{g:α->Nat}:∀ {l:List α},(∀ x∈l,(f x).length<=g x)->(l.flatMap f).length<=(l.map g).sum
 | [],_=>by simp
 | x::l,h=>by
  have h1:=h x (by simp);have h2:=k_1 (l:=l) (f:=f) (g:=g) fun y hy=>h y (by simp [hy]);simp only [List.flatMap_cons,la_,List.map_cons,List.sum_cons];omega
theorem h_G (l:List Argm):(b_B cx l).length<=argsW l:=k_1 fun x _=>by
 have:=k_g (cx:=cx) x.v;simp only [argW];omega
theorem d_D (loc:BA)(l:List Dir):(evDs cx loc l).length<=dirsW l+1:=by
 have:(l.flatMap fun d=>b_B cx d.args++[.dir d loc]).length<=(l.map dirW).sum:=k_1 fun x _=>by
  have:=h_G (cx:=cx) x.args;simp only [dirW,la_,List.length_cons,List.length_nil];omega
 simp only [evDs,dirsW,la_,List.length_cons,List.length_nil];omega
theorem g_d {tys:List Def}{fs:List Frag}:∀ (l:List Sel) (pd:Option Def),(evL tys fs cx pd l).length<=2*selsW l
 | [],pd=>Nat.le_refl _
 | .mk k al n on args dirs kids::l,pd=>by
  have h1:=h_G (cx:=cx) args;have h2:=d_D (cx:=cx) l_1 dirs;have h3:=d_D (cx:=cx) h_9 dirs;have h4:=d_D (cx:=cx) j_0 dirs;have h5:=g_d (tys:=tys) (fs:=fs) kids (nextD tys pd n);have h5':=g_d (tys:=tys) (fs:=fs) kids (inlD tys pd on);have h6:=g_d (tys:=tys) (fs:=fs) l pd;simp only [evL,evS,selsW,selW,la_];split
  ·simp only [la_,List.length_cons,List.length_nil];omega
  ·split
   ·simp only [la_,List.length_cons,List.length_nil];omega
   ·simp only [la_,List.length_cons,List.length_nil];omega
theorem k_V {tys:List Def}{fs:List Frag}(x:Frag):(evFr tys fs cx x).length<=2*fragW x:=by
 have h3:=d_D (cx:=cx) d_z x.dirs;have h4:=g_d (cx:=cx) (tys:=tys) (fs:=fs) x.kids (lastN Def.name tys x.on);simp only [evFr,fragW,la_];omega
end
theorem n_r (c:WCtx)(x:OpD):(evOp c x).length<=2*opW x:=by
 have h1:(x.vars.flatMap fun v=>evDef (some x) v.dflt++evDs (some x) d_Y v.dirs).length<=varsW x.vars:=k_1 (g:=varW) fun v _=>by
  have h2:=d_D (cx:=some x) d_Y v.dirs;have h3:(evDef (some x) v.dflt).length<=valsW v.dflt:=by
   cases v.dflt with
   | nil=>exact Nat.le_refl _
   | cons y r=>
    have:=k_g (cx:=some x) y;simp only [evDef,valsW,List.map_cons,List.sum_cons];omega
  rw [la_,varW];have:1<=typW v.t:=by cases v.t;simp only [typW];omega
  omega
 have h2:x.vars.length<=varsW x.vars:=f_I fun y _=>by simp only [varW];omega
 have h3:=d_D (cx:=some x) (opLoc x.kind) x.dirs;have h4:=g_d (cx:=some x) (tys:=c.types) (fs:=c.frags) x.kids (rootT c x.kind);simp only [evOp,f_j,opW,la_,List.length_map,List.length_cons,List.length_nil] at h1 ⊢;omega
theorem i_U {α:Type}(f:α->Nat):∀ l:List α,(l.map fun x=>2*f x).sum=2*(l.map f).sum
 | []=>rfl
 | x::l=>by simp only [List.map_cons,List.sum_cons,i_U f l];omega
theorem f_5 (d1:OA)(d1l d1c:Nat)(d2:OA)(d2l d2c:Nat)(w:World):
  CP 9 #[.agg #[.slice d1 d1l d1c,.slice d2 d2l d2c]] w (RetB w fun _=>True):=by
 have x:=(Ext.refl (X:=fun _=>False) w).alloc (.cells #[.slice d1 d1l d1c,.slice d2 d2l d2c] 30);refine g_G d1 d1l d1c d2 d2l d2c w _ ⟨trivial,?_⟩;have f:∀ b:Bool,RetB w (fun _=>True) (.returned (.bool b)) (w.alloc (.cells #[.slice d1 d1l d1c,.slice d2 d2l d2c] 30)):=fun b=>⟨b,rfl,x,trivial⟩;exact ⟨fun _=>f _,fun _=>⟨fun _=>f _,fun _=>f _⟩⟩
def toldB (n:Int)(ok want:Bool):Bool:=if ok=true then (if n>=0 then (decide (n>0)==want) else false) else false
theorem j_9 (n:Int)(ok want:Bool)(w:World):CP 16 #[.int .i64 n,.bool ok,.bool want] w fun e w'=>e=.returned (.bool (toldB n ok want))/\w'=w:=by
 refine k_w n ok want w _ fun K4 hK4=>⟨fun ho=>⟨fun hn=>hK4 _ w ⟨?_,rfl⟩,fun hn=>hK4 _ w ⟨?_,rfl⟩⟩,fun ho=>hK4 _ w ⟨?_,rfl⟩⟩
 ·rw [toldB,if_pos ho,if_pos (odt hn)]
 ·rw [toldB,if_pos ho,if_neg (odf hn)]
 ·rw [toldB,ho];rfl
theorem n_f {n:Int}{b:Bool}(h0:0<=n)(h:n>0↔b=true):toldB n true b=true:=by
 rw [toldB,if_pos rfl,if_pos h0];cases b with
 | true=>simpa using h
 | false=>simpa using h
theorem g_j {α β:Type}{f:α->List β}{m:Nat}:∀ {l:List α},(∀ x∈l,(f x).length<=m)->(l.flatMap f).length<=l.length*m
 | [],_=>by simp
 | x::l,h=>by
  have h1:=h x (by simp);have h2:=g_j (l:=l) (f:=f) (m:=m) fun y hy=>h y (by simp [hy]);rw [List.flatMap_cons,la_,List.length_cons,Nat.add_mul];omega
theorem k_8 {types:List Def}{l:List Named}{k m:Nat}(h1:l.length<=k)(h2:∀ x∈l,x.names.length<=m)(h3:k*m<=4194304):(pushD types l).length<=4194304:=by
 have:=g_j (f:=fun x:Named=>b_W types x.name x.names) (m:=m) (l:=l) fun x hx=>lt_ (List.length_filterMap_le _ _) (h2 x hx);have:=Nat.mul_le_mul_right m h1;show (l.flatMap fun x=>b_W types x.name x.names).length<=_;omega
theorem d_p {n t:BA}{b:Bool}(ht:t≠E0):a_s ⟨E0,n,.mk t [] b,[],[]⟩:=⟨by simpa [okTyp] using ht,⟨by simp,fun x hx=>by simp at hx⟩,fun x hx=>by simp at hx⟩
theorem k_I {types:List Def}{dirs:List DirDef}{defs:List SchemaDef}{roots:List RootD}(h:OkSchema types dirs defs):
  (∀ x∈(wideD types dirs roots).dirs,∀ y∈x.args,a_s y)/\(∀ x∈(wideD types dirs roots).types,okDef x)/\(pushD (wideD types dirs roots).types (wideD types dirs roots).possible).length<=4194304/\(pushD (wideD types dirs roots).types (wideD types dirs roots).implements).length<=4194304:=by
 have hn:=h.few.1;have hposs:∀ n,(d_r types n).length<=30:=fun n=>by
  unfold d_r;rw [List.length_map];exact lt_ (List.length_filter_le _ _) hn
 refine ⟨fun x hx y hy=>?_,fun x hx=>?_,k_8 (k:=30) (m:=60) ?_ (fun x hx=>?_) (by omega),k_8 (k:=30) (m:=60) ?_ (fun x hx=>?_) (by omega)⟩
 ·rcases ma_.1 hx with hx|hx
  ·simp only [d_s,mc_,nn_,or_false] at hx;rcases hx with rfl|rfl|rfl|rfl
   ·obtain rfl:y=argIf:=by simpa [f_C] using hy
    exact d_p (by decide)
   ·obtain rfl:y=argIf:=by simpa [dSkip] using hy
    exact d_p (by decide)
   ·obtain rfl:y=c_c:=by simpa [dDepr] using hy
    refine ⟨by simp only [c_c,okTyp];decide,⟨by simp [c_c],fun x hx=>?_⟩,fun x hx=>by simp [c_c] at hx⟩;obtain rfl:=by simpa [c_c] using hx
    simp [okVal,h_O]
   ·obtain rfl:y=l_0:=by simpa [dSpec] using hy
    exact d_p (by decide)
  ·exact h.args x hx y hy
 ·rcases ma_.1 hx with hx|hx
  ·obtain ⟨n,-, rfl⟩:=mm_.1 hx;exact ⟨.inl rfl,fun x hx=>by simp [a_A] at hx,fun x hx=>by simp [a_A] at hx,fun x hx=>by simp [a_A] at hx,.inl rfl⟩
  ·exact h.ok x hx
 ·show (possN types types).length<=30;unfold possN;rw [List.length_map];exact lt_ (List.length_filter_le _ _) hn
 ·obtain ⟨t,-, rfl⟩:=mm_.1 hx;show (b_O types t.name).length<=60;unfold b_O;rw [la_,List.length_map];have h1:=hposs t.name;have h2:=List.length_filter_le (enumQ types t.name) types;omega
 ·show (implN types types).length<=30;unfold implN;rw [List.length_map];exact lt_ (List.length_filter_le _ _) hn
 ·obtain ⟨t,-, rfl⟩:=mm_.1 hx;show (a_8 types t.name).length<=60;unfold a_8;rw [la_,List.length_map];have h2:=List.length_filter_le (implQ t.name) types;have h1:(findD types t.name).1.ifaces.length<=12:=by
   unfold findD;split
   ·rename_i d hd;have:=h.small d (List.mem_of_find?_eq_some hd);show d.ifaces.length<=12;omega
   ·split
    ·simp [a_A]
    ·simp [noDef]
  omega
section
variable {tys:List Def} {fs:List Frag} {cx:Option OpD}
end
end Go.VC
