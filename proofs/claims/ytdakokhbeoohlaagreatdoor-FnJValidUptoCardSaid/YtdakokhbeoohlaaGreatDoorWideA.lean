/- Part of the proof of a law of a rule over documents (WideA), where what the arguments hold is of bulk at most 1048576. -/
import Derived.Test.YtdakokhbeoohlaaGreatDoorSpecC
set_option linter.unusedVariables false
set_option linter.unusedSectionVars false
set_option linter.deprecated false
namespace Go.VC
open Go Go.Proofs
variable [DB]
variable {cs:List Value}{w':World}
def OwnS (base:Nat)(w:World)(A:OA)(L C:Nat)(xs:List BA):Prop:=∃ cells,Own base w 9 1 A L C cells/\Flat 1 RS xs cells
theorem OwnS.keep {base:Nat}{w:World}{A:OA}{L C:Nat}{xs:List BA}(h:OwnS base w A L C xs)(hx:EF w w'):OwnS base w' A L C xs:=by
 obtain ⟨c1,o1,f1⟩:=h;exact ⟨c1,o1.keep hx fun _ _=>id,f1⟩
theorem OwnS.sl {base:Nat}{w:World}{A:OA}{L C:Nat}{xs:List BA}(h:OwnS base w A L C xs)(hl:L<=4194304):RStrs w A L C xs:=by
 obtain ⟨c1,o1,f1⟩:=h;exact o1.sl f1 (by omega) hl
theorem OwnS.len {base:Nat}{w:World}{A:OA}{L C:Nat}{xs:List BA}(h:OwnS base w A L C xs):L=xs.length:=by
 obtain ⟨c1,o1,f1⟩:=h;have:=o1.len.1;have:=f1.len;omega
def memB (s:BA)(xs:List BA):Bool:=xs.any fun x=>decide (x=s)
def possQ (types:List Def)(name:BA)(t:Def):Bool:=
 decide (t.kind=a_V)&&(decide (t.name=name)||(decide ((findD types name).1.kind=b_i)&&memB name t.ifaces)||(decide ((findD types name).1.kind=d_n)&&memB t.name (findD types name).1.types))
def d_r (types:List Def)(name:BA):List BA:=(types.filter (possQ types name)).map (·.name)
def enumQ (types:List Def)(name:BA)(t:Def):Bool:=decide (t.kind=b_i)&&decide ((findD types name).1.kind=b_i)&&memB name t.ifaces
def b_O (types:List Def)(name:BA):List BA:=d_r types name++(types.filter (enumQ types name)).map (·.name)
def implQ (name:BA)(t:Def):Bool:=decide (t.kind=d_n)&&memB name t.types
def a_8 (types:List Def)(name:BA):List BA:=(findD types name).1.ifaces++(types.filter (implQ name)).map (·.name)
theorem OwnS.weaken {base base':Nat}{w:World}{A:OA}{L C:Nat}{xs:List BA}(h:OwnS base w A L C xs)(hb:base'<=base):OwnS base' w A L C xs:=by
 obtain ⟨c1,⟨h1,h2⟩,f1⟩:=h;exact ⟨c1,⟨h1,h2.elim .inl fun ⟨g,cap,cur,e1,e2,e3⟩=>.inr ⟨g,cap,cur,e1,lt_ hb e2,e3⟩⟩,f1⟩
theorem Own.ofBlk {w:World}{k:Nat}{T:TypeId}(h:Blk w k T cs){n l:Nat}(hl:cs.length=l*n)(hm:l<=4194304){base:Nat}(hb:base<=k):Own base w T n (some (adr k)) l l cs:=
 ⟨hl,.inr ⟨k,l,cs.toArray,rfl,hb,h,Nat.le_refl _,by simp only [maxLen];omega,by simpa using hl,by rw [<- hl];simp⟩⟩
theorem Blk.sl {α:Type}{w:World}{k:Nat}{T:TypeId}(h:Blk w k T cs){n:Nat}{R:α->List Value->Prop}{xs:List α}(hf:Flat n R xs cs)(hn:0<n)(hm:xs.length<=4194304):SlL w T n R (some (adr k)) xs.length xs.length xs:=
 (Own.ofBlk h hf.len hm (Nat.zero_le _)).sl hf hn hm
def OwnR {α:Type}(T n:Nat)(R:α->List Value->Prop)(base:Nat)(w:World)(A:OA)(L C:Nat)(xs:List α):Prop:=∃ cells,Own base w T n A L C cells/\Flat n R xs cells
section
variable {α:Type} {T n:Nat} {R:α->List Value->Prop} {base:Nat} {w:World} {A:OA} {L C:Nat} {xs:List α}
theorem OwnR.nil:OwnR T n R base w none 0 0 []:=⟨[],Own.nil ..,.nil⟩
theorem OwnR.keep {X:Nat->Prop}(h:OwnR T n R base w A L C xs)(hx:Ext X w w')(hn:∀ b,blkOf A b->¬ X b):OwnR T n R base w' A L C xs:=by
 obtain ⟨c1,o1,f1⟩:=h;exact ⟨c1,o1.keep hx hn,f1⟩
theorem OwnR.keep0 (h:OwnR T n R base w A L C xs)(hx:EF w w'):OwnR T n R base w' A L C xs:=h.keep hx fun _ _=>id
theorem OwnR.sl (h:OwnR T n R base w A L C xs)(hn:0<n)(hl:L<=4194304):SlL w T n R A L C xs:=by
 obtain ⟨c1,o1,f1⟩:=h;exact o1.sl f1 hn hl
theorem OwnR.mono {R':α->List Value->Prop}(h:OwnR T n R base w A L C xs)(hr:∀ x∈xs,∀ cs,R x cs->R' x cs):OwnR T n R' base w A L C xs:=by
 obtain ⟨c1,o1,f1⟩:=h;exact ⟨c1,o1,f1.mono hr⟩
theorem OwnR.weaken {base':Nat}(h:OwnR T n R base w A L C xs)(hb:base'<=base):OwnR T n R base' w A L C xs:=by
 obtain ⟨c1,⟨h1,h2⟩,f1⟩:=h;exact ⟨c1,⟨h1,h2.elim .inl fun ⟨g,cap,cur,e1,e2,e3⟩=>.inr ⟨g,cap,cur,e1,lt_ hb e2,e3⟩⟩,f1⟩
theorem OwnR.len (h:OwnR T n R base w A L C xs)(hn:0<n):L=xs.length:=by
 obtain ⟨c1,o1,f1⟩:=h;have h1:=o1.len.1;rw [f1.len] at h1;exact (Nat.eq_of_mul_eq_mul_right hn h1).symm
theorem OwnR.ge (h:OwnR T n R base w A L C xs):∀ b,blkOf A b->base<=b/\b<w.heap.size:=by
 obtain ⟨c1,o1,f1⟩:=h;exact o1.base
theorem OwnR.ne (h:OwnR T n R base w A L C xs){k:Nat}(hk:k<base∨w.heap.size<=k):¬ blkOf A k:=fun hb=>by
 have:=h.ge k hb;omega
theorem OwnR.one (t:TypeId)(i:TypeInfo)(z:Value)(bytes:Nat)(ht:Tryz.prog.underlying t=some (.slice T))(hi:Tryz.prog.info? T=some i)(hz:i.zero=some z)
  (hsize:i.size=n) (hby:i.bytes=bytes) (hzs:z.cells.size=n) (hn:0<n) (h3:bytes<=4096) (h:OwnR T n R base w A L C xs) (hb:base<=w.heap.size) {x:α}  (hcs:cs.length=n) (hsm:∀ v∈cs,a_v v) (hr:R x cs)
  (h2:L+1<=16777216) (ty:TypeId) (fs:Array Bool):
  ∃ (A':OA) (C':Nat) (w':World),(Go.builtin .append #[t,t] ty fs #[.slice A L C,.slice (some (adr w.heap.size)) 1 1]).run Tryz.prog (w.alloc (.cells cs.toArray T))=.ok (.value (.slice A' (L+1) C')) w'/\
   OwnR T n R base w' A' (L+1) C' (xs++[x])/\Ext (blkOf A) w w'/\(∀ T',T'≠T->KeepT T' (w.alloc (.cells cs.toArray T)) w')/\(∀ b,blkOf A' b->blkOf A b∨w.heap.size<b):=by
 obtain ⟨cells,hown,hf⟩:=h;have hx:EF w (w.alloc (.cells cs.toArray T)):=(Ext.refl w).alloc _;have hown':=hown.keep hx fun _ _=>id;obtain ⟨A,C,w',h4,h5,h6,h7⟩:=c_a t T i z n bytes ht hi hz hsize hby hzs hn hown' (lt_ hb hx.size) (p:=adr w.heap.size) (c':=1) (l':=1) (news:=cs) (by simpa using hcs) (fun j u hu=>by
  rw [Addr.add_lit];have:=((Blk.made w T cs).at hu).cell;simpa using this) (fun u hu=>(hsm u hu).one) h2 h3 ty fs
 refine ⟨A,C,w',h4,⟨_,h5,hf.append ?_⟩,(hx.mono fun _ _ f=>f.elim).trans h6 fun _ _ h=>h,fun T' hT=>hown'.keepT h6 hT,fun b hb=>(h7 b hb).imp id fun e=>?_⟩
 ·have:=Flat.cons hcs hsm hr (Flat.nil (n:=n) (R:=R));simpa using this
 ·rw [e];simp
end
theorem OwnR.ext0 {α:Type}{T n:Nat}{R:α->List Value->Prop}{base:Nat}{w0 w:World}{A:OA}{L C:Nat}{xs:List α}(h:OwnR T n R base w A L C xs)(hb:w0.heap.size<=base)(hx0:EF w0 w)(hx:Ext (blkOf A) w w'):EF w0 w':=
 hx0.trans hx fun b hb' hbl=>h.ne (.inl (by omega)) hbl
abbrev g_q:BA:=⟨#[105,110,99,108,117,100,101]⟩
abbrev m_v:BA:=⟨#[115,107,105,112]⟩
abbrev d_o:BA:=⟨#[100,101,112,114,101,99,97,116,101,100]⟩
abbrev c_T:BA:=⟨#[115,112,101,99,105,102,105,101,100,66,121]⟩
abbrev n_if:BA:=⟨#[105,102]⟩
abbrev b_G:BA:=⟨#[66,111,111,108,101,97,110]⟩
abbrev e_C:BA:=⟨#[114,101,97,115,111,110]⟩
abbrev b_n:BA:=⟨#[83,116,114,105,110,103]⟩
abbrev a_u:BA:=⟨#[78,111,32,108,111,110,103,101,114,32,115,117,112,112,111,114,116,101,100]⟩
abbrev m_w:BA:=⟨#[117,114,108]⟩
abbrev i_u:BA:=⟨#[70,73,69,76,68]⟩
abbrev b_c:BA:=⟨#[70,82,65,71,77,69,78,84,95,83,80,82,69,65,68]⟩
abbrev b_d:BA:=⟨#[73,78,76,73,78,69,95,70,82,65,71,77,69,78,84]⟩
abbrev a_2:BA:=⟨#[70,73,69,76,68,95,68,69,70,73,78,73,84,73,79,78]⟩
abbrev a_O:BA:=⟨#[65,82,71,85,77,69,78,84,95,68,69,70,73,78,73,84,73,79,78]⟩
abbrev a_C:BA:=⟨#[73,78,80,85,84,95,70,73,69,76,68,95,68,69,70,73,78,73,84,73,79,78]⟩
abbrev c_u:BA:=⟨#[69,78,85,77,95,86,65,76,85,69]⟩
abbrev c_S:BA:=⟨#[83,67,65,76,65,82]⟩
def tyB:Typ:=.mk b_G [] true
def argIf:ArgDef:=⟨E0,n_if,tyB,[],[]⟩
def c_c:ArgDef:=⟨E0,e_C,.mk b_n [] false,[.mk 3 a_u []],[]⟩
def l_0:ArgDef:=⟨E0,m_w,.mk b_n [] true,[],[]⟩
def l_p:List BA:=[i_u,b_c,b_d]
def n_g:List BA:=[a_2,a_O,a_C,c_u]
def f_C:DirDef:=⟨E0,g_q,[argIf],l_p,false⟩
def dSkip:DirDef:=⟨E0,m_v,[argIf],l_p,false⟩
def dDepr:DirDef:=⟨E0,d_o,[c_c],n_g,false⟩
def dSpec:DirDef:=⟨E0,c_T,[l_0],[c_S],false⟩
def a_P:List Def:=scal.map a_A
def d_s:List DirDef:=[f_C,dSkip,dDepr,dSpec]
def a_y (k1 k2 k3 k4 k5 k6 k7 k8:Nat):List (DirDef × List Value):=[
 (f_C,[.string E0,.string g_q,.slice (some (adr k2)) 1 1,.slice (some (adr k1)) 3 3,.bool false]),
 (dSkip,[.string E0,.string m_v,.slice (some (adr k3)) 1 1,.slice (some (adr k1)) 3 3,.bool false]),
 (dDepr,[.string E0,.string d_o,.slice (some (adr k5)) 1 1,.slice (some (adr k6)) 4 4,.bool false]),
 (dSpec,[.string E0,.string c_T,.slice (some (adr k7)) 1 1,.slice (some (adr k8)) 1 1,.bool false])]
def Blks (w:World)(l:List (Nat × TypeId × List Value)):Prop:=∀ x∈l,Blk w x.1 x.2.1 x.2.2
theorem Blks.keep {X:Nat->Prop}{w:World}{l:List (Nat × TypeId × List Value)}(h:Blks w l)(hx:Ext X w w')(hn:∀ x∈l,¬ X x.1):Blks w' l:=fun x hm=>(h x hm).ext hx (hn x hm)
theorem Blks.get {w:World}{l:List (Nat × TypeId × List Value)}(h:Blks w l)(i:Nat)(hi:i<l.length):Blk w l[i].1 l[i].2.1 l[i].2.2:=h _ (List.getElem_mem hi)
end Go.VC
