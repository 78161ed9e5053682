/- Part of the proof of a law of a rule over documents (WideA), where what the arguments hold is of bulk at most 1048576. -/
import Derived.Test.YtmnhdjhlcgfpkaaGreatSpecC
set_option linter.unusedVariables false
set_option linter.unusedSimpArgs false
set_option linter.unusedSectionVars false
set_option linter.deprecated false
namespace Go.VC
open Go Go.Proofs
variable [DB]
variable {p:Addr}{s:BA}{types:List Def}{cs:List Value}{base' c k l:Nat}{a:OA}{T':TypeId}{w':World}
def OwnS (base:Nat)(w:World)(A:OA)(L C:Nat)(xs:List BA):Prop:=∃ cells,Own base w 9 1 A L C cells/\Flat 1 RS xs cells
theorem OwnS.keep {base:Nat}{w:World}{A:OA}{L C:Nat}{xs:List BA}(h:OwnS base w A L C xs)(hx:EF w w'):OwnS base w' A L C xs:=by
 obtain ⟨c1,o1,f1⟩:=h;exact ⟨c1,o1.keep hx fun _ _=>id,f1⟩
theorem OwnS.sl {base:Nat}{w:World}{A:OA}{L C:Nat}{xs:List BA}(h:OwnS base w A L C xs)(hl:L<=4194304):RStrs w A L C xs:=by
 obtain ⟨c1,o1,f1⟩:=h;exact o1.sl f1 (by omega) hl
theorem OwnS.len {base:Nat}{w:World}{A:OA}{L C:Nat}{xs:List BA}(h:OwnS base w A L C xs):L=xs.length:=by
 obtain ⟨c1,o1,f1⟩:=h;have:=o1.len.1;have:=f1.len;omega
theorem OwnS.app {w0 w:World}{base:Nat}{A:OA}{L C:Nat}{xs:List BA}(h:OwnS base w A L C xs)(hb:w0.heap.size<=base)(hbw:base<=w.heap.size)(hx:EF w0 w)(hs:s.size<=4194304)(h2:L+1<=16777216):
  ∃ (A':OA) (C':Nat) (w':World),(Go.builtin .append #[71,71] 71 #[false,false] #[.slice A L C,.slice (some (adr w.heap.size)) 1 1]).run Tryz.prog (w.alloc (.cells #[.string s] 9))=.ok (.value (.slice A' (L+1) C')) w'/\
   OwnS base w' A' (L+1) C' (xs++[s])/\EF w0 w'/\base<=w'.heap.size/\(∀ T,T≠9->KeepT T (w.alloc (.cells #[.string s] 9)) w'):=by
 obtain ⟨c1,o1,f1⟩:=h;obtain ⟨A',C',w',r,⟨c3,o3,f3⟩,x3,k3⟩:=a_S o1 hbw f1 hs h2;exact ⟨A',C',w',r,⟨c3,o3,f3⟩,hx.trans x3 fun b hb' hbl=>a_q o1 (.inl (by omega)) hbl,lt_ hbw x3.size,k3⟩
theorem a_J {α:Type}{q:α->Bool}{xs:List α}{i:Int}{x:α}(h0:0<=i)(hx:xs[i.toNat]? =some x):(xs.take (i+1).toNat).filter q=(xs.take i.toNat).filter q++(if q x=true then [x] else []):=by
 rw [show (i+1).toNat=i.toNat+1 by omega,List.take_succ,hx,List.filter_append];simp [List.filter_cons]
def memB (s:BA)(xs:List BA):Bool:=xs.any fun x=>decide (x=s)
theorem n_u {xs:List BA}:memB s xs=true↔s∈xs:=by simp [memB]
theorem g_p {xs:List BA}{b:Bool}(h:b=true↔s∈xs):memB s xs=b:=by
 rw [<- n_u] at h;cases b<;>cases hm:memB s xs<;>simp_all
def possQ (types:List Def)(name:BA)(t:Def):Bool:=
 decide (t.kind=a_V)&&(decide (t.name=name)||(decide ((findD types name).1.kind=b_i)&&memB name t.ifaces)||(decide ((findD types name).1.kind=d_n)&&memB t.name (findD types name).1.types))
def d_r (types:List Def)(name:BA):List BA:=(types.filter (possQ types name)).map (·.name)
def enumQ (types:List Def)(name:BA)(t:Def):Bool:=decide (t.kind=b_i)&&decide ((findD types name).1.kind=b_i)&&memB name t.ifaces
def b_O (types:List Def)(name:BA):List BA:=d_r types name++(types.filter (enumQ types name)).map (·.name)
def implQ (name:BA)(t:Def):Bool:=decide (t.kind=d_n)&&memB name t.types
def a_8 (types:List Def)(name:BA):List BA:=(findD types name).1.ifaces++(types.filter (implQ name)).map (·.name)
theorem OwnS.weaken {base:Nat}{w:World}{A:OA}{L C:Nat}{xs:List BA}(h:OwnS base w A L C xs)(hb:base'<=base):OwnS base' w A L C xs:=by
 obtain ⟨c1,⟨h1,h2⟩,f1⟩:=h;exact ⟨c1,⟨h1,h2.elim .inl fun ⟨g,cap,cur,e1,e2,e3⟩=>.inr ⟨g,cap,cur,e1,lt_ hb e2,e3⟩⟩,f1⟩
theorem f_t {name:BA}{w:World}(hn:name.size<=4194304)(hp:At w 92 p (.slice a l c))(hT:RDefs w a l c types):
  CP 127 #[.pointer (some p),.string name] w fun e w'=>∃ (A:OA) (L C:Nat),e=.returned (.slice A L C)/\OwnS w.heap.size w' A L C (d_r types name)/\L<=types.length/\EF w w':=by
 obtain ⟨e1,g1⟩:=hT.len;refine f_v (some p) name w _ ?_;refine (a_t hn hp hT).mono ?_;rintro _ w4 ⟨cs,rfl,⟨b1,m1,d1,b2,m2,d2,b3,m3,d3,b4,m4,d4,b5,m5,d5,rfl,hv1,hv2,hv3,hv4,hv5⟩,hsm,hx4⟩;refine ⟨_,_,_,_,_,_,_,_,_,_,_,_,_,_,_,_,_,_,_,rfl,trivial,trivial,trivial,?_⟩;have hx15:=hx4.alloc (.cells #[.string (findD types name).1.kind,.string (findD types name).1.doc,.string (findD types name).1.name,.slice b1 m1 d1,.slice b2 m2 d2,.slice b3 m3 d3,.slice b4 m4 d4,.slice b5 m5 d5] 96);have hx45:EF w4 (w4.alloc (.cells #[.string (findD types name).1.kind,.string (findD types name).1.doc,.string (findD types name).1.name,.slice b1 m1 d1,.slice b2 m2 d2,.slice b3 m3 d3,.slice b4 m4 d4,.slice b5 m5 d5] 96)):=(Ext.refl w4).alloc _;refine ⟨p,rfl,a,l,c,hx15.cell hp id,?_⟩;refine ⟨fun A L C i w1=>0<=i/\i<=l/\EF w4 w1/\L<=i.toNat/\w4.heap.size<=w1.heap.size/\OwnS w4.heap.size w1 A L C (((types.take i.toNat).filter (possQ types name)).map (·.name)),fun _ _ _ i _=>((l:Int)-i).toNat,
  ⟨by omega,by omega,hx45,by omega,hx45.size,[],Own.nil ..,by simpa using .nil⟩,?_⟩
 rintro A L C i w1 ⟨h0,hi,hx,hL,hz,ho⟩;refine ⟨fun hlt=>?_,fun hge=>?_⟩
 ·have hlt:=odt hlt;have hx1:=hx4.then hx;obtain ⟨pe,x,hpe,hxs,cs,hc,n1,o1,j1,n2,o2,j2,n3,o3,j3,n4,o4,j4,n5,o5,j5,rfl,hu1,hu2,hu3,hu4,hu5⟩:=hT.get h0 hlt;obtain ⟨⟨_,_,hc0⟩,hcs0,⟨_,_,hc1⟩,hcs1,⟨_,_,hc2⟩,hcs2,⟨_,_,hc3⟩,hcs3,⟨_,_,hc4⟩,hcs4,⟨_,_,hc5⟩,hcs5,⟨_,_,hc6⟩,hcs6,⟨_,_,hc7⟩,hcs7,-⟩:=hc;intro K23 hK23;have hx36:EF w1 (w1.alloc (.cells #[.string x.kind,.string x.doc,.string x.name,.slice n1 o1 j1,.slice n2 o2 j2,.slice n3 o3 j3,.slice n4 o4 j4,.slice n5 o5 j5] 96)):=(Ext.refl w1).alloc _;refine ⟨pe,hpe,⟨h0,hlt⟩,_,hx1.cell hc0 id,_,hx1.cell hc1 id,_,hx1.cell hc2 id,_,_,_,hx1.cell hc3 id,_,_,_,hx1.cell hc4 id,_,_,_,hx1.cell hc5 id,_,_,_,hx1.cell hc6 id,_,_,_,hx1.cell hc7 id,trivial,trivial,fun K37 hK37=>?_⟩;have key:∀ b w',EF w1 w'->possQ types name x=b->K37 b w':=by
   intro b w' hx' hb;refine hK37 b w' ⟨fun hbt=>⟨trivial,?_⟩,fun hbf=>?_⟩
   ·obtain ⟨A2,C2,w2,r2,ho2,x2,z2,k2⟩:=(ho.keep hx').app (w0:=w4) (Nat.le_refl _) (lt_ hz hx'.size) (hx.then hx') (s:=x.name) hcs2 (by omega);refine ⟨A2,L+1,C2,w2,r2,⟨k2 _ (by decide),trivial⟩,hK23 _ _ _ _ ?_⟩;rw [a_a h0 (by omega)];refine next h0 hlt ⟨x2,by omega,z2,?_⟩
    rw [a_J h0 hxs,hb,hbt];simpa using ho2
   ·refine hK23 _ _ _ _ ?_;rw [a_a h0 (by omega)];refine next h0 hlt ⟨hx.then hx',by omega,lt_ hz hx'.size,?_⟩
    rw [a_J h0 hxs,hb,hbf];simpa using ho.keep hx'
  refine ⟨fun hk=>?_,fun hk=>key _ _ hx36 (by simp [possQ,a_f.1 hk])⟩;have hk:=a_b.1 hk;refine ⟨fun hnm=>?_,fun hnm=>key _ _ hx36 (by simp [possQ,hk,a_b.1 hnm])⟩;have hnm:=a_f.1 hnm;have hD:=hv4.keep (hx.then hx36).keep;refine ⟨fun hi1=>?_,fun hi1=>⟨fun hu=>?_,fun hu=>key _ _ hx36 (by simp [possQ,hk,hnm,a_f.1 hi1,a_f.1 hu])⟩⟩
  ·have hi1:=a_b.1 hi1;refine (RetB.base (c_in name (hu2.keep (hx1.then hx36).keep)) hx36).mono ?_;rintro _ w44 ⟨b,rfl,hkk,hx44,hb⟩;refine ⟨b,rfl,by simp [hkk],fun hbf=>⟨fun hu=>?_,fun hu=>key _ _ hx44 ?_⟩,fun hbt=>key _ _ hx44 (by simp [possQ,hk,hnm,hi1,g_p hb,hbt])⟩
   ·exact absurd (a_b.1 hu) (by rw [hi1];decide)
   ·simp [possQ,hk,hnm,g_p hb,hbf,a_f.1 hu]
  ·have hu:=a_b.1 hu;refine (RetB.base (c_in x.name hD) hx36).mono ?_;rintro _ w44 ⟨b,rfl,hkk,hx44,hb⟩;refine ⟨b,rfl,by simp [hkk],key _ _ hx44 ?_⟩;have:=g_p hb;simp only [possQ,hk,hnm,a_f.1 hi1,hu,this];simp
 ·have hle:=odf hge;rw [tl_ (by omega)] at ho;exact ⟨A,L,C,rfl,ho.weaken hx4.size,by omega,hx4.then hx⟩
theorem e_n {name:BA}{w:World}(hn:name.size<=4194304)(hp:At w 92 p (.slice a l c))(hT:RDefs w a l c types):
  CP 58 #[.pointer (some p),.string name] w fun e w'=>∃ (A:OA) (L C:Nat),e=.returned (.slice A L C)/\OwnS w.heap.size w' A L C (b_O types name)/\L<=types.length+types.length/\EF w w':=by
 obtain ⟨e1,g1⟩:=hT.len;refine e_F (some p) name w _ ?_;refine (f_t hn hp hT).mono ?_;rintro _ w4 ⟨A0,L0,C0,rfl,ho0,hL0,hx4⟩;refine ⟨A0,L0,C0,rfl,trivial,?_⟩;refine (a_t hn (hx4.at id hp) (hT.keep hx4.keep)).mono ?_;rintro _ w7 ⟨cs,rfl,⟨b1,m1,d1,b2,m2,d2,b3,m3,d3,b4,m4,d4,b5,m5,d5,rfl,hv1,hv2,hv3,hv4,hv5⟩,hsm,hx7⟩;refine ⟨_,_,_,_,_,_,_,_,_,_,_,_,_,_,_,_,_,_,_,rfl,trivial,trivial,trivial,?_⟩;have hx78:EF w4 (w7.alloc (.cells #[.string (findD types name).1.kind,.string (findD types name).1.doc,.string (findD types name).1.name,.slice b1 m1 d1,.slice b2 m2 d2,.slice b3 m3 d3,.slice b4 m4 d4,.slice b5 m5 d5] 96)):=hx7.alloc _;have hx18:=hx4.then hx78;refine ⟨p,rfl,a,l,c,hx18.cell hp id,?_⟩;refine ⟨fun A L C i w1=>0<=i/\i<=l/\EF w w1/\L<=types.length+i.toNat/\w.heap.size<=w1.heap.size/\OwnS w.heap.size w1 A L C (d_r types name++((types.take i.toNat).filter (enumQ types name)).map (·.name)),fun _ _ _ i _=>((l:Int)-i).toNat,
  ⟨by omega,by omega,hx18,by omega,hx18.size,by simpa using ho0.keep hx78⟩,?_⟩
 rintro A L C i w1 ⟨h0,hi,hx,hL,hz,ho⟩;refine ⟨fun hlt=>?_,fun hge=>?_⟩
 ·have hlt:=odt hlt;obtain ⟨pe,x,hpe,hxs,cs,hc,n1,o1,j1,n2,o2,j2,n3,o3,j3,n4,o4,j4,n5,o5,j5,rfl,hu1,hu2,hu3,hu4,hu5⟩:=hT.get h0 hlt;obtain ⟨⟨_,_,hc0⟩,hcs0,⟨_,_,hc1⟩,hcs1,⟨_,_,hc2⟩,hcs2,⟨_,_,hc3⟩,hcs3,⟨_,_,hc4⟩,hcs4,⟨_,_,hc5⟩,hcs5,⟨_,_,hc6⟩,hcs6,⟨_,_,hc7⟩,hcs7,-⟩:=hc;intro K23 hK23;have hx36:EF w1 (w1.alloc (.cells #[.string x.kind,.string x.doc,.string x.name,.slice n1 o1 j1,.slice n2 o2 j2,.slice n3 o3 j3,.slice n4 o4 j4,.slice n5 o5 j5] 96)):=(Ext.refl w1).alloc _;refine ⟨pe,hpe,⟨h0,hlt⟩,_,hx.cell hc0 id,_,hx.cell hc1 id,_,hx.cell hc2 id,_,_,_,hx.cell hc3 id,_,_,_,hx.cell hc4 id,_,_,_,hx.cell hc5 id,_,_,_,hx.cell hc6 id,_,_,_,hx.cell hc7 id,trivial,trivial,fun K37 hK37=>?_⟩;have key:∀ b w',EF w1 w'->enumQ types name x=b->K37 b w':=by
   intro b w' hx' hb;refine hK37 b w' ⟨fun hbt=>⟨trivial,?_⟩,fun hbf=>?_⟩
   ·obtain ⟨A2,C2,w2,r2,ho2,x2,z2,k2⟩:=(ho.keep hx').app (w0:=w) (Nat.le_refl _) (lt_ hz hx'.size) (hx.then hx') (s:=x.name) hcs2 (by omega);refine ⟨A2,L+1,C2,w2,r2,⟨k2 _ (by decide),trivial⟩,hK23 _ _ _ _ ?_⟩;rw [a_a h0 (by omega)];refine next h0 hlt ⟨x2,by omega,z2,?_⟩
    rw [a_J h0 hxs,hb,hbt];simpa using ho2
   ·refine hK23 _ _ _ _ ?_;rw [a_a h0 (by omega)];refine next h0 hlt ⟨hx.then hx',by omega,lt_ hz hx'.size,?_⟩
    rw [a_J h0 hxs,hb,hbf];simpa using ho.keep hx'
  refine ⟨fun hk=>⟨fun hi1=>?_,fun hi1=>key _ _ hx36 (by simp [enumQ,a_f.1 hi1])⟩,fun hk=>key _ _ hx36 (by simp [enumQ,a_f.1 hk])⟩;refine (RetB.base (c_in name (hu2.keep (hx.then hx36).keep)) hx36).mono ?_;rintro _ w44 ⟨b,rfl,hkk,hx44,hb⟩;refine ⟨b,rfl,by simp [hkk],key _ _ hx44 ?_⟩;have:=g_p hb;simp only [enumQ,a_b.1 hk,a_b.1 hi1,this];simp
 ·have hle:=odf hge;rw [tl_ (by omega)] at ho;exact ⟨A,L,C,rfl,ho,by omega,hx⟩
theorem d_Z {name:BA}{w:World}(hn:name.size<=4194304)(hp:At w 92 p (.slice a l c))(hT:RDefs w a l c types):
  CP 59 #[.pointer (some p),.string name] w fun e w'=>∃ (A:OA) (L C:Nat),e=.returned (.slice A L C)/\OwnS w.heap.size w' A L C (a_8 types name)/\L<=(findD types name).1.ifaces.length+types.length/\EF w w':=by
 obtain ⟨e1,g1⟩:=hT.len;refine e_c (some p) name w _ ?_;refine (a_t hn hp hT).mono ?_;rintro _ w4 ⟨cs,rfl,⟨b1,m1,d1,b2,m2,d2,b3,m3,d3,b4,m4,d4,b5,m5,d5,rfl,hv1,hv2,hv3,hv4,hv5⟩,hsm,hx4⟩;refine ⟨_,_,_,_,_,_,_,_,_,_,_,_,_,_,_,_,_,_,_,rfl,trivial,trivial,trivial,?_⟩;obtain ⟨e2,g2⟩:=hv2.len;have hx45:EF w4 (w4.alloc (.cells #[.string (findD types name).1.kind,.string (findD types name).1.doc,.string (findD types name).1.name,.slice b1 m1 d1,.slice b2 m2 d2,.slice b3 m3 d3,.slice b4 m4 d4,.slice b5 m5 d5] 96)):=(Ext.refl w4).alloc _;dsimp only;generalize (w4.alloc (.cells #[.string (findD types name).1.kind,.string (findD types name).1.doc,.string (findD types name).1.name,.slice b1 m1 d1,.slice b2 m2 d2,.slice b3 m3 d3,.slice b4 m4 d4,.slice b5 m5 d5] 96))=w15 at hx45 ⊢;have hx15:=hx4.then hx45;have o0:=Own.made w15.heap.size w15 9 1 0 #[] (Nat.le_refl _) (by simp) (by simp);have j0:EF w15 (w15.alloc (.cells #[] 9)):=(Ext.refl w15).alloc _;obtain ⟨A0,C0,w18,r18,⟨cells,o18,q18⟩,x18,-⟩:=a_i o0 j0.size (xs:=[]) .nil (hv2.keep (hx45.then j0).keep) (by omega);rw [Nat.zero_add] at r18 o18;have hx18:EF w15 w18:=j0.trans x18 fun b hb hbl=>a_q o0 (.inl hb) hbl;have hx18':=hx15.then hx18;refine ⟨A0,m2,C0,w18,r18,⟨o0.keepT x18 (by decide),trivial⟩,p,rfl,a,l,c,hx18'.cell hp id,?_⟩;refine ⟨fun A L C i w1=>0<=i/\i<=l/\EF w w1/\L<=(findD types name).1.ifaces.length+i.toNat/\w.heap.size<=w1.heap.size/\OwnS w.heap.size w1 A L C ((findD types name).1.ifaces++((types.take i.toNat).filter (implQ name)).map (·.name)),fun _ _ _ i _=>((l:Int)-i).toNat,
  ⟨by omega,by omega,hx18',by omega,hx18'.size,OwnS.weaken ⟨cells,o18,by simpa using q18⟩ hx15.size⟩,?_⟩
 rintro A L C i w1 ⟨h0,hi,hx,hL,hz,ho⟩;refine ⟨fun hlt=>?_,fun hge=>?_⟩
 ·have hlt:=odt hlt;obtain ⟨pe,x,hpe,hxs,cs,hc,n1,o1,j1,n2,o2,j2,n3,o3,j3,n4,o4,j4,n5,o5,j5,rfl,hu1,hu2,hu3,hu4,hu5⟩:=hT.get h0 hlt;obtain ⟨⟨_,_,hc0⟩,hcs0,⟨_,_,hc1⟩,hcs1,⟨_,_,hc2⟩,hcs2,⟨_,_,hc3⟩,hcs3,⟨_,_,hc4⟩,hcs4,⟨_,_,hc5⟩,hcs5,⟨_,_,hc6⟩,hcs6,⟨_,_,hc7⟩,hcs7,-⟩:=hc;intro K23 hK23;have hx36:EF w1 (w1.alloc (.cells #[.string x.kind,.string x.doc,.string x.name,.slice n1 o1 j1,.slice n2 o2 j2,.slice n3 o3 j3,.slice n4 o4 j4,.slice n5 o5 j5] 96)):=(Ext.refl w1).alloc _;refine ⟨pe,hpe,⟨h0,hlt⟩,_,hx.cell hc0 id,_,hx.cell hc1 id,_,hx.cell hc2 id,_,_,_,hx.cell hc3 id,_,_,_,hx.cell hc4 id,_,_,_,hx.cell hc5 id,_,_,_,hx.cell hc6 id,_,_,_,hx.cell hc7 id,trivial,trivial,fun K37 hK37=>?_⟩;have key:∀ b w',EF w1 w'->implQ name x=b->K37 b w':=by
   intro b w' hx' hb;refine hK37 b w' ⟨fun hbt=>⟨trivial,?_⟩,fun hbf=>?_⟩
   ·obtain ⟨A2,C2,w2,r2,ho2,x2,z2,k2⟩:=(ho.keep hx').app (w0:=w) (Nat.le_refl _) (lt_ hz hx'.size) (hx.then hx') (s:=x.name) hcs2 (by omega);refine ⟨A2,L+1,C2,w2,r2,⟨k2 _ (by decide),trivial⟩,hK23 _ _ _ _ ?_⟩;rw [a_a h0 (by omega)];refine next h0 hlt ⟨x2,by omega,z2,?_⟩
    rw [a_J h0 hxs,hb,hbt];simpa using ho2
   ·refine hK23 _ _ _ _ ?_;rw [a_a h0 (by omega)];refine next h0 hlt ⟨hx.then hx',by omega,lt_ hz hx'.size,?_⟩
    rw [a_J h0 hxs,hb,hbf];simpa using ho.keep hx'
  refine ⟨fun hk=>?_,fun hk=>key _ _ hx36 (by simp [implQ,a_f.1 hk])⟩;refine (RetB.base (c_in name (hu4.keep (hx.then hx36).keep)) hx36).mono ?_;rintro _ w44 ⟨b,rfl,hkk,hx44,hb⟩;refine ⟨b,rfl,by simp [hkk],key _ _ hx44 ?_⟩;have:=g_p hb;simp only [implQ,a_b.1 hk,this];simp
 ·have hle:=odf hge;rw [tl_ (by omega)] at ho;exact ⟨A,L,C,rfl,ho,by omega,hx⟩
theorem Own.ofBlk {w:World}{T:TypeId}(h:Blk w k T cs){n:Nat}(hl:cs.length=l*n)(hm:l<=4194304){base:Nat}(hb:base<=k):Own base w T n (some (adr k)) l l cs:=
 ⟨hl,.inr ⟨k,l,cs.toArray,rfl,hb,h,Nat.le_refl _,by simp only [maxLen];omega,by simpa using hl,by rw [<- hl];simp⟩⟩
theorem Blk.sl {α:Type}{w:World}{T:TypeId}(h:Blk w k T cs){n:Nat}{R:α->List Value->Prop}{xs:List α}(hf:Flat n R xs cs)(hn:0<n)(hm:xs.length<=4194304):SlL w T n R (some (adr k)) xs.length xs.length xs:=
 (Own.ofBlk h hf.len hm (Nat.zero_le _)).sl hf hn hm
theorem l_F {base:Nat}{w:World}{T n:Nat}{xs:List Value}(h:Own base w T n a l c xs)(hk:Blk w k T' cs)(hT:T'≠T):¬ blkOf a k:=by
 rintro ⟨p,rfl,rfl⟩;obtain ⟨h1,h2|⟨g,cap,cur,e1,e2,e3,e4⟩⟩:=h
 ·simp at h2
 ·simp only [Value.slice.injEq,Option.some.injEq] at e1;obtain ⟨rfl,-⟩:=e1;rw [show w.heap[g]? =objAt w g from rfl,show objAt w g=_ from hk] at e3;simp only [Option.some.injEq,Obj.cells.injEq] at e3;exact hT e3.2.1
theorem l_G {base:Nat}{w:World}{T T' n n':Nat}{a':OA}{l' c':Nat}{xs xs':List Value}(h:Own base w T n a l c xs)(h':Own base' w T' n' a' l' c' xs')(hT:T'≠T):∀ b,blkOf a b->¬ blkOf a' b:=by
 rintro b ⟨p,rfl,rfl⟩ ⟨p',rfl,hp⟩;obtain ⟨h1,h2|⟨g,cap,cur,e1,e2,e3,e4⟩⟩:=h
 ·simp at h2
 obtain ⟨h1',h2'|⟨g',cap',cur',e1',e2',e3',e4'⟩⟩:=h'
 ·simp at h2'
 simp only [Value.slice.injEq,Option.some.injEq] at e1 e1';obtain ⟨rfl,-⟩:=e1;obtain ⟨rfl,-⟩:=e1';simp only at hp;subst hp;rw [e3] at e3';simp only [Option.some.injEq,Obj.cells.injEq] at e3';exact hT e3'.2.1.symm
def OwnR {α:Type}(T n:Nat)(R:α->List Value->Prop)(base:Nat)(w:World)(A:OA)(L C:Nat)(xs:List α):Prop:=∃ cells,Own base w T n A L C cells/\Flat n R xs cells
section
variable {α:Type} {T n:Nat} {R:α->List Value->Prop} {base:Nat} {w:World} {A:OA} {L C:Nat} {xs:List α}
theorem OwnR.nil:OwnR T n R base w none 0 0 []:=⟨[],Own.nil ..,.nil⟩
theorem OwnR.keep {X:Nat->Prop}(h:OwnR T n R base w A L C xs)(hx:Ext X w w')(hn:∀ b,blkOf A b->¬ X b):OwnR T n R base w' A L C xs:=by
 obtain ⟨c1,o1,f1⟩:=h;exact ⟨c1,o1.keep hx hn,f1⟩
theorem OwnR.keep0 (h:OwnR T n R base w A L C xs)(hx:EF w w'):OwnR T n R base w' A L C xs:=h.keep hx fun _ _=>id
theorem OwnR.sl (h:OwnR T n R base w A L C xs)(hn:0<n)(hl:L<=4194304):SlL w T n R A L C xs:=by
 obtain ⟨c1,o1,f1⟩:=h;exact o1.sl f1 hn hl
theorem OwnR.mono {R':α->List Value->Prop}(h:OwnR T n R base w A L C xs)(hr:∀ x∈xs,∀ cs,R x cs->R' x cs):OwnR T n R' base w A L C xs:=by
 obtain ⟨c1,o1,f1⟩:=h;exact ⟨c1,o1,f1.mono hr⟩
theorem OwnR.weaken (h:OwnR T n R base w A L C xs)(hb:base'<=base):OwnR T n R base' w A L C xs:=by
 obtain ⟨c1,⟨h1,h2⟩,f1⟩:=h;exact ⟨c1,⟨h1,h2.elim .inl fun ⟨g,cap,cur,e1,e2,e3⟩=>.inr ⟨g,cap,cur,e1,lt_ hb e2,e3⟩⟩,f1⟩
theorem OwnR.len (h:OwnR T n R base w A L C xs)(hn:0<n):L=xs.length:=by
 obtain ⟨c1,o1,f1⟩:=h;have h1:=o1.len.1;rw [f1.len] at h1;exact (Nat.eq_of_mul_eq_mul_right hn h1).symm
theorem OwnR.ge (h:OwnR T n R base w A L C xs):∀ b,blkOf A b->base<=b/\b<w.heap.size:=by
 obtain ⟨c1,o1,f1⟩:=h;exact o1.base
theorem OwnR.ne (h:OwnR T n R base w A L C xs)(hk:k<base∨w.heap.size<=k):¬ blkOf A k:=fun hb=>by
 have:=h.ge k hb;omega
theorem OwnR.ne_blk (h:OwnR T n R base w A L C xs)(hk:Blk w k T' cs)(hT:T'≠T):¬ blkOf A k:=by
 obtain ⟨c1,o1,f1⟩:=h;exact l_F o1 hk hT
theorem OwnR.ne_own (h:OwnR T n R base w A L C xs){β:Type}{T' n':Nat}{R':β->List Value->Prop}{A':OA}{L' C':Nat}{xs':List β}(h':OwnR T' n' R' base' w A' L' C' xs')(hT:T'≠T):∀ b,blkOf A b->¬ blkOf A' b:=by
 obtain ⟨c1,o1,f1⟩:=h;obtain ⟨c2,o2,f2⟩:=h';exact l_G o1 o2 hT
theorem OwnR.one (t:TypeId)(i:TypeInfo)(z:Value)(bytes:Nat)(ht:Tryz.prog.underlying t=some (.slice T))(hi:Tryz.prog.info? T=some i)(hz:i.zero=some z)
  (hsize:i.size=n) (hby:i.bytes=bytes) (hzs:z.cells.size=n) (hn:0<n) (h3:bytes<=4096) (h:OwnR T n R base w A L C xs) (hb:base<=w.heap.size) {x:α}  (hcs:cs.length=n) (hsm:∀ v∈cs,a_v v) (hr:R x cs)
  (h2:L+1<=16777216) (ty:TypeId) (fs:Array Bool):
  ∃ (A':OA) (C':Nat) (w':World),(Go.builtin .append #[t,t] ty fs #[.slice A L C,.slice (some (adr w.heap.size)) 1 1]).run Tryz.prog (w.alloc (.cells cs.toArray T))=.ok (.value (.slice A' (L+1) C')) w'/\
   OwnR T n R base w' A' (L+1) C' (xs++[x])/\Ext (blkOf A) w w'/\(∀ T',T'≠T->KeepT T' (w.alloc (.cells cs.toArray T)) w')/\(∀ b,blkOf A' b->blkOf A b∨w.heap.size<b):=by
 obtain ⟨cells,hown,hf⟩:=h;have hx:EF w (w.alloc (.cells cs.toArray T)):=(Ext.refl w).alloc _;have hown':=hown.keep hx fun _ _=>id;obtain ⟨A,C,w',h4,h5,h6,h7⟩:=c_a t T i z n bytes ht hi hz hsize hby hzs hn hown' (lt_ hb hx.size) (p:=adr w.heap.size) (c':=1) (l':=1) (news:=cs) (by simpa using hcs) (fun j u hu=>by
  rw [Addr.add_lit];have:=((Blk.made w T cs).at hu).cell;simpa using this) (fun u hu=>(hsm u hu).one) h2 h3 ty fs
 refine ⟨A,C,w',h4,⟨_,h5,hf.append ?_⟩,(hx.mono fun _ _ f=>f.elim).trans h6 fun _ _ h=>h,fun T' hT=>hown'.keepT h6 hT,fun b hb=>(h7 b hb).imp id fun e=>?_⟩
 ·have:=Flat.cons hcs hsm hr (Flat.nil (n:=n) (R:=R));simpa using this
 ·rw [e];simp
theorem OwnR.app (t:TypeId)(i:TypeInfo)(z:Value)(bytes:Nat)(ht:Tryz.prog.underlying t=some (.slice T))(hi:Tryz.prog.info? T=some i)(hz:i.zero=some z)
  (hsize:i.size=n) (hby:i.bytes=bytes) (hzs:z.cells.size=n) (hn:0<n) (h3:bytes<=4096) (h:OwnR T n R base w A L C xs) (hb:base<=w.heap.size) {a':OA} {l' c':Nat} {ys:List α} (hl:SlL w T n R a' l' c' ys) (hlen:∀ x cs,R x cs->cs.length=n)
  (h2:L+l'<=16777216) (ty:TypeId) (fs:Array Bool):
  ∃ (A':OA) (C':Nat) (w':World),(Go.builtin .append #[t,t] ty fs #[.slice A L C,.slice a' l' c']).run Tryz.prog w=.ok (.value (.slice A' (L+l') C')) w'/\
   OwnR T n R base w' A' (L+l') C' (xs++ys)/\Ext (blkOf A) w w'/\(∀ T',T'≠T->KeepT T' w w')/\(∀ b,blkOf A' b->blkOf A b∨b=w.heap.size):=by
 obtain ⟨cells,hown,hf⟩:=h;obtain ⟨A,C,w',h4,h5,h6,h7⟩:=c_7 t T i z n bytes ht hi hz hsize hby hzs hn h3 hown hb hf hl hlen h2 ty fs;exact ⟨A,C,w',h4,h5,h6,fun T' hT=>hown.keepT h6 hT,h7⟩
end
theorem OwnR.ext0 {α:Type}{T n:Nat}{R:α->List Value->Prop}{base:Nat}{w0 w:World}{A:OA}{L C:Nat}{xs:List α}(h:OwnR T n R base w A L C xs)(hb:w0.heap.size<=base)(hx0:EF w0 w)(hx:Ext (blkOf A) w w'):EF w0 w':=
 hx0.trans hx fun b hb' hbl=>h.ne (.inl (by omega)) hbl
abbrev g_q:BA:=⟨#[105,110,99,108,117,100,101]⟩
abbrev m_v:BA:=⟨#[115,107,105,112]⟩
abbrev d_o:BA:=⟨#[100,101,112,114,101,99,97,116,101,100]⟩
abbrev c_T:BA:=⟨#[115,112,101,99,105,102,105,101,100,66,121]⟩
abbrev n_if:BA:=⟨#[105,102]⟩
abbrev b_G:BA:=⟨#[66,111,111,108,101,97,110]⟩
abbrev e_C:BA:=⟨#[114,101,97,115,111,110]⟩
abbrev b_n:BA:=⟨#[83,116,114,105,110,103]⟩
abbrev a_u:BA:=⟨#[78,111,32,108,111,110,103,101,114,32,115,117,112,112,111,114,116,101,100]⟩
abbrev m_w:BA:=⟨#[117,114,108]⟩
abbrev i_u:BA:=⟨#[70,73,69,76,68]⟩
abbrev b_c:BA:=⟨#[70,82,65,71,77,69,78,84,95,83,80,82,69,65,68]⟩
abbrev b_d:BA:=⟨#[73,78,76,73,78,69,95,70,82,65,71,77,69,78,84]⟩
abbrev a_2:BA:=⟨#[70,73,69,76,68,95,68,69,70,73,78,73,84,73,79,78]⟩
abbrev a_O:BA:=⟨#[65,82,71,85,77,69,78,84,95,68,69,70,73,78,73,84,73,79,78]⟩
abbrev a_C:BA:=⟨#[73,78,80,85,84,95,70,73,69,76,68,95,68,69,70,73,78,73,84,73,79,78]⟩
abbrev c_u:BA:=⟨#[69,78,85,77,95,86,65,76,85,69]⟩
abbrev c_S:BA:=⟨#[83,67,65,76,65,82]⟩
theorem i_i (s:BA)(must:Bool)(w:World):CP 97 #[.string s,.bool must] w fun e w'=>e=.returned (.agg #[.string s,.slice none 0 0,.bool must])/\EF w w':=
 o_A s must w _ ⟨trivial,trivial,trivial,rfl,((Ext.refl w).alloc _).setB (.inr (Nat.le_refl _)) _ _⟩
def tyB:Typ:=.mk b_G [] true
def argIf:ArgDef:=⟨E0,n_if,tyB,[],[]⟩
def c_c:ArgDef:=⟨E0,e_C,.mk b_n [] false,[.mk 3 a_u []],[]⟩
def l_0:ArgDef:=⟨E0,m_w,.mk b_n [] true,[],[]⟩
def l_p:List BA:=[i_u,b_c,b_d]
def n_g:List BA:=[a_2,a_O,a_C,c_u]
def f_C:DirDef:=⟨E0,g_q,[argIf],l_p,false⟩
def dSkip:DirDef:=⟨E0,m_v,[argIf],l_p,false⟩
def dDepr:DirDef:=⟨E0,d_o,[c_c],n_g,false⟩
def dSpec:DirDef:=⟨E0,c_T,[l_0],[c_S],false⟩
def a_P:List Def:=scal.map a_A
def d_s:List DirDef:=[f_C,dSkip,dDepr,dSpec]
def a_Z (k1 k2 k3 k4 k5 k6 k7 k8:Nat):List (Nat × TypeId × List Value):=[
 (k1,9,[.string i_u,.string b_c,.string b_d]),
 (k2,250,[.string E0,.string n_if,.string b_G,.slice none 0 0,.bool true,.slice none 0 0,.slice none 0 0]),
 (k3,250,[.string E0,.string n_if,.string b_G,.slice none 0 0,.bool true,.slice none 0 0,.slice none 0 0]),
 (k4,115,[.int .i64 3,.string a_u,.slice none 0 0]),
 (k5,250,[.string E0,.string e_C,.string b_n,.slice none 0 0,.bool false,.slice (some (adr k4)) 1 1,.slice none 0 0]),
 (k6,9,[.string a_2,.string a_O,.string a_C,.string c_u]),
 (k7,250,[.string E0,.string m_w,.string b_n,.slice none 0 0,.bool true,.slice none 0 0,.slice none 0 0]),
 (k8,9,[.string c_S])]
def a_y (k1 k2 k3 k4 k5 k6 k7 k8:Nat):List (DirDef × List Value):=[
 (f_C,[.string E0,.string g_q,.slice (some (adr k2)) 1 1,.slice (some (adr k1)) 3 3,.bool false]),
 (dSkip,[.string E0,.string m_v,.slice (some (adr k3)) 1 1,.slice (some (adr k1)) 3 3,.bool false]),
 (dDepr,[.string E0,.string d_o,.slice (some (adr k5)) 1 1,.slice (some (adr k6)) 4 4,.bool false]),
 (dSpec,[.string E0,.string c_T,.slice (some (adr k7)) 1 1,.slice (some (adr k8)) 1 1,.bool false])]
def Blks (w:World)(l:List (Nat × TypeId × List Value)):Prop:=∀ x∈l,Blk w x.1 x.2.1 x.2.2
theorem Blks.keep {X:Nat->Prop}{w:World}{l:List (Nat × TypeId × List Value)}(h:Blks w l)(hx:Ext X w w')(hn:∀ x∈l,¬ X x.1):Blks w' l:=fun x hm=>(h x hm).ext hx (hn x hm)
theorem i_T {w:World}(xs:List BA)(h:Blk w k 9 (xs.map .string))(hs:∀ s∈xs,s.size<=4194304)(hl:xs.length<=4194304):RStrs w (some (adr k)) xs.length xs.length xs:=h.sl (g_k xs hs) (by omega) hl
theorem flat1 {α:Type}{n:Nat}{R:α->List Value->Prop}{x:α}(hl:cs.length=n)(hs:∀ v∈cs,a_v v)(hr:R x cs):Flat n R [x] cs:=by
 have:=Flat.cons hl hs hr .nil;simpa using this
theorem a_G:∀ {v:Value},(match v with | .string s=>decide (s.size<=4194304)|v=>v.oneCell')=true->a_v v
 | .string s,h=>odt (p:=s.size<=4194304) h
 | .bool _,h| .int _ _,h| .float _ _,h| .complex _ _ _,h| .pointer _,h| .slice _ _ _,h| .map _,h| .nilIface,h| .iface _ _,h| .nilFunc,h| .func _ _ _,h| .chan _,h| .agg _,h| .tuple _,h=>h
theorem b_I (h:(cs.all fun v=>match v with | .string s=>decide (s.size<=4194304)|v=>v.oneCell')=true):∀ v∈cs,a_v v:=fun v hv=>a_G (List.all_eq_true.1 h v hv)
theorem Blks.get {w:World}{l:List (Nat × TypeId × List Value)}(h:Blks w l)(i:Nat)(hi:i<l.length):Blk w l[i].1 l[i].2.1 l[i].2.2:=h _ (List.getElem_mem hi)
theorem m_E {w:World}{k1 k2 k3 k4 k5 k6 k7 k8:Nat}(h:Blks w (a_Z k1 k2 k3 k4 k5 k6 k7 k8)):∀ x∈a_y k1 k2 k3 k4 k5 k6 k7 k8,c_v w x.1 x.2:=by
 have s1:RStrs w (some (adr k1)) 3 3 l_p:=i_T l_p (h.get 0 (by simp [a_Z])) (by decide) (by decide);have s6:RStrs w (some (adr k6)) 4 4 n_g:=i_T n_g (h.get 5 (by simp [a_Z])) (by decide) (by decide);have s8:RStrs w (some (adr k8)) 1 1 [c_S]:=i_T [c_S] (h.get 7 (by simp [a_Z])) (by decide) (by decide);have a2:a_R w (some (adr k2)) 1 1 [argIf]:=Blk.sl (n:=7) (h.get 1 (by simp [a_Z])) (flat1 rfl (b_I rfl) ⟨_,_,_,_,_,_,_,_,_,_,_,rfl,b_M.2 ⟨rfl,rfl,SlL.nil ..⟩,SlL.nil ..,SlL.nil ..⟩) (by omega) (by simp);have a3:a_R w (some (adr k3)) 1 1 [argIf]:=Blk.sl (n:=7) (h.get 2 (by simp [a_Z])) (flat1 rfl (b_I rfl) ⟨_,_,_,_,_,_,_,_,_,_,_,rfl,b_M.2 ⟨rfl,rfl,SlL.nil ..⟩,SlL.nil ..,SlL.nil ..⟩) (by omega) (by simp);have v4:RVals w (some (adr k4)) 1 1 [.mk 3 a_u []]:=Blk.sl (n:=3) (h.get 3 (by simp [a_Z])) (flat1 rfl (b_I rfl) ⟨_,_,_,_,_,rfl,e_U.2 ⟨rfl,rfl,SlL.nil ..⟩⟩) (by omega) (by simp);have a5:a_R w (some (adr k5)) 1 1 [c_c]:=Blk.sl (n:=7) (h.get 4 (by simp [a_Z])) (flat1 rfl (b_I rfl) ⟨_,_,_,_,_,_,_,_,_,_,_,rfl,b_M.2 ⟨rfl,rfl,SlL.nil ..⟩,v4,SlL.nil ..⟩) (by omega) (by simp);have a7:a_R w (some (adr k7)) 1 1 [l_0]:=Blk.sl (n:=7) (h.get 6 (by simp [a_Z])) (flat1 rfl (b_I rfl) ⟨_,_,_,_,_,_,_,_,_,_,_,rfl,b_M.2 ⟨rfl,rfl,SlL.nil ..⟩,SlL.nil ..,SlL.nil ..⟩) (by omega) (by simp);intro x hx;simp only [a_y,mc_,nn_,or_false] at hx;rcases hx with rfl|rfl|rfl|rfl
 ·exact ⟨_,_,_,_,_,_,rfl,a2,s1⟩
 ·exact ⟨_,_,_,_,_,_,rfl,a3,s1⟩
 ·exact ⟨_,_,_,_,_,_,rfl,a5,s6⟩
 ·exact ⟨_,_,_,_,_,_,rfl,a7,s8⟩
theorem g_M (w:World)(s:BA):RDef w (a_A s) [.string d_m,.string E0,.string s,.slice none 0 0,.slice none 0 0,.slice none 0 0,.slice none 0 0,.slice none 0 0]:=
 ⟨_,_,_,_,_,_,_,_,_,_,_,_,_,_,_,rfl,SlL.nil ..,SlL.nil ..,SlL.nil ..,SlL.nil ..,SlL.nil ..⟩
def RPre (w:World)(l:List (DirDef × List Value))(x:DirDef)(cs:List Value):Prop:=c_v w x cs∨(x,cs)∈l
theorem c_v.len {w:World}{x:DirDef}(h:c_v w x cs):cs.length=5:=by
 obtain ⟨a1,l1,c1,a2,l2,c2,rfl,_⟩:=h;rfl
theorem RDef.len {w:World}{x:Def}(h:RDef w x cs):cs.length=8:=by
 obtain ⟨a1,l1,c1,a2,l2,c2,a3,l3,c3,a4,l4,c4,a5,l5,c5,rfl,_⟩:=h;rfl
theorem m_A {α:Type}{T n:Nat}{R:α->List Value->Prop}{base:Nat}{w:World}{A:OA}{L C:Nat}{xs:List α}(h:OwnR T n R base w A L C xs){a:Addr}{v:Value}(ha:At w T' a v)(hb:blkOf A a.block)(hT:T'≠T):False:=by
 obtain ⟨cs,fr,h1,h2,h3⟩:=ha;obtain ⟨c1,⟨g1,g2⟩,f1⟩:=h;obtain ⟨p,rfl,hp⟩:=hb;rcases g2 with g2|⟨g,cap,cur,e1,e2,e3,e4⟩
 ·simp at g2
 ·simp only [Value.slice.injEq,Option.some.injEq] at e1;obtain ⟨rfl,-⟩:=e1;simp only at hp;subst hp;rw [show w.heap[a.block]? =objAt w a.block from rfl,h1] at e3;simp only [Option.some.injEq,Obj.cells.injEq] at e3;exact hT e3.2.1
theorem a_x.mono1 {w:World}{T:TypeId}(h:∀ T' v a,okT T T' a.block->At w T' a v->At w' T' a v):∀ {j:Nat} {cs:List Value},a_x w T p j cs->a_x w' T p j cs
 | _,[],_=>trivial
 | _,_::_,⟨⟨T',ho,h1⟩,h0,h2⟩=>⟨⟨T',ho,h _ _ _ ho h1⟩,h0,h2.mono1 h⟩
theorem SlL.mono1 {α:Type}{w:World}{T n:Nat}{R:α->List Value->Prop}{xs:List α}(hx:SlL w T n R a l c xs)(h:∀ T' v a,okT T T' a.block->At w T' a v->At w' T' a v):SlL w' T n R a l c xs:=
 Sl.mono hx fun _ x hm ⟨cs,h1,h2⟩=>⟨cs,h1.mono1 h,h2⟩
theorem l_5 (w0 w:World)(hDB:DB.B<=w.heap.size):CP 56 #[] w fun e w'=>∃ (D:OA) (T:OA) (L C k1 k2 k3 k4 k5 k6 k7 k8:Nat),e=.returned (.agg #[.slice none 0 0,.slice none 0 0,.slice D 4 4,.slice T L C,.slice none 0 0])/\EF w w'/\
  OwnR 96 8 (RDef w0) w.heap.size w' T L C a_P/\OwnR 120 5 (RPre w0 (a_y k1 k2 k3 k4 k5 k6 k7 k8)) w.heap.size w' D 4 4 d_s/\Blks w' (a_Z k1 k2 k3 k4 k5 k6 k7 k8)/\∀ x∈a_Z k1 k2 k3 k4 k5 k6 k7 k8,w.heap.size<=x.1:=by
 refine m_J w _ ⟨trivial,trivial,?_⟩;have hx2:EF w ((w.alloc (.cells #[.slice none 0 0,.slice none 0 0,.slice none 0 0,.slice none 0 0,.slice none 0 0] 26)).alloc (.cells #[.slice none 0 0,.slice none 0 0,.slice none 0 0,.slice none 0 0,.slice none 0 0] 26)):=((Ext.refl w).alloc _).alloc _;refine (f_6 _).mono ?_;rintro _ w4 ⟨a5,l5,c5,rfl,hs,hx24⟩;refine ⟨a5,l5,c5,rfl,by simp [hx24.keepT],?_⟩;have hx4:=hx2.then hx24;have hz4:w.heap.size+2<=w4.heap.size:=by
  have:=hx24.size;simp at this;omega
 have hk:(w.alloc (.cells #[.slice none 0 0,.slice none 0 0,.slice none 0 0,.slice none 0 0,.slice none 0 0] 26)).heap.size=w.heap.size+1:=by simp
 obtain ⟨e5,-⟩:=hs.len;dsimp only;rw [hk];have hB0:Blk w4 (w.heap.size+1) 26 [.slice none 0 0,.slice none 0 0,.slice none 0 0,.slice none 0 0,.slice none 0 0]:=by
  have:=Blk.made (w.alloc (.cells #[.slice none 0 0,.slice none 0 0,.slice none 0 0,.slice none 0 0,.slice none 0 0] 26)) 26 [.slice none 0 0,.slice none 0 0,.slice none 0 0,.slice none 0 0,.slice none 0 0];rw [hk] at this;exact this.ext hx24 id
 refine ⟨fun i b1 m1 d1 b2 m2 d2 b3 m3 d3 A L C b5 m5 d5 w1=>0<=i/\i<=l5/\(b1=none/\m1=0/\d1=0)/\(b2=none/\m2=0/\d2=0)/\(b5=none/\m5=0/\d5=0)/\L=i.toNat/\EF w w1/\RStrs w1 a5 l5 c5 scal/\w4.heap.size<=w1.heap.size/\OwnR 96 8 (RDef w0) w4.heap.size w1 A L C ((scal.take i.toNat).map a_A)/\
   ∃ cs,Blk w1 (w.heap.size+1) 26 cs,
  fun i _ _ _ _ _ _ _ _ _ _ _ _ _ _ _ _=>((l5:Int)-i).toNat,⟨by omega,by omega,⟨rfl,rfl,rfl⟩,⟨rfl,rfl,rfl⟩,⟨rfl,rfl,rfl⟩,rfl,hx4,hs,Nat.le_refl _,by simpa using OwnR.nil,_,hB0⟩,?_⟩
 rintro i b1 m1 d1 b2 m2 d2 b3 m3 d3 A L C b5 m5 d5 w1 ⟨h0,hi,⟨rfl,rfl,rfl⟩,⟨rfl,rfl,rfl⟩,⟨rfl,rfl,rfl⟩,rfl,hx,hs1,hz,ho,csB,hB⟩;refine ⟨fun hlt=>?_,fun hge=>?_⟩
 ·have hlt:=odt hlt;obtain ⟨p,s,hp,hxs,cs,hc,rfl⟩:=hs1.get h0 hlt;have hsz:s.size<=4194304:=hc.2.1;obtain ⟨A2,C2,w2,r2,o2,x2,k2,n2⟩:=ho.one 24 Tryz.t96 _ _ (by kernel_rfl) (by kernel_rfl) rfl (by kernel_rfl) rfl (by kernel_rfl) (by omega) (by decide) hz (x:=a_A s) rfl (fun v hv=>by
   simp only [mc_,nn_,or_false] at hv;rcases hv with rfl|rfl|rfl|rfl|rfl|rfl|rfl|rfl<;>first|exact hsz|exact a_G rfl) (g_M w0 s) (by simp at e5;omega) 24 #[false,false]
  have hx2':EF w w2:=ho.ext0 hx4.size hx x2;refine ⟨p,hp,⟨h0,hlt⟩,s,hc.1.choose_spec.2.cell,trivial,trivial,A2,i.toNat+1,C2,w2,r2,⟨k2 _ (by decide),trivial⟩,trivial,?_⟩;rw [a_a h0 (by simp at e5;omega)];have hB2:=hB.ext x2 (ho.ne (.inl (by omega)));have hs2:RStrs w2 a5 l5 c5 scal:=SlL.mono1 hs1 (fun T' v a hok h=>x2.at (fun e=>hok.elim (fun e'=>m_A ho (e'▸h) e (by decide)) fun hl=>by
   have:=(ho.ge _ e).1;omega) h)
  have hset:Ext (XM (w.heap.size+1)) w2 (setB w2 (w.heap.size+1) [.slice none 0 0,.slice none 0 0,.slice b3 m3 d3,.slice A2 (i.toNat+1) C2,.slice none 0 0] 26):=Ext.setB (X:=XM (w.heap.size+1)) (Ext.refl w2) (.inl rfl) _ _;refine next h0 hlt ⟨⟨rfl,rfl,rfl⟩,⟨rfl,rfl,rfl⟩,⟨rfl,rfl,rfl⟩,by omega,hx2'.setB (.inr (by omega)) _ _,SlL.keep (hset.keep1 hB2 (by decide) (by omega)) (by decide) hs2 (fun _ _ _ e=>e),lt_ hz (lt_ x2.size hset.size),?_,_,hB2.setB⟩
  refine OwnR.keep ?_ hset fun b hb e=>?_
  ·rw [show (i+1).toNat=i.toNat+1 by omega,List.take_succ,hxs];simpa using o2
  ·have:=(o2.ge b hb).1;have:b=w.heap.size+1:=e;omega
 ·have hle:=odf hge;rw [tl_ (by omega)] at ho;have hL:i.toNat=5:=by simp at e5;omega
  refine ⟨trivial,?_⟩;have B1:=Blk.made w1 9 [.string i_u,.string b_c,.string b_d];have e21:EF w1 (w1.alloc (.cells #[.string i_u,.string b_c,.string b_d] 9)):=(Ext.refl w1).alloc _;refine (i_i b_G true _).mono ?_;rintro _ w23 ⟨rfl,x23⟩;refine ⟨_,_,_,_,_,rfl,by simp [x23.keepT],trivial,trivial,trivial,?_⟩;have B2:=Blk.made w23 250 [.string E0,.string n_if,.string b_G,.slice none 0 0,.bool true,.slice none 0 0,.slice none 0 0];have e27:EF w23 (w23.alloc (.cells #[.string E0,.string n_if,.string b_G,.slice none 0 0,.bool true,.slice none 0 0,.slice none 0 0] 250)):=(Ext.refl w23).alloc _;refine (i_i b_G true _).mono ?_;rintro _ w29 ⟨rfl,x29⟩;refine ⟨_,_,_,_,_,rfl,by simp [x29.keepT],trivial,trivial,trivial,?_⟩;have B3:=Blk.made w29 250 [.string E0,.string n_if,.string b_G,.slice none 0 0,.bool true,.slice none 0 0,.slice none 0 0];have e33:EF w29 (w29.alloc (.cells #[.string E0,.string n_if,.string b_G,.slice none 0 0,.bool true,.slice none 0 0,.slice none 0 0] 250)):=(Ext.refl w29).alloc _;refine (i_i b_n false _).mono ?_;rintro _ w35 ⟨rfl,x35⟩;refine ⟨_,_,_,_,_,rfl,by simp [x35.keepT],trivial,trivial,trivial,trivial,trivial,trivial,?_⟩;have B4:=Blk.made w35 115 [.int .i64 3,.string a_u,.slice none 0 0];have e39:EF w35 (w35.alloc (.cells #[.int .i64 3,.string a_u,.slice none 0 0] 115)):=(Ext.refl w35).alloc _;generalize hw39:(w35.alloc (.cells #[.int .i64 3,.string a_u,.slice none 0 0] 115))=w39 at B4 e39 ⊢;have B5:=Blk.made w39 250 [.string E0,.string e_C,.string b_n,.slice none 0 0,.bool false,.slice (some (adr w35.heap.size)) 1 1,.slice none 0 0];have e40:EF w39 (w39.alloc (.cells #[.string E0,.string e_C,.string b_n,.slice none 0 0,.bool false,.slice (some (adr w35.heap.size)) 1 1,.slice none 0 0] 250)):=(Ext.refl w39).alloc _;generalize hw40:(w39.alloc (.cells #[.string E0,.string e_C,.string b_n,.slice none 0 0,.bool false,.slice (some (adr w35.heap.size)) 1 1,.slice none 0 0] 250))=w40 at B5 e40 ⊢;have B6:=Blk.made w40 9 [.string a_2,.string a_O,.string a_C,.string c_u];have e41:EF w40 (w40.alloc (.cells #[.string a_2,.string a_O,.string a_C,.string c_u] 9)):=(Ext.refl w40).alloc _;refine (i_i b_n true _).mono ?_;rintro _ w43 ⟨rfl,x43⟩;refine ⟨_,_,_,_,_,rfl,by simp [x43.keepT],trivial,trivial,trivial,trivial,trivial,trivial,trivial,?_⟩;have B7:=Blk.made w43 250 [.string E0,.string m_w,.string b_n,.slice none 0 0,.bool true,.slice none 0 0,.slice none 0 0];have e47:EF w43 (w43.alloc (.cells #[.string E0,.string m_w,.string b_n,.slice none 0 0,.bool true,.slice none 0 0,.slice none 0 0] 250)):=(Ext.refl w43).alloc _;generalize hw47:(w43.alloc (.cells #[.string E0,.string m_w,.string b_n,.slice none 0 0,.bool true,.slice none 0 0,.slice none 0 0] 250))=w47 at B7 e47 ⊢;have B8:=Blk.made w47 9 [.string c_S];have e48:EF w47 (w47.alloc (.cells #[.string c_S] 9)):=(Ext.refl w47).alloc _;generalize hw48:(w47.alloc (.cells #[.string c_S] 9))=w48 at B8 e48 ⊢;have B9:=Blk.made w48 120 ((a_y w1.heap.size w23.heap.size w29.heap.size w35.heap.size w39.heap.size w40.heap.size w43.heap.size w47.heap.size).flatMap (·.2));have e49:EF w48 (w48.alloc (.cells ((a_y w1.heap.size w23.heap.size w29.heap.size w35.heap.size w39.heap.size w40.heap.size w43.heap.size w47.heap.size).flatMap (·.2)).toArray 120)):=(Ext.refl w48).alloc _;refine ⟨some (adr w48.heap.size),A,i.toNat,C,w1.heap.size,w23.heap.size,w29.heap.size,w35.heap.size,w39.heap.size,w40.heap.size,w43.heap.size,w47.heap.size,rfl,?_⟩;change EF w (setB (setB (w48.alloc (.cells ((a_y w1.heap.size w23.heap.size w29.heap.size w35.heap.size w39.heap.size w40.heap.size w43.heap.size w47.heap.size).flatMap (·.2)).toArray 120)) _ _ _) _ _ _)/\OwnR _ _ _ _ (setB (setB (w48.alloc (.cells ((a_y w1.heap.size w23.heap.size w29.heap.size w35.heap.size w39.heap.size w40.heap.size w43.heap.size w47.heap.size).flatMap (·.2)).toArray 120)) _ _ _) _ _ _) _ _ _ _/\
   OwnR _ _ _ _ (setB (setB (w48.alloc (.cells ((a_y w1.heap.size w23.heap.size w29.heap.size w35.heap.size w39.heap.size w40.heap.size w43.heap.size w47.heap.size).flatMap (·.2)).toArray 120)) _ _ _) _ _ _) _ _ _ _/\Blks (setB (setB (w48.alloc (.cells ((a_y w1.heap.size w23.heap.size w29.heap.size w35.heap.size w39.heap.size w40.heap.size w43.heap.size w47.heap.size).flatMap (·.2)).toArray 120)) _ _ _) _ _ _) _/\_
  generalize (w48.alloc (.cells ((a_y w1.heap.size w23.heap.size w29.heap.size w35.heap.size w39.heap.size w40.heap.size w43.heap.size w47.heap.size).flatMap (·.2)).toArray 120))=w49 at B9 e49 ⊢;have q47:=e48.then e49;have q43:=e47.then q47;have q40:=(e41.then x43).then q43;have q39:=e40.then q40;have q35:=e39.then q39;have q29:=(e33.then x35).then q35;have q23:=(e27.then x29).then q29;have q1:=(e21.then x23).then q23;have s1:=(e21.then x23).size;have s2:=(e27.then x29).size;have s3:=(e33.then x35).size;have s4:=e39.size;have s5:=e40.size;have s6:=(e41.then x43).size;have s7:=e47.size;have s8:=e48.size;have hb49:Blks w49 (a_Z w1.heap.size w23.heap.size w29.heap.size w35.heap.size w39.heap.size w40.heap.size w43.heap.size w47.heap.size):=by
   intro x hx;simp only [a_Z,mc_,nn_,or_false] at hx;rcases hx with rfl|rfl|rfl|rfl|rfl|rfl|rfl|rfl
   ·exact B1.ext (x23.then q23) id
   ·exact B2.ext (x29.then q29) id
   ·exact B3.ext (x35.then q35) id
   ·exact B4.ext q39 id
   ·exact B5.ext q40 id
   ·exact B6.ext (x43.then q43) id
   ·exact B7.ext q47 id
   ·exact B8.ext e49 id
  have hge:∀ x∈a_Z w1.heap.size w23.heap.size w29.heap.size w35.heap.size w39.heap.size w40.heap.size w43.heap.size w47.heap.size,w.heap.size+2<=x.1:=by
   intro x hx;simp only [a_Z,mc_,nn_,or_false] at hx;rcases hx with rfl|rfl|rfl|rfl|rfl|rfl|rfl|rfl<;>dsimp only<;>omega
  have hx51:=(hx.then q1).setB (b:=w.heap.size+1) (.inr (by omega)) [.slice none 0 0,.slice none 0 0,.slice (some (adr w48.heap.size)) 4 4,.slice A i.toNat C,.slice none 0 0] 26;have hx51:=hx51.setB (b:=w.heap.size) (.inr (by omega)) [.slice none 0 0,.slice none 0 0,.slice (some (adr w48.heap.size)) 4 4,.slice A i.toNat C,.slice none 0 0] 26;have j:Ext (fun k=>k=w.heap.size∨k=w.heap.size+1) w49 (setB (setB w49 (w.heap.size+1) [.slice none 0 0,.slice none 0 0,.slice (some (adr w48.heap.size)) 4 4,.slice A i.toNat C,.slice none 0 0] 26) w.heap.size [.slice none 0 0,.slice none 0 0,.slice (some (adr w48.heap.size)) 4 4,.slice A i.toNat C,.slice none 0 0] 26):=
   Ext.setB (X:=fun k=>k=w.heap.size∨k=w.heap.size+1) (Ext.setB (X:=fun k=>k=w.heap.size∨k=w.heap.size+1) (Ext.refl w49) (.inl (.inr rfl)) _ _) (.inl (.inl rfl)) _ _
  refine ⟨hx51,?_,?_,hb49.keep j fun x hx e=>?_,fun x hx=>?_⟩
  ·exact ((ho.keep0 q1).keep j fun b hb e=>by
    have:=(ho.ge b hb).1;omega).weaken (by omega)
  ·have o9:Own (w.heap.size+2) w49 120 5 (some (adr w48.heap.size)) 4 4 ((a_y w1.heap.size w23.heap.size w29.heap.size w35.heap.size w39.heap.size w40.heap.size w43.heap.size w47.heap.size).flatMap (·.2)):=Own.ofBlk B9 (by simp [a_y]) (by omega) (by omega);have f9:Flat 5 (RPre w0 (a_y w1.heap.size w23.heap.size w29.heap.size w35.heap.size w39.heap.size w40.heap.size w43.heap.size w47.heap.size)) d_s ((a_y w1.heap.size w23.heap.size w29.heap.size w35.heap.size w39.heap.size w40.heap.size w43.heap.size w47.heap.size).flatMap (·.2)):=by
    have hm:∀ p∈a_y w1.heap.size w23.heap.size w29.heap.size w35.heap.size w39.heap.size w40.heap.size w43.heap.size w47.heap.size,RPre w0 (a_y w1.heap.size w23.heap.size w29.heap.size w35.heap.size w39.heap.size w40.heap.size w43.heap.size w47.heap.size) p.1 p.2:=fun p hp=>.inr hp;refine Flat.cons (cs:=[.string E0,.string g_q,.slice (some (adr w23.heap.size)) 1 1,.slice (some (adr w1.heap.size)) 3 3,.bool false]) rfl (b_I rfl) (hm (f_C,_) (by simp [a_y])) ?_;refine Flat.cons (cs:=[.string E0,.string m_v,.slice (some (adr w29.heap.size)) 1 1,.slice (some (adr w1.heap.size)) 3 3,.bool false]) rfl (b_I rfl) (hm (dSkip,_) (by simp [a_y])) ?_;refine Flat.cons (cs:=[.string E0,.string d_o,.slice (some (adr w39.heap.size)) 1 1,.slice (some (adr w40.heap.size)) 4 4,.bool false]) rfl (b_I rfl) (hm (dDepr,_) (by simp [a_y])) ?_;exact Flat.cons (cs:=[.string E0,.string c_T,.slice (some (adr w43.heap.size)) 1 1,.slice (some (adr w47.heap.size)) 1 1,.bool false]) rfl (b_I rfl) (hm (dSpec,_) (by simp [a_y])) .nil
   refine (OwnR.keep ⟨_,o9,f9⟩ j fun b hb e=>?_).weaken (by omega);have:=(o9.base b hb).1;omega
  ·have:=hge x hx;omega
  ·have:=hge x hx;omega
end Go.VC
