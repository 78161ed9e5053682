/- Part of the proof of a law of a rule over documents (JpE), where what the arguments hold is of bulk at most 1048576. -/
import Derived.Test.YtdakokhbeoohlaaGreatDoorJpD
import Derived.LaidEqlPtr
import Derived.Test.YtdakokhbeoohlaaGreatDoorJpA
set_option linter.unusedVariables false
set_option linter.unusedSimpArgs false
set_option linter.unusedSectionVars false
namespace Go.VC
open Go Go.Proofs
variable [DB]
variable {α:Type}{need:Bool}{R1:Bool × List Bool}{cells:List Value}{i t0:Nat}{T4:Nat->Prop}{q:OA}{o:Option (TypeId × Value)}{K:Value->Prop}{S:Value->Value->Prop}
def KO (J:JJ)(x:JN)(v:JV):Prop:=(v.k=3->bound (x_c v.t.toList) x.minL x.maxL=true/\tkn v.t x.pat=true)/\(v.k=4->arrOK 2020 J x v=true)/\(v.k=5->objOK J x v)/\∀ n∈depsN x v,(J n v).1=true
def KM (J:JJ)(x:JN)(v:JV)(i:Nat):Prop:=(v.k=4/\contM J x v i)∨(v.k=5/\i∈membs v.ns/\objM J x v i)∨∃ n∈depsN x v,mkd (J n v).2 i
theorem x_0 {x:JN}{v:JV}(h:v.k≠5):depsN x v=[]:=by rw [depsN,if_neg h]
section
variable {J:JJ} {x:JN} {v:JV} {N own:Nat}
theorem y_g {n:Int}(h:later N own n):n>0↔n≠0:=by
 rcases h with h|h<;>omega
theorem jel2 (hf:∀ n∈x.first,n≠0)(i:Nat)(y:JV):(jelem 2020 J x i y).2=true↔i<x.first.length∨x.items≠0:=by
 unfold jelem;rw [if_neg (by decide)];by_cases hi:i<x.first.length
 ·rw [List.getElem?_eq_getElem hi];dsimp only;rw [if_neg (hf _ (List.getElem_mem hi))];simp [hi]
 ·rw [List.getElem?_eq_none (by omega)];dsimp only;by_cases hz:x.items=0
  ·rw [if_pos hz];simp [hi,hz]
  ·rw [if_neg hz];simp [hz]
theorem C_1 (hf:∀ n∈x.first,n≠0):arrM 2020 J x v i↔(i<v.xs.length/\(i<x.first.length∨x.items≠0))∨contM J x v i:=by
 unfold arrM contM;constructor
 ·rintro ⟨y,hy,h|⟨h1,-, h2⟩⟩
  ·exact .inl ⟨(List.getElem?_eq_some_iff.1 hy).1,(jel2 hf i y).1 h⟩
  ·exact .inr ⟨h1,y,hy,h2⟩
 ·rintro (⟨h1,h2⟩|⟨h1,y,hy,h2⟩)
  ·exact ⟨_,List.getElem?_eq_getElem h1,.inl ((jel2 hf i _).2 h2)⟩
  ·exact ⟨y,hy,.inr ⟨h1,by decide,h2⟩⟩
theorem C_F (hm:0<=x.more.k/\x.more.k<=3)(h0:x.more.k≠0)(hl:v.ns.length=v.xs.length)(hi:i∈membs v.ns):objM J x v i:=by
 have hlt:=z_u hi;refine ⟨_,_,List.getElem?_eq_getElem hlt,List.getElem?_eq_getElem (by omega:i<v.xs.length),?_⟩;unfold x_d;dsimp only;split
 ·rfl
 ·unfold jmore;split
  ·rfl
  ·split
   ·rfl
   ·split
    ·rfl
    ·omega
theorem B_H (hN:okN N own x)(hok:okV v)(hT:∀ i,T4 i↔T0 x v need i/\¬ refM J x v i/\¬ KM J x v i/\¬ condM J x v i):
  (v.k=4->(need=true∨x.restI≠0)->∀ i,i<v.xs.length->(T4 i↔¬ (preM J x v i∨arrM 2020 J x v i)))/\
  (v.k=5->(need=true∨x.restP≠0)->∀ i∈membs v.ns,(T4 i↔¬ (preM J x v i∨objM J x v i))):=by
 have hf:∀ n∈x.first,n≠0:=fun m hm=>(hN.first m hm).2;refine ⟨fun h4 hneed i hi=>?_,fun h5 hneed i hi=>?_⟩
 ·have hd:depsN x v=[]:=x_0 (by omega);rw [hT,C_1 hf];unfold T0 KM preM;rw [hd];have hp:i∈plc v:=by
   unfold plc;rw [if_neg (by omega),if_pos h4];simpa using hi
  simp only [h4,hp,hi,true_and,(show ¬ (4:Int)=5 by decide),false_and,false_or,or_false,nn_,exists_false,hneed,not_or,true_and];constructor
  ·rintro ⟨⟨g1,g2⟩,g3,g4,g5⟩;exact ⟨⟨g3,g5⟩,⟨by omega,by simpa using g1⟩,g4⟩
  ·rintro ⟨⟨g3,g5⟩,⟨g1,g2⟩,g4⟩;exact ⟨⟨by simpa using g2,by omega⟩,g3,g4,g5⟩
 ·rw [hT];unfold T0 KM preM;have hp:i∈plc v:=by
   unfold plc;rw [if_pos h5];exact hi
  simp only [h5,hp,hi,true_and,(show ¬ (5:Int)=4 by decide),false_and,false_or,or_false,hneed,not_or,and_true];constructor
  ·rintro ⟨g1,g2,⟨g3,g4⟩,g5⟩;exact ⟨⟨g2,g5,g4⟩,g3⟩
  ·rintro ⟨⟨g2,g5,g4⟩,g3⟩;refine ⟨?_,g2,⟨g3,g4⟩,g5⟩;by_cases h0:x.more.k=0
   ·exact h0
   ·exact absurd (C_F hN.more h0 (hok.len5 h5) hi) g3
theorem C_X (hN:okN N own x)(hok:okV v)(hT:∀ i,T4 i↔T0 x v need i/\¬ refM J x v i/\¬ KM J x v i/\¬ condM J x v i)(hfmt:v.k=3->tkn v.t x.fmt=true):
  (KO J x v/\B_s J x v T4)↔((∀ n∈depsN x v,(J n v).1=true)/\B_G 2020 J x v):=by
 obtain ⟨l4,l5⟩:=B_H hN hok hT;have hpl:∀ i,T4 i->i∈plc v:=fun i h=>((hT i).1 h).1.1;unfold KO B_G B_s;constructor
 ·rintro ⟨⟨g3,g4,g5,gd⟩,r5,r4⟩;refine ⟨gd,fun h3=>⟨(g3 h3).1,(g3 h3).2,hfmt h3⟩,fun h4=>⟨g4 h4,fun hr i y hy hno=>?_⟩,fun h5=>⟨g5 h5,fun hr i hi y hy hno=>?_⟩⟩
  ·have hz:x.restI≠0:=by omega
   exact r4 h4 hz i y ((l4 h4 (.inr hz) i (List.getElem?_eq_some_iff.1 hy).1).2 hno) hy
  ·have hz:x.restP≠0:=by omega
   exact r5 h5 hz i y ((l5 h5 (.inr hz) i hi).2 hno) hy
 ·rintro ⟨gd,g3,g4,g5⟩;refine ⟨⟨fun h3=>⟨(g3 h3).1,(g3 h3).2.1⟩,fun h4=>(g4 h4).1,fun h5=>(g5 h5).1,gd⟩,fun h5 hz i y hTi hy=>?_,fun h4 hz i y hTi hy=>?_⟩
  ·have hi:=C_I (hpl i hTi) h5;exact (g5 h5).2 ((y_g hN.restP).2 hz) i hi y hy ((l5 h5 (.inr hz) i hi).1 hTi)
  ·exact (g4 h4).2 ((y_g hN.restI).2 hz) i y hy ((l4 h4 (.inr hz) i (List.getElem?_eq_some_iff.1 hy).1).1 hTi)
theorem D_q (hN:okN N own x)(hok:okV v){T5:Nat->Prop}(hT:∀ i,T4 i↔T0 x v need i/\¬ refM J x v i/\¬ KM J x v i/\¬ condM J x v i)(hT5:∀ i,T5 i↔T4 i/\¬ (v.k=5/\x.restP≠0)/\¬ (v.k=4/\x.restI≠0)){m:Nat->Prop}
  (h4:v.k=4->∀ i,i<v.xs.length->(m i↔preM J x v i∨arrM 2020 J x v i∨x.restI>0)) (h5:v.k=5->∀ i∈membs v.ns,(m i↔preM J x v i∨objM J x v i∨x.restP>0)):
  (∀ i,T5 i->¬ m i)/\(need=true->∀ i∈plc v,¬ m i->T5 i):=by
 obtain ⟨l4,l5⟩:=B_H hN hok hT;have p4:=y_g hN.restI;have p5:=y_g hN.restP;refine ⟨fun i h=>?_,fun hneed i hi h=>?_⟩
 ·obtain ⟨g1,g2,g3⟩:=(hT5 i).1 h;have hT0:=((hT i).1 g1).1;rcases z_x hT0.1 with hk|hk
  ·have hlt:=D_t hT0.1 hk;have hr:¬ x.restI≠0:=fun e=>g3 ⟨hk,e⟩;have hneed:need=true∨x.restI≠0:=by
    rcases hT0.2 with e|e
    ·omega
    ·exact e.2.2.1
   have:=(l4 hk hneed i hlt).1 g1;rw [h4 hk i hlt,p4];rintro (e|e|e)
   ·exact this (.inl e)
   ·exact this (.inr e)
   ·exact hr e
  ·have hlt:=C_I hT0.1 hk;have hr:¬ x.restP≠0:=fun e=>g2 ⟨hk,e⟩;have hneed:need=true∨x.restP≠0:=by
    rcases hT0.2 with e|e
    ·exact e.2.2
    ·omega
   have:=(l5 hk hneed i hlt).1 g1;rw [h5 hk i hlt,p5];rintro (e|e|e)
   ·exact this (.inl e)
   ·exact this (.inr e)
   ·exact hr e
 ·rw [hT5];rcases z_x hi with hk|hk
  ·have hlt:=D_t hi hk;rw [h4 hk i hlt,p4] at h;exact ⟨(l4 hk (.inl hneed) i hlt).2 fun e=>h (e.elim .inl fun e=>.inr (.inl e)),fun e=>by omega,fun e=>h (.inr (.inr e.2))⟩
  ·have hlt:=C_I hi hk;rw [h5 hk i hlt,p5] at h;exact ⟨(l5 hk (.inl hneed) i hlt).2 fun e=>h (e.elim .inl fun e=>.inr (.inl e)),fun e=>h (.inr (.inr e.2)),fun e=>by omega⟩
end
def VP (R1:Bool × List Bool)(lo:Nat)(d:VdC)(v:JV)(need:Bool)(w:World)(e:Ending)(w':World):Prop:=∃ (q:OA) (o:Option (TypeId × Value)),e=.returned (.tuple #[.pointer q,ifcV o])/\FR2 lo d.g w w'/\
  (o=none↔R1.1=true)/\
  (o=none->q=some (adr d.ub)/\∃ T,UN lo w' d.ub v T/\(∀ i,T i->¬ mkd R1.2 i)/\(need=true->∀ i∈plc v,¬ mkd R1.2 i->T i))/\
  (o≠none->∃ q,o=some (169,.pointer q)/\VErr lo w' q)
theorem VP.err {lo:Nat}{d:VdC}{v:JV}{w w':World}(fr:FR2 lo d.g w w')(hR:R1.1=false)(hq:VErr lo w' q):VP R1 lo d v need w (.returned (.tuple #[.pointer none,ifcV (some (169,.pointer q))])) w':=
 ⟨none,_,rfl,fr,⟨nofun,fun h=>by rw [hR] at h;cases h⟩,nofun,fun _=>⟨q,rfl,hq⟩⟩
theorem A_2 {a:Nat}(ha:a<256)(w:World):CP 125 #[.int .i64 (a:Int)] w fun e w'=>∃ A l c,e=.returned (.slice A l c)/\EF w w':=by
 have ht:Tryz.prog.underlying 24=some (.slice 9):=by kernel_rfl
 have hi:Tryz.prog.info? 9=some Tryz.t9:=by kernel_rfl
 have x0:EF w (w.alloc (.cells #[.int .i64 2,.int .i64 4,.int .i64 8,.int .i64 16,.int .i64 32,.int .i64 64,.int .i64 128] 188)):=(Ext.refl w).alloc _;have h0:=w_3 w (.cells #[.int .i64 2,.int .i64 4,.int .i64 8,.int .i64 16,.int .i64 32,.int .i64 64,.int .i64 128] 188);refine y_t (a:Int) w _ ⟨trivial,fun A l c n w1=>0<=n/\n<=7/\∃ xs,EF w w1/\objAt w1 w.heap.size=some (.cells #[.int .i64 2,.int .i64 4,.int .i64 8,.int .i64 16,.int .i64 32,.int .i64 64,.int .i64 128] 188 (0,0))/\Own w.heap.size w1 9 1 A l c xs/\(xs.length:Int)<=n,fun _ _ _ n _=>(7-n).toNat,⟨by omega,by omega,[],x0,h0,Own.nil ..,by simp⟩,?_⟩;rintro A l c n w1 ⟨n0,n7,xs,hx,ho,hO,hxs⟩;refine ⟨fun hlt K8 hK8=>?_,fun _=>⟨_,_,_,rfl,hx⟩⟩;have hlt:=odt hlt;have k8:∀ A' l' c' w2 ys,EF w w2->objAt w2 w.heap.size=some (.cells #[.int .i64 2,.int .i64 4,.int .i64 8,.int .i64 16,.int .i64 32,.int .i64 64,.int .i64 128] 188 (0,0))->Own w.heap.size w2 9 1 A' l' c' ys->(ys.length:Int)<=n+1->K8 A' l' c' w2:=fun A' l' c' w2 ys g1 g2 g3 g4=>hK8 A' l' c' w2 (by
  rw [f_c (by omega) (by omega)];exact ⟨⟨by omega,by omega,ys,g1,g2,g3,g4⟩,by dsimp only;omega⟩)
 obtain ⟨b,hb,hcell⟩:∃ b:Nat,b<256/\(#[Value.int .i64 2,.int .i64 4,.int .i64 8,.int .i64 16,.int .i64 32,.int .i64 64,.int .i64 128]:Array Value)[n.toNat]? =some (.int .i64 (b:Int)):=by
  have:n=0∨n=1∨n=2∨n=3∨n=4∨n=5∨n=6:=by omega
  rcases this with rfl|rfl|rfl|rfl|rfl|rfl|rfl
  ·exact ⟨2,by omega,rfl⟩
  ·exact ⟨4,by omega,rfl⟩
  ·exact ⟨8,by omega,rfl⟩
  ·exact ⟨16,by omega,rfl⟩
  ·exact ⟨32,by omega,rfl⟩
  ·exact ⟨64,by omega,rfl⟩
  ·exact ⟨128,by omega,rfl⟩
 refine ⟨_,rfl,⟨n0,hlt⟩,(b:Int),by rw [Nat.mul_one];exact cat ho hcell,(y_Q ha hb w1).mono ?_⟩;rintro _ w2 ⟨z,rfl,rfl,-⟩;refine ⟨z,rfl,trivial,fun _=>(z_Z (b:Int) w2).mono ?_,fun _=>k8 _ _ _ _ xs hx ho hO (by omega)⟩;rintro _ w3 ⟨t,rfl,rfl⟩;have x1:EF w3 (w3.alloc (.cells #[.string t] 9)):=(Ext.refl _).alloc _;have hl:=hO.len.1;have hO1:=hO.keep x1 fun _ _=>id;obtain ⟨A',C',w4,r,hO4,x4,-⟩:=x_t (t:=24) (T:=9) ht hi (z:=.string ⟨#[]⟩) (by kernel_rfl) (by kernel_rfl) (by
   have:Tryz.t9.bytes=16:=by kernel_rfl
   omega) rfl hO1 (by have:=hx.size;simp;omega) (p:=adr w3.heap.size) (u:=.string t) (cat0 (w_3 _ _) rfl) rfl (by omega) 24 #[false,false]
 have hT:=hO1.isT;refine ⟨t,rfl,trivial,trivial,A',l+1,C',w4,r,trivial,k8 _ _ _ _ (xs++[.string t]) ((hx.then x1).trans x4 fun b hb hbl=>?_) (x4.old _ _ (fun e=>?_) (x1.old _ _ id ho)) hO4 (by simp;omega)⟩
 ·have:=(hT b hbl).1;omega
 ·obtain ⟨-, cs,fr,h2⟩:=hT _ e;rw [x1.old _ _ id ho] at h2;cases h2
theorem B_U {v:JV}(hok:okJ v){w:World}{B tb cb:Nat}{ts:List BA}(hra:RA w B v o)(hts:ts.length<=16777216){T:TypeId}{fr:Nat × Nat}(hcb:objAt w cb=some (.cells #[.pointer (some (adr tb))] T fr))(htk:RTak w B tb ts):
  CP 114 #[ifcV o,.pointer (some (adr cb))] w fun e w'=>∃ o',e=.returned (ifcV o')/\EF w w'/\((!o'.isNone)=false↔(v.k=3->among v.t ts=true)):=by
 refine y_V o (adr cb) w _ fun K3 hK3=>?_;have no:∀ s,v.k≠3->K3 s false w:=fun s hk=>hK3 s false w fun K7 hK7=>⟨nofun,fun _=>hK7 false w ⟨nofun,fun _=>⟨none,rfl,Ext.refl w,fun _ h=>absurd h hk,fun _=>rfl⟩⟩⟩;rcases hra.cases hok with ⟨hk,rfl⟩|⟨hk,rfl⟩|⟨hk,rfl⟩|⟨hk,a,l,c,rfl,hA⟩|⟨hk,b,S,rfl,hO⟩
 ·exact ⟨nofun,fun _=>no _ (by omega)⟩
 ·exact ⟨nofun,fun _=>no _ (by omega)⟩
 ·refine ⟨fun u hu=>⟨v.t,(by cases hu;rfl),hK3 _ _ _ fun K7 hK7=>⟨fun _=>⟨_,cat0 hcb rfl,(B_a htk hts v.t).mono ?_⟩,nofun⟩⟩,fun h=>absurd rfl (h _)⟩;rintro _ w1 ⟨rfl,rfl⟩;refine ⟨_,rfl,trivial,hK7 _ _ ⟨fun hb=>?_,fun hb=>⟨none,rfl,Ext.refl _,fun _ _=>by simpa using hb,fun _=>rfl⟩⟩⟩;refine A_R _ w1 _ ⟨trivial,trivial,_,rfl,trivial,_,rfl,(Ext.refl _).alloc _,nofun,fun h=>?_⟩;rw [h hk] at hb;cases hb
 ·exact ⟨nofun,fun _=>no _ (by omega)⟩
 ·exact ⟨nofun,fun _=>no _ (by omega)⟩
section
variable {s:List JN} {av:Nat->Nat} {B f lo:Nat} {vb:Nat} {d:VdC} {n:Nat} {vid:Int} {k:Nat} {v:JV} {w:World} {E:Bool} {cnt:Nat} {T:Nat->Prop}
theorem VSt.error (st:VSt s av B lo vb d n vid k v w E cnt T){kd:Option (TypeId × Value)}(hk:GrpOK kd):CP 118 #[.pointer (some (adr vb)),ifcV kd] w fun e w'=>∃ (b:Nat) (s:BA) (a:OA) (l c:Nat) (o:Option (TypeId × Value)),e=.returned (.pointer (some (adr b)))/\w.heap.size<=b/\EF w w'/\GrpOK o/\
  objAt w' b=some (.cells #[.string s,.slice a l c,ifcV o,.slice none 0 0] 175 (0,0)):=by
 obtain ⟨a,l,c,hv⟩:=st.blk;refine (A_4 hv st.ctx.pl kd).mono ?_;rintro _ w' ⟨b,t,a,l,c,o,rfl,hb,hx,ho,h2⟩;refine ⟨b,t,a,l,c,o,rfl,hb,hx,?_,ho⟩;rcases h2 with rfl|rfl
 ·exact GrpOK.none
 ·exact hk
theorem VSt.bad {w0:World}(st:VSt s av B lo vb d n vid k v w E cnt T)(fr:FR2 lo d.g w0 w)(hR:R1.1=false){kd:Option (TypeId × Value)}(hk:GrpOK kd):CP 118 #[.pointer (some (adr vb)),ifcV kd] w fun e w'=>∃ q:OA,e=.returned (.pointer q)/\True/\VP R1 lo d v need w0 (.returned (.tuple #[.pointer none,ifcV (some (169,.pointer q))])) w':=by
 refine (st.error hk).mono ?_;rintro _ w' ⟨b,t,a,l,c,o,rfl,hb,hx,ho,h2⟩;exact ⟨_,rfl,trivial,VP.err (fr.trans (FR2.of hx)) hR ⟨b,t,a,l,c,o,none,0,0,rfl,lt_ st.hlo hb,ho,h2⟩⟩
theorem VSt.ref (hS:okS s)(IH:CV s av B f)(st:VSt s av B lo vb d n vid k v w E cnt T)(hM:MJ s.length v n<=f)(hok:okV v)(hl:d.l+szJ v<=1100000){m:Int}(hm:later s.length n m)(h0:m≠0)(kw:BA):
  CP 127 #[.pointer (some (adr vb)),.pointer (some (adr (av m.toNat))),.string kw] w fun e w'=>∃ o,e=.returned (ifcV o)/\∃ T',VSt s av B lo vb d n vid k v w' E cnt T'/\(∀ i,T' i↔T i/\¬ mkd (w_2 2020 s f m v).2 i)/\FR2 lo d.g w w'/\o.isNone=(w_2 2020 s f m v).1/\(o≠none->∃ q,o=some (169,.pointer q)/\VErr lo w' q):=by
 refine x_Q (some (adr vb)) (some (adr (av m.toNat))) kw w _ ((st.self hS IH hM hok hl hm h0 kw false).mono ?_);rintro _ w5 ⟨o6,rfl,hL,hJ,hE⟩;have st5:=LS.st st hL;have fr5:=hL.fr2;have hsz:=fr5.x.size;refine ⟨o6,rfl,trivial,fun hne=>?_,fun hno=>?_⟩
 ·have hone:o6≠none:=fun e=>by rw [e] at hne;cases hne
  obtain ⟨q13,rfl,hve⟩:=hE hone;obtain ⟨x',g1,g2,g3,g4⟩:=z_w hS hm h0;obtain ⟨cs,hcs,hsc⟩:=st5.ctx.sch.ok (m.toNat-1) x' g3;rw [Nat.sub_add_cancel g2] at hcs;obtain ⟨t,ht⟩:=hsc.f4;have x9:EF w5 (w5.alloc (.cells #[.string kw,.string t] 271)):=(Ext.refl _).alloc _;have st9:=st5.ext0 x9;refine ⟨_,rfl,t,cat hcs ht,trivial,trivial,(st9.error GrpOK.ptr).mono ?_⟩;rintro _ w11 ⟨b,t2,a1,l1,c1,o1,rfl,hb,x11,hg1,ho1⟩;have z11:=x9.then x11;have hve11:=hve.ext z11 fun _ _ _ _ _=>id;obtain ⟨b2,t3,a2,l2,c2,o2,a3,l3,c3,rfl,hb2,hg2,ho2⟩:=hve11;refine ⟨_,rfl,trivial,_,rfl,fun K14 hK14 K16 hK16=>?_⟩;have hbn:w5.heap.size<b:=by
   have:(w5.alloc (.cells #[.string kw,.string t] 271)).heap.size=w5.heap.size+1:=Array.size_push _;omega
  have k14:∀ (w12:World) (A:OA) (L C:Nat),EF w11 w12->K14 (w12.setCell ((adr b).add 3) (.slice A L C)):=fun w12 A L C x12=>by
   have z12:=z11.then x12;have xs:=w_1 (w:=w12) (b:=b) (i:=3) (.slice A L C);have z:=z12.trans xs (X:=fun _=>False) fun k hk e=>by omega
   refine hK14 _ ⟨_,rfl,_,st5.ext0 z,fun i=>Iff.rfl,fr5.trans (FR2.of z),hJ,fun _=>⟨_,rfl,b,t2,a1,l1,c1,o1,A,L,C,rfl,by have:=st.hlo;omega,hg1,?_⟩⟩;exact w_4 (x12.old _ _ id ho1) (i:=3) _
  have k16:∀ z,K16 z w11:=fun z=>hK16 z w11 ⟨fun _=>⟨_,rfl,_,_,_,cat ho2 rfl,_,rfl,⟨_,_,ho1,rfl,by rw [Addr.add_lit];simp,rfl⟩,trivial,k14 _ _ _ _ (Ext.refl _)⟩,fun _=>⟨_,rfl,_,_,_,cat ho1 rfl,trivial,?_⟩⟩
  ·refine ⟨_,rfl,o2,cat ho2 rfl,fun u hu=>?_,fun _=>k16 false⟩;obtain ⟨q,rfl⟩:=hg2 u hu;exact ⟨q,rfl,k16 true⟩
  ·have ht':Tryz.prog.underlying 164=some (.slice 169):=by kernel_rfl
   have hi:Tryz.prog.info? 169=some Tryz.t169:=by kernel_rfl
   have x1:EF w11 (w11.alloc (.cells #[.pointer (some (adr b2))] 169)):=(Ext.refl w11).alloc _;obtain ⟨A,C,w',r,hO,xA,hA⟩:=x_t (t:=164) (T:=169) ht' hi (z:=.pointer none) (by kernel_rfl) (by kernel_rfl) (by
    have:Tryz.t169.bytes=8:=by kernel_rfl
    omega) rfl (Own.nil w11.heap.size (w11.alloc (.cells #[.pointer (some (adr b2))] 169)) 169 1) x1.size (p:=adr w11.heap.size) (u:=.pointer (some (adr b2))) (cat0 (w_3 _ _) rfl) rfl (by omega) 164 #[false,false]
   have xx:EF w11 w':=x1.trans xA fun k hk e=>by
    obtain ⟨p,hp,-⟩:=e;cases hp
   exact ⟨A,_,C,w',r,trivial,_,rfl,⟨_,_,xx.old _ _ id ho1,rfl,by rw [Addr.add_lit];simp,rfl⟩,trivial,k14 _ _ _ _ xx⟩
 ·have hone:o6=none:=by simpa using hno
  subst hone;exact ⟨none,rfl,_,st5,fun i=>Iff.rfl,fr5,hJ,fun h=>absurd rfl h⟩
theorem VSt.out {w0:World}(st:VSt s av B lo vb d n vid k v w E cnt T)(fr:FR2 lo d.g w0 w)(hR:E=true↔R1.1=true)(hT:E=true->(∀ i,T i->¬ mkd R1.2 i)/\(need=true->∀ i∈plc v,¬ mkd R1.2 i->T i)):
  ∃ p,some (adr vb)=some p/\∃ (a:OA) (l c:Nat),w.cell? (p.add 5)=some (.slice a l c)/\((((l:Int)==(0:Int))=true->
   ∃ p1,some (adr vb)=some p1/\∃ q:OA,w.cell? (p1.add 4)=some (.pointer q)/\VP R1 lo d v need w0 (.returned (.tuple #[.pointer q,.nilIface])) w)/\
  (((l:Int)==(0:Int))=false->((((l:Int)==(1:Int))=true->
   ∀ wv63,wv63=w.drew->∃ p64,some (adr vb)=some p64/\∃ (a65:OA) (a65l a65c:Nat),wv63.cell? (p64.add 5)=some (.slice a65 a65l a65c)/\∃ p66,a65=some p66/\(0<=(0:Int)/\(0:Int)<(a65l:Int))/\∃ q67:OA,wv63.cell? (p66.add ((0:Int).toNat*1))=some (.pointer q67)/\((wv63.cell? (p66.add ((0:Int).toNat*1))=wv63.cell? (p66.add ((0:Int).toNat*1)))/\(wv63.cell? (p64.add 5)=wv63.cell? (p64.add 5))/\True)/\True/\VP R1 lo d v need w0 (.returned (.tuple #[.pointer none,ifcV (some (169,.pointer q67))])) wv63)/\
  (((l:Int)==(1:Int))=false->
   True/\True/\(let wv68:=w.alloc (.cells #[] 235);
   CP 118 #[.pointer (some (adr vb)),ifcV (some (170,.pointer (some (adr w.heap.size))))] wv68 (fun e69 wv70=>∃ q71:OA,e69=.returned (.pointer q71)/\True/\∃ p72,some (adr vb)=some p72/\∃ (a73:OA) (a73l a73c:Nat),wv70.cell? (p72.add 5)=some (.slice a73 a73l a73c)/\∃ p74,q71=some p74/\(∃ (cs:Array Value) (T:TypeId),objAt wv70 ((p74.add 3)).block=some (.cells cs T (0,0))/\((p74.add 3)).spot=none/\((p74.add 3)).off+1<=cs.size/\false=false)/\True/\(let wv75:=(wv70.setCell (p74.add 3) (.slice a73 a73l a73c));
   VP R1 lo d v need w0 (.returned (.tuple #[.pointer none,ifcV (some (169,.pointer q71))])) wv75))))))):=by
 obtain ⟨a,l,c,ps,hv,hO,hps,hE,hcnt⟩:=st.vd;have hl:l=ps.length:=hO.l1;have bad:l≠0->R1.1=false:=fun h=>by
  cases hr:R1.1 with
  | false=>rfl
  | true=>
   have:=hE.1 (hR.2 hr);rw [this] at hl;exact absurd hl h
 refine ⟨_,rfl,a,l,c,cat hv rfl,fun h0=>?_,fun h0=>⟨fun h1=>?_,fun h1=>?_⟩⟩
 ·have h0:l=0:=by simpa using h0
  have hEt:E=true:=hE.2 (List.eq_nil_of_length_eq_zero (by omega));refine ⟨_,rfl,_,cat hv rfl,_,none,rfl,fr,⟨fun _=>hR.1 hEt,fun _=>rfl⟩,fun _=>⟨rfl,T,st.un,(hT hEt).1,(hT hEt).2⟩,fun h=>absurd rfl h⟩
 ·have h1:l=1:=by
   have:=odt h1;omega
  rintro w63 rfl;have x63:EF w w.drew:=(Ext.refl w).drew;obtain ⟨q,hq⟩:∃ q,ps[0]? =some q:=⟨_,List.getElem?_eq_getElem (by omega)⟩;obtain ⟨p,hp,hat⟩:=(hO.keep x63 fun _ _=>id).at (j:=0) (u:=.pointer q) (by rw [List.getElem?_map,hq];rfl);refine ⟨_,rfl,a,l,c,cat (x63.old _ _ id hv) rfl,p,hp,⟨by omega,by omega⟩,q,hat.cell,⟨rfl,rfl,trivial⟩,trivial,VP.err (fr.trans (FR2.of x63)) (bad (by omega)) ((hps q (mg_ hq)).ext x63 fun _ _ _ _ _=>id)⟩
 ·have h0:l≠0:=by simpa using h0
  refine ⟨trivial,trivial,?_⟩;have x68:EF w (w.alloc (.cells #[] 235)):=(Ext.refl _).alloc _;refine ((st.ext0 x68).error GrpOK.ptr).mono ?_;rintro _ w70 ⟨b,t,a1,l1,c1,o1,rfl,hb,x70,hg,ho⟩;have z70:=x68.then x70;have hbw:w.heap.size<b:=by
   have:(w.alloc (.cells #[] 235)).heap.size=w.heap.size+1:=Array.size_push _;omega
  refine ⟨_,rfl,trivial,_,rfl,a,l,c,cat (z70.old _ _ id hv) rfl,_,rfl,⟨_,_,ho,rfl,by rw [Addr.add_lit];simp,rfl⟩,trivial,?_⟩;have z:=z70.trans (w_1 (w:=w70) (b:=b) (i:=3) (.slice a l c)) (X:=fun _=>False) fun k hk e=>by omega
  exact VP.err (fr.trans (FR2.of z)) (bad h0) ⟨b,t,a1,l1,c1,o1,a,l,c,rfl,by have:=st.hlo;omega,hg,w_4 ho (i:=3) _⟩
end
def okU (s:List JN):Prop:=∀ (i:Nat) x,s[i]? =some x->(∀ t∈x.types,bitK t≠0)/\x.enm.length<=1100000
def cstOK (x:JN)(v:JV):Prop:=∀ c l,x.cst=c::l->eqJ v c=true
theorem A_a (l:List BA):bitsK l<256:=A_m A_0 l 0 (by omega)
theorem z_f (v:JV):bitV v<256:=A_0 _
theorem C_g {l:List BA}(h:∀ t∈l,bitK t≠0)(hn:l≠[]):bitsK l≠0:=by
 obtain ⟨t,l',rfl⟩:=List.exists_cons_of_ne_nil hn;have ht:=h t (List.mem_cons_self ..);intro h0;have:=(z_b (g:=bitK) (m:=bitK t) (t::l') 0).2 (.inr ⟨t,List.mem_cons_self ..,by rw [Nat.and_self];exact ht⟩);rw [show (t::l').foldl (fun n x=>n ||| bitK x) 0=bitsK (t::l') from rfl,h0] at this;simp at this
theorem D_j {a b:JV}(h:eqJ a b=true):a.k=b.k:=by
 unfold eqJ at h;cases hf:szJ a+szJ b with
 | zero=>rw [hf] at h;cases h
 | succ m=>
  rw [hf,eqF,Bool.and_eq_true] at h;simpa using h.1
section
variable {s:List JN} {av:Nat->Nat} {B f:Nat}
theorem B_Z (hS:okS s)(hT:okU s)(IH:CV s av B f):CV s av B (f+1):=by
 intro n x v w lo vb d need vid k hM1 h1 hx hok hl hBlo hlo hsch hra hsb hv hvb hpl hscp hun hub hBg;have hM:MJ s.length v n<=f:=by omega
 have hN:=hS (n-1) x hx;rw [Nat.sub_add_cancel h1] at hN;obtain ⟨hty,hel⟩:=hT (n-1) x hx;have hxi:s[((n:Int)-1).toNat]? =some x:=by rw [show ((n:Int)-1).toNat=n-1 by omega];exact hx
 have vd0:VD lo w vb d true 0:=⟨none,0,0,[],hv,Own.nil ..,nofun,by simp,by simp⟩;have st0:VSt s av B lo vb d n vid k v w true 0 (T0 (eff x) v need):=⟨⟨hsch,by omega,hpl,hscp,hsb,hBg,by omega⟩,vd0,hun,hra,hBlo,hlo,hub,hvb⟩;generalize hR:w_2 2020 s (f+1) (n:Int) v=R1;have post:∀ e w',VP R1 lo d v need w e w'->∃ (q:OA) (o:Option (TypeId × Value)),e=.returned (.tuple #[.pointer q,ifcV o])/\Ext (fun k=>lo<=k∨k=d.g) w w'/\(∀ c,SB w d.g c->SB w' d.g c)/\
   (o=none↔R1.1=true)/\(o=none->q=some (adr d.ub)/\∃ T,UN lo w' d.ub v T/\(∀ i,T i->¬ mkd R1.2 i)/\(need=true->∀ i∈plc v,¬ mkd R1.2 i->T i))/\
   (o≠none->∃ q,o=some (169,.pointer q)/\VErr lo w' q):=fun e w' ⟨q,o,h1,h2,h3,h4,h5⟩=>⟨q,o,h1,h2.x,h2.s,h3,h4,h5⟩
 suffices h:CP 101 #[.pointer (some (adr vb))] w (VP R1 lo d v need w) from h.mono post
 clear post;obtain ⟨cs,hcs,hsc⟩:=st0.sc h1 hx;by_cases hk:x.kind≠0
 ·
  obtain ⟨b,T,fr,h5,hb,hbo⟩:=hsc.bool hk;have hR1:R1=(decide (x.kind=1),v.xs.map fun _=>false):=by
   rw [<- hR,w_2,hxi];dsimp only;rw [if_pos hk]
  refine x_m (some (adr vb)) w _ ⟨_,rfl,_,cat hv rfl,_,rfl,d.o,cat0 hv rfl,_,rfl,_,cat hcs h5,fun _=>⟨_,rfl,_,cat hcs h5,_,rfl,_,cat0 hbo rfl,fun ht=>?_,fun hf=>?_⟩,nofun⟩
  ·refine ⟨_,rfl,_,cat hv rfl,_,none,rfl,FR2.refl ..,⟨fun _=>by rw [hR1];exact ht,fun _=>rfl⟩,fun _=>⟨rfl,_,hun,fun i _=>by rw [hR1];exact x_H,fun hn i hi _=>?_⟩,fun h=>absurd rfl h⟩;refine ⟨hi,?_⟩;unfold eff;rw [if_neg hk];rcases z_x hi with h|h
   ·exact .inr ⟨h,rfl,.inl hn,Nat.zero_le _⟩
   ·exact .inl ⟨h,rfl,.inl hn⟩
  ·exact ⟨trivial,trivial,(st0.ext0 ((Ext.refl w).alloc _)).bad (FR2.of ((Ext.refl w).alloc _)) (by rw [hR1];exact hf) GrpOK.ptr⟩
 have hk:x.kind=0:=by omega
 have hw:=hsc.words hk;have hok5:v.k=5->v.ns.length=v.xs.length:=hok.len5;have jok:=D_n (d:=2020) (f:=f) (v:=v) hxi hk hN.dep hok5;have jmk:=D_m (d:=2020) (f:=f) (v:=v) hxi hk hN.dep hok5;rw [hR] at jok jmk;rw [z_1 hk] at st0 hun;generalize hJ:w_2 2020 s f=J at jok jmk;have out:∀ (w1:World) (E1:Bool) (c1:Nat) (T1:Nat->Prop),VSt s av B lo vb d n vid k v w1 E1 c1 T1->FR2 lo d.g w w1->(E1=true↔R1.1=true)->(E1=true->(∀ i,T1 i->¬ mkd R1.2 i)/\(need=true->∀ i∈plc v,¬ mkd R1.2 i->T1 i))->_:=fun w1 E1 c1 T1 g1 g2 g3 g4=>g1.out g2 (need:=need) g3 g4;refine x_m (some (adr vb)) w _ ⟨_,rfl,_,cat hv rfl,_,rfl,d.o,cat0 hv rfl,_,rfl,_,cat hcs hw.f5,nofun,fun _=>⟨_,rfl,_,cat hv rfl,(A_E hsch.as_ hscp).mono ?_⟩⟩;rintro _ w21 ⟨rfl,x21⟩;refine ⟨_,rfl,trivial,nofun,fun _=>?_⟩;have st21:=st0.ext0 x21;refine (A_h hok.ok st21.ra).mono ?_;rintro _ w39 ⟨rfl,hw39⟩;obtain rfl:=hw39.symm;clear hw39;refine ⟨_,rfl,trivial,fun h0=>?_,fun _=>?_⟩
 ·have:=y_E hok.ok;simp at h0;exact absurd h0 this
 have fr21:FR2 lo d.g w w21:=FR2.of x21;intro K45 hK45 K212 hK212;have k45:∀ w46,VSt s av B lo vb d n vid k v w46 true 0 (T0 x v need)->FR2 lo d.g w w46->(x.types.isEmpty||among (kindN v.k) x.types)=true->K45 w46:=by
  intro w46 st46 fr46 hty46;refine hK45 w46 fun K47 hK47=>?_;have k47:∀ w48,VSt s av B lo vb d n vid k v w48 true 0 (T0 x v need)->FR2 lo d.g w w48->cstOK x v->K47 w48:=by
   intro w48 st48 fr48 hcst;refine hK47 w48 fun K49 hK49=>?_;have k49:∀ w50,VSt s av B lo vb d n vid k v w50 true 0 (T0 x v need)->FR2 lo d.g w w50->(!x.hasEnum||x.enm.any (eqJ v))=true->K49 w50:=by
    intro w50 st50 fr50 henm;have hvals:x_j x v=true:=by
     unfold x_j;rw [hty46,henm];cases hc:x.cst with
     | nil=>rfl
     | cons c l=>
      show (true&&true&&eqJ v c)=true;rw [hcst c l hc];rfl
    refine hK49 w50 fun K51 hK51=>?_;have k51:∀ w52,VSt s av B lo vb d n vid k v w52 true 0 (T0 x v need)->FR2 lo d.g w w52->(v.k=3->tkn v.t x.fmt=true)->K51 w52:=by
     intro w52 st52 fr52 hfmt;refine hK51 w52 fun K53 hK53=>?_;have k53:∀ w54 E54 c54 T54,c54<=1->VSt s av B lo vb d n vid k v w54 E54 c54 T54->FR2 lo d.g w w54->(E54=true↔refOK J x v=true)->(E54=true->∀ i,T54 i↔T0 x v need i/\¬ refM J x v i)->K53 w54:=by
      intro w54 E54 c54 T54 hc54 st54 fr54 hE54 hT54;refine hK53 w54 fun K55 hK55=>?_;have k55:∀ w56 E56 c56 T56,c56<=5000000000000->VSt s av B lo vb d n vid k v w56 E56 c56 T56->FR2 lo d.g w w56->(E56=true↔E54=true/\KO J x v)->(E56=true->∀ i,T56 i↔T54 i/\¬ KM J x v i)->K55 w56:=by
       intro w56 E56 c56 T56 hc56 st56 fr56 hE56 hT56;refine hK55 w56 fun K57 hK57 K76 hK76=>?_;obtain ⟨a5,l5,c5,ps,hv56,hO,hps,hE,hcnt⟩:=id st56.vd;have hl5:l5=ps.length:=hO.l1;have hko:R1.1=true->E56=true:=fun h=>by
        obtain ⟨-, g1,g2,g3,g4⟩:=jok.1 h;exact hE56.2 ⟨hE54.2 g1,fun h3=>⟨(g4.1 h3).1,(g4.1 h3).2.1⟩,fun h4=>(g4.2.1 h4).1,fun h5=>(g4.2.2 h5).1,g3⟩
       have k76:∀ b,(b=false->E56=false)->K76 b w56:=fun b hb=>hK76 b w56 ⟨fun _=>?_,fun hf=>hK57 w56 (out w56 E56 c56 T56 st56 fr56 ⟨fun h=>(by rw [hb hf] at h;cases h),hko⟩ fun h=>(by rw [hb hf] at h;cases h))⟩
       ·refine ⟨_,rfl,a5,l5,c5,cat hv56 rfl,fun h0=>⟨_,rfl,_,cat hv56 rfl,k76 _ fun _=>?_⟩,fun _=>k76 true nofun⟩;have h0:l5≠0:=by simpa using h0
        cases hh:E56 with
        | false=>rfl
        | true=>
         rw [hE.1 hh] at hl5;exact absurd hl5 h0
       ·have cc:=E_p hS IH st56 h1 hx hk hM hok hl (by omega);rw [hJ] at cc;refine cc.mono ?_;rintro _ w80 ⟨rfl,T80,st80,hT80,fr80⟩;obtain ⟨cs80,hcs80,hsc80⟩:=st80.sc h1 hx;refine ⟨rfl,trivial,_,rfl,_,cat hcs80 hsc80.f3,fun _=>?_,nofun⟩;have cu:=D_i hS IH st80 h1 hx hk hM hok hl (by omega);rw [hJ] at cu;refine cu.mono ?_;rintro _ w84 ⟨rfl,E84,T84,st84,hE84,hT84,fr84⟩;have key:(E56&&y_w J x v)=true->∀ i,T80 i↔T0 x v need i/\¬ refM J x v i/\¬ KM J x v i/\¬ condM J x v i:=fun h i=>by
         have e56:=((Bool.and_eq_true ..).mp h).1;have e54:=(hE56.1 e56).1;rw [hT80 h i,hT56 e56 i,hT54 e54 i];simp only [and_assoc]
        have hiff:E84=true↔R1.1=true:=by
         rw [hE84,jok];constructor
         ·rintro ⟨h,hr⟩;obtain ⟨e56,hc⟩:=(Bool.and_eq_true ..).mp h;obtain ⟨e54,hko⟩:=hE56.1 e56;obtain ⟨g1,g2⟩:=(C_X hN hok (key h) hfmt).1 ⟨hko,hr⟩;exact ⟨hvals,hE54.1 e54,hc,g1,g2⟩
         ·rintro ⟨g0,g1,g2,g3,g4⟩;have e56:=hko (jok.2 ⟨g0,g1,g2,g3,g4⟩);have h:(E56&&y_w J x v)=true:=by rw [e56,g2];rfl
          exact ⟨h,((C_X hN hok (key h) hfmt).2 ⟨g3,g4⟩).2⟩
        refine ⟨rfl,trivial,hK57 w84 (out w84 E84 _ T84 st84 ((fr56.trans fr80).trans fr84) hiff fun h=>?_)⟩;obtain ⟨m4,m5⟩:=jmk (hiff.1 h);exact D_q hN hok (key (hE84.1 h).1) hT84 m4 m5
      have nope:v.k≠3->v.k≠4->v.k≠5->K55 w54:=fun n3 n4 n5=>k55 w54 E54 c54 T54 (by omega) st54 fr54 ⟨fun h=>⟨h,fun e=>absurd e n3,fun e=>absurd e n4,fun e=>absurd e n5,by rw [x_0 n5];nofun⟩,fun h=>h.1⟩ fun _ i=>⟨fun h=>⟨h,by
       rintro (⟨e,-⟩|⟨e,-⟩|⟨m,hm,-⟩)
       ·exact n4 e
       ·exact n5 e
       ·rw [x_0 n5] at hm;cases hm⟩,fun h=>h.1⟩
      rcases st54.ra.cases hok.ok with ⟨hk',ho⟩|⟨hk',ho⟩|⟨hk',ho⟩|⟨hk',a,l,c,ho,hA⟩|⟨hk',b,S,ho,hO⟩
      ·rw [ho];intro K89 hK89;exact ⟨nofun,fun _=>hK89 false none w54 ⟨nofun,fun _ K95 hK95=>⟨nofun,fun _=>hK95 _ _ _ _ _ ⟨nofun,fun _ K101 hK101=>⟨nofun,fun _=>hK101 _ _ _ ⟨nofun,fun _=>nope (by omega) (by omega) (by omega)⟩⟩⟩⟩⟩⟩
      ·rw [ho];intro K89 hK89;exact ⟨nofun,fun _=>hK89 false none w54 ⟨nofun,fun _ K95 hK95=>⟨nofun,fun _=>hK95 _ _ _ _ _ ⟨nofun,fun _ K101 hK101=>⟨nofun,fun _=>hK101 _ _ _ ⟨nofun,fun _=>nope (by omega) (by omega) (by omega)⟩⟩⟩⟩⟩⟩
      ·rw [ho];intro K89 hK89;refine ⟨nofun,fun _=>hK89 false none w54 ⟨nofun,fun _ K95 hK95=>⟨nofun,fun _=>hK95 _ _ _ _ _ ⟨nofun,fun _ K101 hK101=>⟨fun u hu=>⟨v.t,(by cases hu;rfl),hK101 _ _ _ ⟨fun _=>(E_H st54 hN h1 hx hk hok.u8 (by omega)).mono ?_,nofun⟩⟩,fun h=>absurd rfl (h _)⟩⟩⟩⟩⟩;rintro _ w106 ⟨rfl,E',st',hE',fr'⟩;have n5:v.k≠5:=by omega
       refine ⟨rfl,trivial,k55 w106 E' _ T54 (by omega) st' (fr54.trans fr') (hE'.trans ⟨fun h=>⟨h.1,fun _=>h.2,fun e=>by omega,fun e=>by omega,by rw [x_0 n5];nofun⟩,fun h=>⟨h.1,h.2.1 hk'⟩⟩) fun _ i=>⟨fun h=>⟨h,?_⟩,fun h=>h.1⟩⟩;rintro (⟨e,-⟩|⟨e,-⟩|⟨m,hm,-⟩)
       ·omega
       ·omega
       ·rw [x_0 n5] at hm;cases hm
      ·rw [ho];intro K89 hK89;have ca:=E_E hS IH st54 h1 hx hk hM hok hl (by omega) hk' hA;rw [hJ] at ca;refine ⟨nofun,fun _=>hK89 false none w54 ⟨nofun,fun _ K95 hK95=>⟨fun u hu=>⟨a,l,c,(by cases hu;rfl),hK95 _ _ _ _ _ ⟨fun _=>ca.mono ?_,nofun⟩⟩,fun h=>absurd rfl (h _)⟩⟩⟩;rintro _ w100 ⟨rfl,E',T',st',hE',hT',fr'⟩;have n5:v.k≠5:=by omega
       refine ⟨rfl,trivial,k55 w100 E' _ T' (by omega) st' (fr54.trans fr') (hE'.trans ⟨fun h=>⟨h.1,fun e=>by omega,fun _=>h.2,fun e=>by omega,by rw [x_0 n5];nofun⟩,fun h=>⟨h.1,h.2.2.1 hk'⟩⟩) fun _ i=>(hT' i).trans (and_congr_right fun _=>not_congr ⟨fun h=>.inl ⟨hk',h⟩,?_⟩)⟩;rintro (⟨-, e⟩|⟨e,-⟩|⟨m,hm,-⟩)
       ·exact e
       ·omega
       ·rw [x_0 n5] at hm;cases hm
      ·rw [ho];intro K89 hK89;have co:=E_F hS IH st54 h1 hx hk hM hok hl (by omega) hk' hO;rw [hJ] at co;refine ⟨fun u hu=>⟨some b,(by cases hu;rfl),hK89 _ _ _ ⟨fun _=>co.mono ?_,nofun⟩⟩,fun h=>absurd rfl (h _)⟩;rintro _ w94 ⟨rfl,E',T',st',hE',hT',fr'⟩;refine ⟨rfl,trivial,k55 w94 E' _ T' (by omega) st' (fr54.trans fr') (hE'.trans ⟨fun h=>⟨h.1,fun e=>by omega,fun e=>by omega,fun _=>h.2.1,h.2.2⟩,fun h=>⟨h.1,h.2.2.2.1 hk',h.2.2.2.2⟩⟩) fun he i=>(hT' he i).trans ?_⟩;unfold KM;simp only [hk',(show ¬ (5:Int)=4 by decide),false_and,false_or,true_and,not_or]
     obtain ⟨cs52,hcs52,hsc52⟩:=st52.sc h1 hx;have hw52:=hsc52.words hk;have hrl:=hN.ref;have hrp:=y_g hrl;have e7:w52.cell? ((adr d.sb).add 7)=some (.pointer (ptr av x.ref)):=cat hcs52 hw52.ref;by_cases hr:x.ref=0
     ·refine ⟨_,rfl,_,e7,fun h=>?_,fun _=>k53 w52 true 0 _ (by omega) st52 fr52 ⟨fun _=>?_,fun _=>rfl⟩ fun _ i=>⟨fun h=>⟨h,fun h'=>?_⟩,fun h=>h.1⟩⟩
      ·rw [w_5,decide_eq_true hr] at h;cases h
      ·unfold refOK;rw [decide_eq_true (by omega),Bool.true_or]
      ·exact absurd hr (hrp.1 h'.1)
     ·have e7':=e7;rw [y_j hr] at e7';refine ⟨_,rfl,_,e7,fun _=>⟨_,rfl,_,e7',?_⟩,fun h=>?_⟩
      ·have cr:=st52.ref hS IH hM hok hl hrl hr ⟨#[36,114,101,102]⟩;rw [hJ] at cr;refine cr.mono ?_;rintro _ w121 ⟨o,rfl,T',st',hT',fr',hone,herr⟩;obtain ⟨cs121,hcs121,hsc121⟩:=st'.sc h1 hx;have hrefOK:refOK J x v=(J x.ref v).1:=by
        unfold refOK;rw [decide_eq_false (by have:=hrp.2 hr;omega),Bool.false_or]
       have hTm:∀ i,T' i↔T0 x v need i/\¬ refM J x v i:=fun i=>(hT' i).trans (and_congr_right fun _=>not_congr ⟨fun h=>⟨hrp.2 hr,h⟩,fun h=>h.2⟩);refine ⟨o,rfl,trivial,_,rfl,_,cat hcs121 hsc121.f3,nofun,fun _=>⟨fun _=>?_,fun hno=>?_⟩⟩
       ·refine (st'.addErr (by omega) herr).mono ?_;rintro _ w128 ⟨rfl,st2,fr2,-⟩;refine ⟨rfl,trivial,k53 w128 _ _ _ (by omega) st2 ((fr52.trans fr').trans fr2) ?_ fun _=>hTm⟩;rw [hrefOK,<- hone,Bool.true_and]
       ·have hno:o.isNone=true:=by simpa using hno
        refine k53 w121 _ _ _ (by omega) st' (fr52.trans fr') ?_ fun _=>hTm;rw [hrefOK,<- hone,hno]
      ·rw [w_5,decide_eq_false hr] at h;cases h
    obtain ⟨cs50,hcs50,hsc50⟩:=st50.sc h1 hx;have hw50:=hsc50.words hk;obtain ⟨u,hu,hfm⟩:=hw50.fmt;by_cases hi:x.fmt.is=true
    ·rw [if_pos hi] at hfm;obtain ⟨b,T,fr,sf,tb,cb,T',fr',rfl,hb,hbo,hcb,hcbo,htk⟩:=hfm;have e19:=cat (w:=w50) hcs50 hu;refine ⟨_,rfl,_,e19,fun _=>⟨_,rfl,_,e19,_,rfl,_,cat hbo rfl,114,[.pointer (some (adr cb))],rfl,?_⟩,nofun⟩;obtain ⟨fn,g1,g2⟩:=C_x;refine ⟨fn,g1,g2,(B_U hok.ok st50.ra (by have:=hN.ts.2.2;omega) hcbo htk).mono ?_⟩;rintro _ w139 ⟨o',rfl,x139,ho'⟩;have st139:=st50.ext0 x139;refine ⟨o',rfl,trivial,fun hne=>?_,fun hno=>?_⟩
     ·have e19':=cat (x139.old _ _ id hcs50) hu;refine ⟨_,rfl,_,e19',_,rfl,sf,cat0 (x139.old _ _ id hbo) rfl,trivial,trivial,?_⟩;have x145:EF w139 (w139.alloc (.cells #[ifcV d.o,.string sf,ifcV o'] 230)):=(Ext.refl _).alloc _;refine (st139.ext0 x145).bad (fr50.trans (FR2.of (x139.then x145))) ?_ GrpOK.ptr;cases hr:R1.1 with
      | false=>rfl
      | true=>
       obtain ⟨-, -, -, -, g4⟩:=jok.1 hr;have:(!o'.isNone)=false:=ho'.2 fun h3=>by
        have:=(g4.1 h3).2.2;unfold tkn at this;rw [hi] at this;simpa using this
       rw [this] at hne;cases hne
     ·refine k51 w139 st139 (fr50.trans (FR2.of x139)) fun h3=>?_;unfold tkn;rw [ho'.1 hno h3,Bool.or_true]
    ·rw [if_neg hi] at hfm;subst hfm;refine ⟨_,rfl,_,cat hcs50 hu,nofun,fun _=>k51 w50 st50 fr50 fun _=>?_⟩;unfold tkn;rw [Bool.not_eq_true] at hi;rw [hi];rfl
   obtain ⟨cs48,hcs48,hsc48⟩:=st48.sc h1 hx;have hw48:=hsc48.words hk;obtain ⟨u,hu,hen⟩:=hw48.enm;by_cases hi:x.hasEnum=true
   ·rw [if_pos hi] at hen;obtain ⟨b,T,fr,a,l,c,m,rfl,hb,hbo,hA,hm⟩:=hen;have e10:=cat (w:=w48) hcs48 hu;have hm256:m<256:=by rw [hm];exact A_m z_f _ 0 (by omega)
    refine ⟨_,rfl,_,e10,fun _=>?_,nofun⟩;rintro w151 hw151;have x151:EF w48 w151:=hw151▸(Ext.refl _).drew;clear hw151;have st151:=st48.ext0 x151;have e10':=cat (x151.old _ _ id hcs48) hu;have hbo':=x151.old _ _ id hbo;refine ⟨_,rfl,_,e10',_,rfl,(m:Int),cat hbo' rfl,(A_h hok.ok st151.ra).mono ?_⟩;rintro _ w157 ⟨rfl,hw⟩;obtain rfl:=hw.symm;clear hw;refine ⟨_,rfl,trivial,⟨rfl,rfl,trivial⟩,(y_Q hm256 (z_f v) w151).mono ?_⟩;rintro _ w160 ⟨z,rfl,hw,hz⟩;obtain rfl:=hw.symm;clear hw;refine ⟨z,rfl,trivial,trivial,trivial,fun K162 hK162=>?_⟩;have k162:∀ q w164,VSt s av B lo vb d n vid k v w164 true 0 (T0 x v need)->FR2 lo d.g w48 w164->EF w48 w164->(q=true↔x.enm.any (eqJ v)=true)->K162 q w164:=fun q w164 st164 fr164 x164 hq=>hK162 q w164 ⟨fun hno=>?_,fun hyes=>k49 w164 st164 (fr48.trans fr164) ?_⟩
    ·cases z with
     | false=>
      refine ⟨nofun,fun _=>k162 false w151 st151 (FR2.of x151) x151 ⟨nofun,fun h=>?_⟩⟩;obtain ⟨y,hy,he⟩:=List.any_eq_true.1 h;have:=(C_h hok.ok x.enm).2 ⟨y,hy,by rw [D_j he]⟩;rw [<- hm] at this;exact absurd (hz.2 this) nofun
     | true=>
      refine ⟨fun _=>⟨_,rfl,_,e10',_,rfl,_,_,_,cat0 hbo' rfl,?_⟩,nofun⟩;have hll:l=x.enm.length:=hA.1;refine ⟨fun q i w1=>q=false/\0<=i/\i<=l/\EF w48 w1/\∀ (j:Nat) y,(j:Int)<i->x.enm[j]? =some y->eqJ v y=false,fun _ i _=>((l:Int)-i).toNat,⟨rfl,by omega,by omega,x151,fun j y h=>by omega⟩,?_⟩;rintro q i w1 ⟨rfl,i0,i1,x1,hno⟩;have st1:=st48.ext0 x1;refine ⟨fun hlt=>?_,fun hge=>?_⟩
      ·have hlt:=odt hlt;have hil:i.toNat<x.enm.length:=by omega
       obtain ⟨p,o',hp,hcell,hra'⟩:=(hA.ext x1 fun _ e=>e.elim).get (List.getElem?_eq_getElem hil);have hoke:=hN.enm _ (List.getElem_mem hil);refine ⟨p,hp,⟨i0,hlt⟩,o',by rw [Nat.mul_one];exact hcell,(A_d _ v x.enm[i.toNat] d.o o' w1 B (Nat.le_refl _) (by omega) hok.ok hoke.ok st1.ra hra').mono ?_⟩;rintro _ w2 ⟨rfl,x2⟩;refine ⟨_,none,rfl,trivial,nofun,fun _=>⟨fun he=>k162 true w2 (st1.ext0 x2) (FR2.of (x1.then x2)) (x1.then x2) ⟨fun _=>List.any_eq_true.2 ⟨_,List.getElem_mem hil,he⟩,fun _=>rfl⟩,fun hne=>?_⟩⟩;rw [f_c (by omega) (by omega)];refine ⟨⟨rfl,by omega,by omega,x1.then x2,fun j y hj hy=>?_⟩,by dsimp only;omega⟩;by_cases hji:(j:Int)<i
       ·exact hno j y hji hy
       ·have:j=i.toNat:=by omega
        subst this;rw [List.getElem?_eq_getElem hil] at hy;cases hy;exact hne
      ·have hge:=odf hge;refine k162 false w1 st1 (FR2.of x1) x1 ⟨nofun,fun h=>?_⟩;obtain ⟨y,hy,he⟩:=List.any_eq_true.1 h;obtain ⟨j,hj⟩:=List.mem_iff_getElem?.1 hy;have hjl:=(List.getElem?_eq_some_iff.1 hj).1;rw [hno j y (by omega) hj] at he;cases he
    ·have hq':x.enm.any (eqJ v)=false:=by
      cases ha:x.enm.any (eqJ v) with
      | false=>rfl
      | true=>
       rw [hq.2 ha] at hno;cases hno
     have e10':=cat (x164.old _ _ id hcs48) hu;refine ⟨_,rfl,_,e10',_,rfl,_,_,_,cat0 (x164.old _ _ id hbo) rfl,trivial,trivial,?_⟩;have x169:EF w164 (w164.alloc (.cells #[ifcV d.o,.slice a l c] 227)):=(Ext.refl _).alloc _;refine (st164.ext0 x169).bad ((fr48.trans fr164).trans (FR2.of x169)) ?_ GrpOK.ptr;cases hr:R1.1 with
     | false=>rfl
     | true=>
      have:=(jok.1 hr).1;unfold x_j at this;rw [hi,hq'] at this;simp at this
    ·have hyes:q=true:=by simpa using hyes
     rw [hq.1 hyes,Bool.or_true]
   ·rw [if_neg hi] at hen;subst hen;refine ⟨_,rfl,_,cat hcs48 hu,nofun,fun _=>k49 w48 st48 fr48 ?_⟩;rw [Bool.not_eq_true] at hi;rw [hi];rfl
  obtain ⟨cs46,hcs46,hsc46⟩:=st46.sc h1 hx;have hw46:=hsc46.words hk;obtain ⟨u,hu,hcn⟩:=hw46.cst;cases hc:x.cst with
  | nil=>
   rw [hc] at hcn;have hcn:u=.pointer none:=hcn;subst hcn;exact ⟨_,rfl,_,cat hcs46 hu,nofun,fun _=>k47 w46 st46 fr46 fun c l h=>by rw [hc] at h;cases h⟩
  | cons y l=>
   rw [hc] at hcn;obtain ⟨b,T,fr,o',rfl,hb,hbo,hra'⟩:=hcn;have e11:=cat (w:=w46) hcs46 hu;have hoky:=hN.cstv y (by rw [hc];exact List.mem_cons_self ..);refine ⟨_,rfl,_,e11,fun _=>⟨_,rfl,_,e11,_,rfl,o',cat0 hbo rfl,(A_d _ v y d.o o' w46 B (Nat.le_refl _) (by have:=y_l v;omega) hok.ok hoky.ok st46.ra hra').mono ?_⟩,nofun⟩;rintro _ w198 ⟨rfl,x198⟩;have st198:=st46.ext0 x198;refine ⟨_,none,rfl,trivial,nofun,fun _=>⟨fun hne=>?_,fun he=>k47 w198 st198 (fr46.trans (FR2.of x198)) fun c l' h=>?_⟩⟩
   ·have e11':=cat (x198.old _ _ id hcs46) hu;refine ⟨_,rfl,_,e11',_,rfl,o',cat0 (x198.old _ _ id hbo) rfl,trivial,trivial,?_⟩;have x208:EF w198 (w198.alloc (.cells #[ifcV d.o,ifcV o'] 222)):=(Ext.refl _).alloc _;refine (st198.ext0 x208).bad (fr46.trans (FR2.of (x198.then x208))) ?_ GrpOK.ptr;have hne:eqJ v y=false:=by
     have h:(!eqJ v y)=true:=hne;simpa using h
    cases hr:R1.1 with
    | false=>rfl
    | true=>
     have:=(jok.1 hr).1;unfold x_j at this;rw [hc] at this;dsimp only at this;rw [hne] at this;simp at this
   ·rw [hc] at h;cases h;have h:(!eqJ v y)=false:=he;simpa using h
 obtain ⟨cs39,hcs39,hsc39⟩:=st21.sc h1 hx;have hw39:=hsc39.words hk;obtain ⟨u,hu,htp⟩:=hw39.types;by_cases ht:x.types=[]
 ·rw [if_pos ht] at htp;subst htp;exact ⟨_,rfl,_,cat hcs39 hu,nofun,fun _=>hK212 false w21 ⟨nofun,fun _=>k45 w21 st21 fr21 (by rw [ht];rfl)⟩⟩
 ·rw [if_neg ht] at htp;obtain ⟨b,T,fr,rfl,hb,hbo⟩:=htp;have e9:=cat (w:=w21) hcs39 hu;have hem:x.types.isEmpty=false:=by
   cases h:x.types with
   | nil=>exact absurd h ht
   | cons=>rfl
  refine ⟨_,rfl,_,e9,fun _=>⟨_,rfl,_,e9,_,rfl,_,cat0 hbo rfl,(C_i _ w21).mono ?_⟩,nofun⟩;rintro _ w244 ⟨rfl,hw⟩;obtain rfl:=hw.symm;clear hw;refine ⟨_,rfl,trivial,hK212 _ w21 ⟨fun _=>?_,fun h0=>?_⟩⟩
  ·refine ⟨_,rfl,_,e9,_,rfl,_,cat0 hbo rfl,(y_Q (A_a _) (z_f v) w21).mono ?_⟩;rintro _ w220 ⟨z,rfl,hw,hz⟩;obtain rfl:=hw.symm;clear hw;rw [B_Q hok.ok] at hz;refine ⟨z,rfl,trivial,fun hno=>?_,fun hyes=>k45 w21 st21 fr21 ?_⟩
   ·rintro w222 hw222;have x222:EF w21 w222:=hw222▸(Ext.refl _).drew;clear hw222;have st222:=st21.ext0 x222;have e9':=cat (x222.old _ _ id hcs39) hu;have hbo':=x222.old _ _ id hbo;refine ⟨_,rfl,_,e9',_,rfl,_,cat0 hbo' rfl,(z_Z _ w222).mono ?_⟩;rintro _ w228 ⟨t,rfl,hw⟩;obtain rfl:=hw.symm;clear hw;refine ⟨t,rfl,trivial,⟨rfl,rfl,trivial⟩,(A_2 (A_a _) w222).mono ?_⟩;rintro _ w231 ⟨A,L,C,rfl,x231⟩;have x233:EF w231 (w231.alloc (.cells #[.string t,.slice A L C] 217)):=(Ext.refl _).alloc _;have x2:=x231.then x233;refine ⟨_,_,_,rfl,trivial,trivial,trivial,trivial,trivial,((st222.ext0 x2).bad (fr21.trans (FR2.of (x222.then x2))) (R1:=R1) (need:=need) ?_ GrpOK.ptr).mono ?_⟩
    ·cases hr:R1.1 with
     | false=>rfl
     | true=>
      have:=(jok.1 hr).1;unfold x_j at this;rw [hem,Bool.false_or] at this;have hz':z=false:=by simpa using hno
      rw [Bool.and_eq_true,Bool.and_eq_true] at this;rw [hz.2 this.1.1] at hz';cases hz'
    ·rintro _ w9 ⟨q,rfl,-, h⟩;exact ⟨q,rfl,trivial,trivial,trivial,trivial,h⟩
   ·have hyes:z=true:=by simpa using hyes
    rw [hz.1 hyes,Bool.or_true]
  ·have:=C_g hty ht;simp at h0;exact absurd h0 this
end
theorem D_W {s:List JN}{av:Nat->Nat}{B:Nat}(hS:okS s)(hT:okU s):∀ f,CV s av B f
 | 0=>fun n x v w lo vb d need vid k h=>absurd h (Nat.not_lt_zero _)
 | f+1=>B_Z hS hT (D_W hS hT f)
theorem A_c {s:List JN}{av:Nat->Nat}{B f:Nat}(hS:okS s)(hT:okU s){w:World}(hsch:Sch w B av s)(hB:B<=w.heap.size){v:JV}(hs:s≠[])(hM:MJ s.length v 1<f)(hok:okV v)(hra:RA w B v o)(hsz:szJ v<=1100000):
  CP 42 #[.pointer (some (adr (av 1))),ifcV o] w fun e w'=>∃ o,e=.returned (ifcV o)/\EF w w'/\(o=none↔(w_2 2020 s f 1 v).1=true):=by
 obtain ⟨x,s',rfl⟩:=List.exists_cons_of_ne_nil hs;refine y_r (some (adr (av 1))) o w _ ((c_Sv hS (D_W hS hT f) hsch hB (n:=1) (x:=x) (Nat.le_refl _) rfl hM hok hra hsz).mono ?_);rintro _ w' ⟨o',rfl,hx,h3,-⟩;exact ⟨o',rfl,trivial,o',rfl,hx,h3⟩
structure Sub (w w':World):Prop where
 obj:∀ {b:Nat} {cs:Array Value} {T:TypeId} {fr:Nat × Nat},objAt w b=some (.cells cs T fr)->objAt w' b=some (.cells cs T fr)
 mp:∀ {b:Nat} {es:Array MapEntry} {cl:Nat},objAt w b=some (.map es cl)->objAt w' b=some (.map es cl)
theorem Sub.refl (w:World):Sub w w:=⟨fun h=>h,fun h=>h⟩
theorem Sub.trans {w w1 w2:World}(h:Sub w w1)(k:Sub w1 w2):Sub w w2:=⟨fun e=>k.obj (h.obj e),fun e=>k.mp (h.mp e)⟩
theorem Sub.at {w w':World}(h:Sub w w'){T:TypeId}{a:Addr}{v:Value}(k:At w T a v):At w' T a v:=by
 obtain ⟨cs,fr,h1,h2,h3⟩:=k;exact ⟨cs,fr,h.obj h1,h2,h3⟩
theorem Sub.map {w w':World}(h:Sub w w'){b:Nat}(k:GMap K w b S):GMap K w' b S:=by
 obtain ⟨ents,cl,h1,h2⟩:=k;exact ⟨ents,cl,h.mp h1,h2⟩
def cutw (N:Nat)(w:World):World:={ w with heap:=w.heap.mapIdx fun i o=>if i<N then .stringIter ⟨#[]⟩ 0 else o}
theorem A_j {N:Nat}{w:World}{b:Nat}:objAt (cutw N w) b=if b<N then (objAt w b).map fun _=>.stringIter ⟨#[]⟩ 0 else objAt w b:=by
 simp only [objAt,cutw,Array.getElem?_mapIdx];split
 ·rename_i h;simp [h]
 ·rename_i h;simp [h]
theorem x_h {N:Nat}{w:World}{b:Nat}(h:N<=b):objAt (cutw N w) b=objAt w b:=by rw [A_j,if_neg (by omega)]
theorem z_0 {N:Nat}{w:World}{b:Nat}{cs:Array Value}{T:TypeId}{fr:Nat × Nat}(h:objAt (cutw N w) b=some (.cells cs T fr)):N<=b/\objAt w b=some (.cells cs T fr):=by
 rw [A_j] at h;split at h
 ·cases e:objAt w b<;>rw [e] at h<;>cases h
 ·exact ⟨by omega,h⟩
theorem B_z {N:Nat}{w:World}{b:Nat}{es:Array MapEntry}{cl:Nat}(h:objAt (cutw N w) b=some (.map es cl)):N<=b/\objAt w b=some (.map es cl):=by
 rw [A_j] at h;split at h
 ·cases e:objAt w b<;>rw [e] at h<;>cases h
 ·exact ⟨by omega,h⟩
theorem Sub.cut (N:Nat)(w:World):Sub (cutw N w) w:=⟨fun h=>(z_0 h).2,fun h=>(B_z h).2⟩
theorem Sub.step {X:Nat->Prop}{w w':World}(hx:Ext X w w'){N N':Nat}(hN:N'<=N)(hX:∀ b,X b->N<=b->∀ o,objAt w b≠some o):Sub (cutw N w) (cutw N' w'):=by
 refine ⟨fun h=>?_,fun h=>?_⟩
 ·obtain ⟨h1,h2⟩:=z_0 h;rw [x_h (by omega)];exact hx.old _ _ (fun e=>hX _ e h1 _ h2) h2
 ·obtain ⟨h1,h2⟩:=B_z h;rw [x_h (by omega)];exact hx.old _ _ (fun e=>hX _ e h1 _ h2) h2
theorem Sub.new {w w':World}(hx:EF w w'){N N':Nat}(hN:N'<=N):Sub (cutw N w) (cutw N' w'):=Sub.step hx hN fun _ e=>e.elim
mutual
theorem RA.sub {w w':World}{B B':Nat}(hx:Sub w w')(hB:B<=B'):∀ {v:JV} {o:Option (TypeId × Value)},RA w B v o->RA w' B' v o
 | .mk k b n t ns xs,o,h=>by
  simp only [RA] at h ⊢;obtain ⟨h0,h1,h2,h3,h4⟩:=h;refine ⟨h0,h1,h2,fun hk=>?_,fun hk=>?_⟩
  ·obtain ⟨a,l,c,g1,g2,g3,g4⟩:=h3 hk;refine ⟨a,l,c,g1,g2,g3,fun i hi=>?_⟩;obtain ⟨p,T,o',e1,e2,e3,e4⟩:=g4 i hi;exact ⟨p,T,o',e1,Nat.lt_of_lt_of_le e2 hB,hx.at e3,RAat.sub hx hB e4⟩
  ·obtain ⟨b,S,g1,g2,g3,g4,g5⟩:=h4 hk;refine ⟨b,S,g1,Nat.lt_of_lt_of_le g2 hB,hx.map g3,fun k x hs=>?_,g5⟩;obtain ⟨s,i,o',e1,e2,e3,e4⟩:=g4 k x hs;exact ⟨s,i,o',e1,e2,e3,RAat.sub hx hB e4⟩
theorem RAat.sub {w w':World}{B B':Nat}(hx:Sub w w')(hB:B<=B'):∀ {xs:List JV} {i:Nat} {o:Option (TypeId × Value)},RAat w B xs i o->RAat w' B' xs i o
 | [],_,_,h=>h
 | x::l,0,_,h=>by
  simp only [RAat] at h ⊢;exact RA.sub hx hB h
 | x::l,i+1,_,h=>by
  simp only [RAat] at h ⊢;exact RAat.sub hx hB h
end
theorem RArr.sub {w w':World}{B B':Nat}{xs:List JV}{a:OA}{l c:Nat}(h:RArr w B xs a l c)(hx:Sub w w')(hB:B<=B'):RArr w' B' xs a l c:=by
 refine ⟨h.1,h.2.1,fun i y hy=>?_⟩;obtain ⟨p,T,o',e1,e2,e3,e4⟩:=h.2.2 i y hy;exact ⟨p,T,o',e1,Nat.lt_of_lt_of_le e2 hB,hx.at e3,RA.sub hx hB e4⟩
theorem RSl.sub {w w':World}{B B':Nat}{R:α->Value->Prop}{a:OA}{l c:Nat}{xs:List α}(h:RSl w B R a l c xs)(hx:Sub w w')(hB:B<=B'):RSl w' B' R a l c xs:=by
 refine ⟨h.1,h.2.1,fun i y hy=>?_⟩;obtain ⟨p,T,u,e1,e2,e3,e4⟩:=h.2.2 i y hy;exact ⟨p,T,u,e1,Nat.lt_of_lt_of_le e2 hB,hx.at e3,e4⟩
section
variable {w w':World} {B B':Nat} {av:Nat->Nat}
theorem RLim.sub {x:JLim}{u:Value}(h:RLim w B x u)(hx:Sub w w')(hB:B<=B'):RLim w' B' x u:=by
 unfold RLim at h ⊢;split
 ·rename_i hi;rw [if_pos hi] at h;obtain ⟨b,T,fr,u0,h1,h2,h3⟩:=h;exact ⟨b,T,fr,u0,h1,Nat.lt_of_lt_of_le h2 hB,hx.obj h3⟩
 ·rename_i hi
  rwa [if_neg hi] at h
theorem RTak.sub {b:Nat}{x:List BA}(h:RTak w B b x)(hx:Sub w w')(hB:B<=B'):RTak w' B' b x:=by
 obtain ⟨h1,a,l,c,T,fr,h2,h3⟩:=h;exact ⟨Nat.lt_of_lt_of_le h1 hB,a,l,c,T,fr,hx.obj h2,h3.sub hx hB⟩
theorem RPrM.sub {x:List JPr}{u:Value}(h:RPrM w B av x u)(hx:Sub w w')(hB:B<=B'):RPrM w' B' av x u:=by
 obtain ⟨b,S,h1,h2,h3,h4⟩:=h;exact ⟨b,S,h1,Nat.lt_of_lt_of_le h2 hB,hx.map h3,h4⟩
theorem SchK.sub {x:JN}{cs:Array Value}(h:SchK w B av x cs)(hx:Sub w w')(hB:B<=B'):SchK w' B' av x cs where
 f5:=h.f5
 ref:=h.ref
 types:=by
  obtain ⟨u,h1,h2⟩:=h.types;refine ⟨u,h1,?_⟩;split
  ·rename_i hi
   rwa [if_pos hi] at h2
  ·rename_i hi;rw [if_neg hi] at h2;obtain ⟨b,T,fr,e1,e2,e3⟩:=h2;exact ⟨b,T,fr,e1,Nat.lt_of_lt_of_le e2 hB,hx.obj e3⟩
 enm:=by
  obtain ⟨u,h1,h2⟩:=h.enm;refine ⟨u,h1,?_⟩;split
  ·rename_i hi;rw [if_pos hi] at h2;obtain ⟨b,T,fr,a,l,c,n,e1,e2,e3,e4,e5⟩:=h2;exact ⟨b,T,fr,a,l,c,n,e1,Nat.lt_of_lt_of_le e2 hB,hx.obj e3,e4.sub hx hB,e5⟩
  ·rename_i hi
   rwa [if_neg hi] at h2
 cst:=by
  obtain ⟨u,h1,h2⟩:=h.cst;refine ⟨u,h1,?_⟩;split
  ·rename_i hi
   rwa [hi] at h2
  ·rename_i hi;rw [hi] at h2;obtain ⟨b,T,fr,o,e1,e2,e3,e4⟩:=h2;exact ⟨b,T,fr,o,e1,Nat.lt_of_lt_of_le e2 hB,hx.obj e3,RA.sub hx hB e4⟩
 nt:=h.nt
 allOf:=by obtain ⟨a,l,c,h1,h2⟩:=h.allOf;exact ⟨a,l,c,h1,h2.sub hx hB⟩
 anyOf:=by obtain ⟨a,l,c,h1,h2⟩:=h.anyOf;exact ⟨a,l,c,h1,h2.sub hx hB⟩
 oneOf:=by obtain ⟨a,l,c,h1,h2⟩:=h.oneOf;exact ⟨a,l,c,h1,h2.sub hx hB⟩
 iff:=h.iff
 thn:=h.thn
 els:=h.els
 fmt:=by
  obtain ⟨u,h1,h2⟩:=h.fmt;refine ⟨u,h1,?_⟩;split
  ·rename_i hi;rw [if_pos hi] at h2;obtain ⟨b,T,fr,s,tb,cb,T',fr',e1,e2,e3,e4,e5,e6⟩:=h2;exact ⟨b,T,fr,s,tb,cb,T',fr',e1,Nat.lt_of_lt_of_le e2 hB,hx.obj e3,Nat.lt_of_lt_of_le e4 hB,hx.obj e5,e6.sub hx hB⟩
  ·rename_i hi
   rwa [if_neg hi] at h2
 maxP:=by obtain ⟨u,h1,h2⟩:=h.maxP;exact ⟨u,h1,h2.sub hx hB⟩
 minP:=by obtain ⟨u,h1,h2⟩:=h.minP;exact ⟨u,h1,h2.sub hx hB⟩
 req:=by obtain ⟨a,l,c,h1,h2⟩:=h.req;exact ⟨a,l,c,h1,h2.sub hx hB⟩
 names:=h.names
 props:=by obtain ⟨u,h1,h2⟩:=h.props;exact ⟨u,h1,h2.sub hx hB⟩
 pats:=by
  obtain ⟨u,b,S,h1,h2,h3,h4,h5,h6,h7⟩:=h.pats;refine ⟨u,b,S,h1,h2,Nat.lt_of_lt_of_le h3 hB,hx.map h4,fun k y hs=>?_,fun q hq=>?_,h7⟩
  ·obtain ⟨q,hq,tb,e1,e2,e3⟩:=h5 k y hs;exact ⟨q,hq,tb,e1,e2.sub hx hB,e3⟩
  ·obtain ⟨tb,e1,e2⟩:=h6 q hq;exact ⟨tb,e1.sub hx hB,e2⟩
 more:=h.more
 deps':=by obtain ⟨b,h1,h2,h3⟩:=h.deps';exact ⟨b,h1,Nat.lt_of_lt_of_le h2 hB,hx.map h3⟩
 needs:=by
  obtain ⟨b,S,h1,h2,h3,h4,h5⟩:=h.needs;refine ⟨b,S,h1,Nat.lt_of_lt_of_le h2 hB,hx.map h3,fun k y hs=>?_,h5⟩;obtain ⟨q,hq,e1,a,l,c,e2,e3⟩:=h4 k y hs;exact ⟨q,hq,e1,a,l,c,e2,e3.sub hx hB⟩
 deps:=by obtain ⟨u,h1,h2⟩:=h.deps;exact ⟨u,h1,h2.sub hx hB⟩
 minI:=by obtain ⟨u,h1,h2⟩:=h.minI;exact ⟨u,h1,h2.sub hx hB⟩
 maxI:=by obtain ⟨u,h1,h2⟩:=h.maxI;exact ⟨u,h1,h2.sub hx hB⟩
 uniq:=h.uniq
 cont:=h.cont
 minC:=by obtain ⟨u,h1,h2⟩:=h.minC;exact ⟨u,h1,h2.sub hx hB⟩
 maxC:=by obtain ⟨u,h1,h2⟩:=h.maxC;exact ⟨u,h1,h2.sub hx hB⟩
 first:=by obtain ⟨a,l,c,h1,h2⟩:=h.first;exact ⟨a,l,c,h1,h2.sub hx hB⟩
 items:=h.items
 minL:=by obtain ⟨u,h1,h2⟩:=h.minL;exact ⟨u,h1,h2.sub hx hB⟩
 maxL:=by obtain ⟨u,h1,h2⟩:=h.maxL;exact ⟨u,h1,h2.sub hx hB⟩
 pat:=by
  obtain ⟨u,h1,h2⟩:=h.pat;refine ⟨u,h1,?_⟩;split
  ·rename_i hi;rw [if_pos hi] at h2;obtain ⟨tb,e1,e2⟩:=h2;exact ⟨tb,e1,e2.sub hx hB⟩
  ·rename_i hi
   rwa [if_neg hi] at h2
theorem SchC.sub {x:JN}{cs:Array Value}(h:SchC w B av x cs)(hx:Sub w w')(hB:B<=B'):SchC w' B' av x cs where
 f0:=h.f0
 f1:=h.f1
 f2:=h.f2
 f3:=h.f3
 f4:=h.f4
 f30:=h.f30
 f41:=h.f41
 bool hk:=by
  obtain ⟨b,T,fr,h1,h2,h3⟩:=h.bool hk;exact ⟨b,T,fr,h1,Nat.lt_of_lt_of_le h2 hB,hx.obj h3⟩
 words hk:=(h.words hk).sub hx hB
end
theorem Ext.cut {X:Nat->Prop}{w w':World}(hx:Ext X w w')(N:Nat):Ext (fun k=>X k/\N<=k) (cutw N w) (cutw N w'):=by
 refine ⟨fun b o hb ho=>?_,?_,hx.os,hx.out⟩
 ·by_cases h:b<N
  ·rw [A_j,if_pos h] at ho ⊢;have hs:=hx.size;cases e:objAt w b with
   | none=>rw [e] at ho;cases ho
   | some z=>
    have hlt:=a_3 e;rw [e] at ho;have:objAt w' b=some (w'.heap[b]'(by omega)):=Array.getElem?_eq_getElem (by omega);rw [this];exact ho
  ·rw [x_h (by omega)] at ho ⊢;exact hx.old _ _ (fun e=>hb ⟨e,by omega⟩) ho
 ·simp only [cutw,Array.size_mapIdx];exact hx.size
theorem y_S {w w':World}{b:Nat}(hm:GMap K w b S)(hx:Ext (fun k=>k=b) w w')(T:TypeId):KeepT T w w':=fun k cs fr hk=>hx.old k _ (fun e=>by
 subst e;obtain ⟨ents,cl,h1,-⟩:=hm;rw [h1] at hk;cases hk) hk
theorem C_z {base:Nat}{w w':World}{T0:TypeId}{a:OA}{l c:Nat}{ps:List Value}(hO:Own base w T0 1 a l c ps)(hx:Ext (blkOf a) w w'){T:TypeId}(hT:T0≠T):KeepT T w w':=fun k cs fr hk=>hx.old k _ (fun e=>by
 obtain ⟨-, cs',fr',h⟩:=hO.isT k e;rw [hk] at h;simp only [Option.some.injEq,Obj.cells.injEq] at h;exact hT h.2.1.symm) hk
def OJ (f:Nat):Prop:=∀ (v:JV) (cs:List Value) (w:World),szJ v<=f->okJ v->RJV w v cs->CP 43 #[.agg cs.toArray] w fun e w'=>∃ o,e=.returned (ifcV o)/\EF w w'/\RA (cutw w.heap.size w') w'.heap.size v o
theorem D_V {f:Nat}(IH:OJ f){a:OA}{l c:Nat}{xs:List JV}{w:World}(hl:RJVs w a l c xs)(hsz:szL xs<=f)(hok:∀ x∈xs,okJ x):
  CP 67 #[.slice a l c] w fun e w'=>∃ A L C,e=.returned (.slice A L C)/\EF w w'/\RArr (cutw w.heap.size w') w'.heap.size xs A L C:=by
 have ht:Tryz.prog.underlying 114=some (.slice 20):=by kernel_rfl
 have hi:Tryz.prog.info? 20=some Tryz.t20:=by kernel_rfl
 obtain ⟨e2,e2'⟩:=hl.len;have x2:EF w (w.alloc (.cells #[] 20)):=(Ext.refl w).alloc _;have hO2:Own w.heap.size (w.alloc (.cells #[] 20)) 20 1 (some (adr w.heap.size)) 0 0 []:=Own.made w.heap.size w 20 1 0 #[] (Nat.le_refl _) (Nat.zero_le _) rfl;refine y_6 a l c w _ ⟨fun A L C i w1=>0<=i/\i<=l/\EF w w1/\∃ os:List (Option (TypeId × Value)),Own w.heap.size w1 20 1 A L C (os.map ifcV)/\(os.length:Int)=i/\∀ (j:Nat) y o,xs[j]? =some y->os[j]? =some o->∃ N B',w.heap.size<=N/\B'<=w1.heap.size/\(∀ b,blkOf A b->b<N∨B'<=b)/\RA (cutw N w1) B' y o,fun _ _ _ i _=>((l:Int)-i).toNat,⟨by omega,by omega,x2,[],hO2,rfl,fun j y o _ h=>by simp at h⟩,?_⟩;rintro A L C i w1 ⟨i0,i1,hx,os,hO,hos,hel⟩;have hL:L=os.length:=by have:=hO.len.1;simpa using this.symm
 refine ⟨fun hlt=>?_,fun hge=>⟨A,L,C,rfl,hx,?_⟩⟩
 ·have hlt:=odt hlt;obtain ⟨p,x,hp,hxs,cx,hc,hvx⟩:=hl.get i0 hlt;have hx':=mg_ hxs;have x16:∀ o,EF w1 (w1.alloc o):=fun o=>(Ext.refl w1).alloc o;have call:=fun o=>IH x cx (w1.alloc o) (by have:=x_L hx';omega) (hok x hx') (hvx.keep (hx.then (x16 o)).keep);obtain ⟨xk,xb,xn,xt,xns,xxs⟩:=x;obtain ⟨a5,l5,c5,a6,l6,c6,rfl,-, -, -⟩:=w_8.1 hvx;obtain ⟨⟨_,_,g0⟩,-, ⟨_,_,g1⟩,-, ⟨_,_,g2⟩,-, ⟨_,_,g3⟩,-, ⟨_,_,g4⟩,-, ⟨_,_,g5⟩,-⟩:=hc;refine ⟨p,hp,⟨i0,hlt⟩,_,hx.cell g0 id,_,hx.cell g1 id,_,hx.cell g2 id,_,hx.cell g3 id,_,_,_,hx.cell g4 id,_,_,_,hx.cell g5 id,trivial,trivial,(call _).mono ?_⟩;have y16:=x16 (.cells #[.int .i64 xk,.bool xb,.int .i64 xn,.string xt,.slice a5 l5 c5,.slice a6 l6 c6] 27);have s16:(w1.alloc (.cells #[.int .i64 xk,.bool xb,.int .i64 xn,.string xt,.slice a5 l5 c5,.slice a6 l6 c6] 27)).heap.size=w1.heap.size+1:=Array.size_push _;generalize hw16:w1.alloc (.cells #[.int .i64 xk,.bool xb,.int .i64 xn,.string xt,.slice a5 l5 c5,.slice a6 l6 c6] 27)=w16 at *;rintro _ w18 ⟨o,rfl,x18,ra18⟩;have x20:EF w18 (w18.alloc (.cells #[ifcV o] 20)):=(Ext.refl _).alloc _;have z20:=(y16.then x18).then x20;have s20:(w18.alloc (.cells #[ifcV o] 20)).heap.size=w18.heap.size+1:=Array.size_push _;have hO20:=hO.keep z20 fun _ _=>id;have hs1:=hx.size;have hs18:=x18.size;obtain ⟨A',C',w22,r,hO',xA,hA⟩:=x_t (t:=114) (T:=20) ht hi (z:=.nilIface) (by kernel_rfl) (by kernel_rfl) (by
   have:Tryz.t20.bytes=16:=by kernel_rfl
   omega) rfl hO20 (by omega) (p:=adr w18.heap.size) (u:=ifcV o) (cat0 (w_3 _ _) rfl) (by cases o<;>rfl) (by omega) 114 #[false,false]
  have hbA:∀ b,blkOf A b->w.heap.size<=b/\b<w1.heap.size:=hO.base;have hs22:=xA.size;refine ⟨o,rfl,⟨x18.keepT _,trivial⟩,trivial,A',L+1,C',w22,r,⟨C_z hO20 xA (by decide),trivial⟩,?_⟩;rw [f_c (by omega) (by omega)];refine ⟨⟨by omega,by omega,(hx.then z20).trans xA fun b hb hbl=>by have:=hbA b hbl;omega,os++[o],by rw [List.map_append];exact hO',by simp;omega,fun j y o' hy ho'=>?_⟩,by dsimp only;omega⟩;by_cases hj:j<os.length
  ·rw [List.getElem?_append_left hj] at ho';obtain ⟨N,B',h1,h2,h3,h4⟩:=hel j y o' hy ho';have z22:Ext (blkOf A) w1 w22:=(z20.mono fun _ _ e=>e.elim).trans xA fun _ _ e=>e;refine ⟨N,B',h1,by omega,fun b hb=>?_,RA.ext (z22.cut N) (fun k hk=>(h3 k hk.1).elim (fun e=>by have:=hk.2;omega) id) h4⟩;rcases hA b hb with e|e
   ·exact h3 b e
   ·right;omega
  ·have hjl:j=os.length:=by
    have:=(List.getElem?_eq_some_iff.1 ho').1;rw [la_,List.length_singleton] at this;omega
   subst hjl;rw [List.getElem?_append_right (Nat.le_refl _),Nat.sub_self] at ho';obtain rfl:o=o':=by simpa using ho'
   rw [show i.toNat=os.length by omega] at hxs;rw [hxs] at hy;cases hy;have z22:Ext (blkOf A) w18 w22:=(x20.mono fun _ _ e=>e.elim).trans xA fun _ _ e=>e;refine ⟨w16.heap.size,w18.heap.size,by omega,by omega,fun b hb=>?_,RA.ext (z22.cut _) (fun k hk=>by have:=hbA k hk.1;have:=hk.2;omega) ra18⟩;rcases hA b hb with e|e
   ·left;have:=hbA b e;omega
   ·right;omega
 ·have hge:=odf hge;refine ⟨by omega,hO.len.2,fun j y hy=>?_⟩;have hj:=(List.getElem?_eq_some_iff.1 hy).1;obtain ⟨o,ho⟩:∃ o,os[j]? =some o:=⟨_,List.getElem?_eq_getElem (by omega)⟩;obtain ⟨N,B',h1,h2,h3,h4⟩:=hel j y o hy ho;obtain ⟨p,hp,hat⟩:=hO.at (j:=j) (u:=ifcV o) (by rw [List.getElem?_map,ho];rfl);have hpb:=hO.base p.block ⟨p,hp,rfl⟩;have e5:(p.add j).block=p.block:=by unfold Addr.add;split<;>rfl
  refine ⟨p,20,o,hp,hpb.2,?_,RA.sub (Sub.new (Ext.refl w1) h1) h2 h4⟩;obtain ⟨cs,fr,k1,k2,k3⟩:=hat;exact ⟨cs,fr,by rw [x_h (by omega)];exact k1,k2,k3⟩
theorem D_8:∀ f,OJ f:=by
 intro f;induction f with
 | zero=>
  intro v cs w hN;have:=A_A v;omega
 | succ f IH=>
  intro v cs w hN hok hv;obtain ⟨k,b,n,t,ns,xs⟩:=v;obtain ⟨k2,k0,k5,hlen,-⟩:=id hok;obtain ⟨a,l,c,a',l',c',rfl,htz,r1,r2⟩:=w_8.1 hv;simp only [szJ] at hN;obtain ⟨e1,e1'⟩:=r1.len;obtain ⟨e2,e2'⟩:=r2.len;have hoks':∀ x∈xs,okJ x:=fun x hx=>okJ.sub (v:=.mk k b n t ns xs) hok hx;have x7:EF w (w.alloc (.cells #[.int .i64 k,.bool b,.int .i64 n,.string t,.slice a l c,.slice a' l' c'] 27)):=(Ext.refl w).alloc _;have s7:(w.alloc (.cells #[.int .i64 k,.bool b,.int .i64 n,.string t,.slice a l c,.slice a' l' c'] 27)).heap.size=w.heap.size+1:=Array.size_push _;refine z_C k b n t a l c a' l' c' w _ ⟨trivial,?_⟩;generalize w.alloc (.cells #[.int .i64 k,.bool b,.int .i64 n,.string t,.slice a l c,.slice a' l' c'] 27)=w7 at *;refine ⟨fun h1=>?_,fun h1=>⟨fun h2=>?_,fun h2=>⟨fun h3=>?_,fun h3=>⟨fun h4=>?_,fun h4=>⟨fun h5=>?_,fun h5=>?_⟩⟩⟩⟩⟩
  ·have h1:k=1:=by simpa using h1
   subst h1;refine ⟨_,rfl,x7,?_⟩;simp [RA]
  ·exact absurd (by simpa using h2) k2
  ·have h3:k=3:=by simpa using h3
   subst h3;refine ⟨_,rfl,x7,?_⟩;simp [RA]
  ·have h4:k=4:=by simpa using h4
   subst h4;refine (D_V IH (r2.keep x7.keep) (by omega) hoks').mono ?_;rintro _ w9 ⟨A,L,C,rfl,x9,h1,h2,h3⟩;refine ⟨A,L,C,rfl,⟨x9.keepT _,trivial⟩,_,rfl,x7.then x9,?_⟩;simp only [RA];refine ⟨by simp,by simp,by simp,fun _=>⟨A,L,C,rfl,h1,h2,fun i hi=>?_⟩,by simp⟩;obtain ⟨p,T,o',g1,g2,g3,g4⟩:=h3 i xs[i] (List.getElem?_eq_getElem (by omega));have sb:Sub (cutw w7.heap.size w9) (cutw w.heap.size w9):=Sub.new (Ext.refl _) (by omega);exact ⟨p,T,o',g1,g2,sb.at g3,x_z.2 ⟨_,List.getElem?_eq_getElem (by omega),RA.sub sb (Nat.le_refl _) g4⟩⟩
  ·have h5:k=5:=by simpa using h5
   subst h5;have u3:Tryz.prog.underlying 110=some (.map 9 20):=by kernel_rfl
   have k1:Tryz.prog.underlying 9=some .string:=by kernel_rfl
   have hnl:ns.length=xs.length:=hlen rfl;have x11:EF w7 (w7.alloc (.map #[] 0)):=(Ext.refl _).alloc _;have s11:(w7.alloc (.map #[] 0)).heap.size=w7.heap.size+1:=Array.size_push _;refine ⟨fun i w1=>0<=i/\i<=l'/\EF w w1/\w7.heap.size+1<=w1.heap.size/\∃ S,GMap KS w1 w7.heap.size S/\(∀ kk y,S kk y->∃ (s:BA) (j:Nat) (o':Option (TypeId × Value)),kk=.string s/\(j:Int)<i/\ns[j]? =some s/\(∀ j',j<j'->(j':Int)<i->ns[j']? ≠some s)/\y=ifcV o'/\RAat (cutw (w7.heap.size+1) w1) w1.heap.size xs j o')/\∀ (j:Nat) s,(j:Int)<i->ns[j]? =some s->∃ y,S (.string s) y,fun i _=>((l':Int)-i).toNat,⟨by omega,by omega,x7.then x11,by omega,_,GMap.made KS w7,fun _ _ h=>h.elim,fun j s h=>by omega⟩,?_⟩;rintro i w1 ⟨i0,i1,hx,hsz1,S,hm,hS1,hS2⟩;refine ⟨fun hlt K16 hK16=>?_,fun hge=>?_⟩
   ·have hlt:=odt hlt;obtain ⟨p,x,hp,hxs,cx,hc,hvx⟩:=r2.get i0 hlt;have hx':=mg_ hxs;obtain ⟨pn,sn,hpn,hsn,_,hcn,rfl⟩:=r1.get i0 (by omega:i<(l:Int));have call:=fun w26 (x26:EF w1 w26)=>IH x cx w26 (by have:=x_L hx';omega) (hoks' x hx') (hvx.keep (hx.then x26).keep);obtain ⟨xk,xb,xn,xt,xns,xxs⟩:=x;obtain ⟨a5,l5,c5,a6,l6,c6,rfl,-, -, -⟩:=w_8.1 hvx;obtain ⟨⟨_,_,g0⟩,-, ⟨_,_,g1⟩,-, ⟨_,_,g2⟩,-, ⟨_,_,g3⟩,-, ⟨_,_,g4⟩,-, ⟨_,_,g5⟩,-⟩:=hc;refine ⟨p,hp,⟨i0,hlt⟩,_,hx.cell g0 id,_,hx.cell g1 id,_,hx.cell g2 id,_,hx.cell g3 id,_,_,_,hx.cell g4 id,_,_,_,hx.cell g5 id,trivial,trivial,fun _=>?_,fun hno=>absurd (odf hno) (by omega)⟩;have x26:EF w1 (w1.alloc (.cells #[.int .i64 xk,.bool xb,.int .i64 xn,.string xt,.slice a5 l5 c5,.slice a6 l6 c6] 27)):=(Ext.refl w1).alloc _;rintro w27 hw27;have x27:EF w1 w27:=hw27▸x26.drew;clear hw27;have gn:=hcn.1.choose_spec.2;refine ⟨pn,hpn,⟨i0,by omega⟩,sn,(hx.then x27).cell gn id,(call w27 x27).mono ?_⟩;rintro _ w31 ⟨o,rfl,x31,ra31⟩;have z31:=x27.then x31;have hm31:GMap KS w31 w7.heap.size S:=hm.ext z31 id;obtain ⟨w33,r33,hm33,x33⟩:=x_K (P:=Tryz.prog) (u:=.string sn) (v:=ifcV o) u3 k1 trivial hm31;have hs31:=z31.size;have hs27:=x27.size;have hs33:=x33.size;refine ⟨o,rfl,⟨x31.keepT _,trivial⟩,⟨(((hx.then x27).then x31).cell gn id).trans ((hx.then x27).cell gn id).symm,rfl,trivial⟩,w33,r33,⟨y_S hm31 x33 _,trivial⟩,trivial,hK16 w33 ?_⟩;have sb:Sub (cutw (w7.heap.size+1) w1) (cutw (w7.heap.size+1) w33):=(Sub.new z31 (Nat.le_refl _)).trans (Sub.step x33 (Nat.le_refl _) fun b e hb=>by omega);have sb2:Sub (cutw w27.heap.size w31) (cutw (w7.heap.size+1) w33):=(Sub.new (Ext.refl _) (by omega)).trans (Sub.step x33 (Nat.le_refl (w7.heap.size+1)) fun b e hb=>by omega);rw [f_c (by omega) (by omega)];refine ⟨⟨by omega,by omega,(hx.then z31).trans x33 fun b hb e=>by have:=x7.size;omega,by omega,_,hm33,fun kk y hkk=>?_,fun j s hj hs=>?_⟩,by dsimp only;omega⟩
    ·rcases hkk with ⟨rfl,rfl⟩|⟨hne,hkk⟩
     ·refine ⟨sn,i.toNat,o,rfl,by omega,hsn,fun j' h1 h2=>by omega,rfl,x_z.2 ⟨_,hxs,RA.sub sb2 (by omega) ra31⟩⟩
     ·obtain ⟨s,j,o',rfl,h1,h2,h3,h4,h5⟩:=hS1 kk y hkk;obtain ⟨z,hz,h5⟩:=x_z.1 h5;refine ⟨s,j,o',rfl,by omega,h2,fun j' g1 g2 hs'=>?_,h4,x_z.2 ⟨z,hz,RA.sub sb (by omega) h5⟩⟩;by_cases hj':(j':Int)<i
      ·exact h3 j' g1 hj' hs'
      ·have:j'=i.toNat:=by omega
       subst this;rw [hsn] at hs';exact hne (by rw [Option.some.inj hs'])
    ·by_cases hsn':s=sn
     ·exact ⟨_,.inl ⟨by rw [hsn'],rfl⟩⟩
     ·by_cases hj':(j:Int)<i
      ·obtain ⟨y,hy⟩:=hS2 j s hj' hs;exact ⟨y,.inr ⟨fun e=>hsn' (by injection e),hy⟩⟩
      ·have:j=i.toNat:=by omega
       subst this;rw [hsn] at hs;exact absurd (Option.some.inj hs).symm hsn'
   ·have hge:=odf hge;refine ⟨_,rfl,hx,?_⟩;have sb:Sub (cutw (w7.heap.size+1) w1) (cutw w.heap.size w1):=Sub.new (Ext.refl _) (by omega);have hm':GMap KS (cutw w.heap.size w1) w7.heap.size S:=by
     obtain ⟨ents,cl,h1,h2⟩:=hm;exact ⟨ents,cl,by rw [x_h (by omega)];exact h1,h2⟩
    simp only [RA];refine ⟨by simp,by simp,by simp,by simp,fun _=>⟨w7.heap.size,S,rfl,by omega,hm',fun kk y hkk=>?_,fun s j hj=>?_⟩⟩
    ·obtain ⟨s,j,o',rfl,h1,h2,h3,h4,h5⟩:=hS1 kk y hkk;obtain ⟨z,hz,h5⟩:=x_z.1 h5;refine ⟨s,j,o',rfl,x_a.2 ⟨h2,fun j' hj' hs'=>?_⟩,h4,x_z.2 ⟨z,hz,RA.sub sb (Nat.le_refl _) h5⟩⟩;have:=(List.getElem?_eq_some_iff.1 hs').1;exact h3 j' hj' (by omega) hs'
    ·have h1:=(x_a.1 hj).1;have:=(List.getElem?_eq_some_iff.1 h1).1;exact hS2 j s (by omega) h1
  ·have h:k=0:=by
    simp at h1 h3 h4 h5;omega
   subst h;refine ⟨none,rfl,x7,?_⟩;simp [RA]
def NL (w:World)(a:OA)(l c:Nat)(av:Nat->Nat)(N:Nat):Prop:=l=N/\l<=16777216/\∀ i,i<N->∃ p,a=some p/\At w 72 (p.add i) (.pointer (some (adr (av (i+1)))))
theorem NL.ext {X:Nat->Prop}{w w':World}{a:OA}{l c:Nat}{av:Nat->Nat}{N:Nat}(h:NL w a l c av N)(hx:Ext X w w')(hX:∀ b cs fr,objAt w b=some (.cells cs 72 fr)->¬ X b):NL w' a l c av N:=by
 refine ⟨h.1,h.2.1,fun i hi=>?_⟩;obtain ⟨p,hp,hat⟩:=h.2.2 i hi;refine ⟨p,hp,hx.at (fun e=>?_) hat⟩;obtain ⟨cs,fr,h1,-⟩:=hat;exact hX _ _ _ h1 e
theorem NL.ext0 {w w':World}{a:OA}{l c:Nat}{av:Nat->Nat}{N:Nat}(h:NL w a l c av N)(hx:EF w w'):NL w' a l c av N:=h.ext hx fun _ _ _ _=>id
section
variable {w:World} {a:OA} {l c:Nat} {av:Nat->Nat} {N own:Nat}
theorem c_at (h:NL w a l c av N){n:Int}(hn:later N own n):CP 65 #[.slice a l c,.int .i64 n,.int .i64 (own:Int)] w fun e w'=>e=.returned (.pointer (ptr av n))/\w'=w:=by
 obtain ⟨hl,hl2,hat⟩:=h;refine z_B a l c n own w _ fun K4 hK4=>⟨fun h1=>hK4 _ _ ⟨fun h2=>?_,fun h2=>?_⟩,fun h1=>hK4 _ _ ⟨fun _=>?_,nofun⟩⟩
 ·have h1:=odf h1;have h2:=odt h2;rcases hn with hn|hn<;>omega
 ·have h1:=odf h1;have h2:=odf h2;rcases hn with hn|hn
  ·omega
  ·rw [n_k (by omega) (by omega)];obtain ⟨p,hp,ha⟩:=hat (n-1).toNat (by omega);refine ⟨p,hp,⟨by omega,by omega⟩,_,by rw [Nat.mul_one];exact ha.cell,?_,rfl⟩;rw [y_j (by omega),show (n-1).toNat+1=n.toNat by omega]
 ·have h1:=odt h1;rcases hn with rfl|hn
  ·exact ⟨rfl,rfl⟩
  ·omega
theorem Own.rsl {R:α->Value->Prop}{base:Nat}{T:TypeId}{ps:List Value}{xs:List α}(h:Own base w T 1 a l c ps)(hlen:ps.length=xs.length)(hR:∀ (i:Nat) y u,xs[i]? =some y->ps[i]? =some u->R y u):RSl (cutw base w) w.heap.size R a l c xs:=by
 have hl:=h.len;refine ⟨by omega,hl.2,fun i y hy=>?_⟩;have hi:=(List.getElem?_eq_some_iff.1 hy).1;obtain ⟨u,hu⟩:∃ u,ps[i]? =some u:=⟨_,List.getElem?_eq_getElem (by omega)⟩;obtain ⟨p,hp,hat⟩:=h.at hu;have hpb:=h.base p.block ⟨p,hp,rfl⟩;have e5:(p.add i).block=p.block:=by unfold Addr.add;split<;>rfl
 refine ⟨p,T,u,hp,hpb.2,?_,hR i y u hy hu⟩;obtain ⟨cs,fr,k1,k2,k3⟩:=hat;exact ⟨cs,fr,by rw [x_h (by omega)];exact k1,k2,k3⟩
theorem C_8 (h:NL w a l c av N){na:OA}{nl nc:Nat}{xs:List Int}(hr:RInts w na nl nc xs)(hxs:∀ n∈xs,later N own n/\n≠0):CP 90 #[.slice a l c,.slice na nl nc,.int .i64 (own:Int)] w fun e w'=>∃ A L C,e=.returned (.slice A L C)/\EF w w'/\RSl (cutw w.heap.size w') w'.heap.size (RPt av) A L C xs:=by
 have ht:Tryz.prog.underlying 101=some (.slice 72):=by kernel_rfl
 have hi:Tryz.prog.info? 72=some Tryz.t72:=by kernel_rfl
 obtain ⟨e1,e1'⟩:=hr.len;refine y_4 a l c na nl nc own w _ ⟨fun A L C i w1=>0<=i/\i<=nl/\EF w w1/\∃ ps:List Value,Own w.heap.size w1 72 1 A L C ps/\(ps.length:Int)=i/\∀ (j:Nat) y u,xs[j]? =some y->ps[j]? =some u->RPt av y u,fun _ _ _ i _=>((nl:Int)-i).toNat,⟨by omega,by omega,Ext.refl w,[],Own.nil ..,rfl,fun j y u _ h=>by simp at h⟩,?_⟩;rintro A L C i w1 ⟨i0,i1,hx,ps,hO,hps,hel⟩;have hL:L=ps.length:=by have:=hO.len.1;omega
 refine ⟨fun hlt K9 hK9=>?_,fun hge=>⟨A,L,C,rfl,hx,?_⟩⟩
 ·have hlt:=odt hlt;obtain ⟨p,x,hp,hxs',cs,hc,rfl⟩:=hr.get i0 hlt;obtain ⟨hlat,hne⟩:=hxs x (mg_ hxs');refine ⟨p,hp,⟨i0,hlt⟩,x,hx.cell hc.1.choose_spec.2 id,(c_at (h.ext0 hx) hlat).mono ?_⟩;rintro _ w15 ⟨rfl,hw⟩;obtain rfl:=hw.symm;clear hw;refine ⟨_,rfl,trivial,fun _=>?_,fun hno=>?_⟩
  ·have x17:EF w1 (w1.alloc (.cells #[.pointer (ptr av x)] 72)):=(Ext.refl _).alloc _;have hs:=hx.size;have hs17:=x17.size;have hO17:=hO.keep x17 fun _ _=>id;obtain ⟨A',C',w19,r,hO',xA,-⟩:=x_t (t:=101) (T:=72) ht hi (z:=.pointer none) (by kernel_rfl) (by kernel_rfl) (by
    have:Tryz.t72.bytes=8:=by kernel_rfl
    omega) rfl hO17 (by omega) (p:=adr w1.heap.size) (u:=.pointer (ptr av x)) (cat0 (w_3 _ _) rfl) rfl (by omega) 101 #[false,false]
   refine ⟨trivial,A',L+1,C',w19,r,trivial,hK9 _ _ _ _ ?_⟩;rw [f_c (by omega) (by omega)];refine ⟨⟨by omega,by omega,(hx.then x17).trans xA fun b hb hbl=>by have:=(hO.base b hbl).1;omega,ps++[.pointer (ptr av x)],hO',by simp;omega,fun j y u hy hu=>?_⟩,by dsimp only;omega⟩;by_cases hj:j<ps.length
   ·rw [List.getElem?_append_left hj] at hu;exact hel j y u hy hu
   ·have hjl:j=ps.length:=by
     have:=(List.getElem?_eq_some_iff.1 hu).1;rw [la_,List.length_singleton] at this;omega
    subst hjl;rw [List.getElem?_append_right (Nat.le_refl _),Nat.sub_self] at hu;rw [show i.toNat=ps.length by omega] at hxs';rw [hxs'] at hy;cases hy;have hu:Value.pointer (ptr av x)=u:=by simpa using hu
    rw [<- hu,y_j hne]
  ·rw [w_5,decide_eq_false hne] at hno;cases hno
 ·have hge:=odf hge;exact hO.rsl (by omega) hel
theorem y_F {xs:List BA}(hr:RStrs w a l c xs):CP 94 #[.slice a l c] w fun e w'=>∃ A L C,e=.returned (.slice A L C)/\EF w w'/\RSl (cutw w.heap.size w') w'.heap.size RStr A L C xs:=by
 have ht:Tryz.prog.underlying 24=some (.slice 9):=by kernel_rfl
 have hi:Tryz.prog.info? 9=some Tryz.t9:=by kernel_rfl
 have hz:Tryz.t9.zero=some (.string ⟨#[]⟩):=by kernel_rfl
 have hs:Tryz.t9.size=1:=by kernel_rfl
 have hb:Tryz.t9.bytes=16:=by kernel_rfl
 obtain ⟨e1,e1'⟩:=hr.len;have x2:EF w (w.alloc (.cells #[] 9)):=(Ext.refl w).alloc _;have hm:Own w.heap.size (w.alloc (.cells #[] 9)) 9 1 (some (adr w.heap.size)) 0 0 []:=Own.made w.heap.size w 9 1 0 #[] (Nat.le_refl _) (Nat.zero_le _) rfl;obtain ⟨A,C,w',r,⟨cells,hO,hf⟩,x,-⟩:=c_7 (R:=fun s cs=>cs=[Value.string s]) (xs:=[]) 24 9 Tryz.t9 (.string ⟨#[]⟩) 1 16 ht hi hz hs hb rfl (by decide) (by decide) hm x2.size Flat.nil (hr.keep x2.keep) (fun x cs e=>by rw [e];rfl) (by omega) 24 #[false,false];rw [Nat.zero_add] at r hO;rw [List.nil_append] at hf;refine A_s a l c w _ ⟨A,l,C,w',r,trivial,A,l,C,rfl,x2.trans x fun b hb hbl=>by
  obtain ⟨p,hp,e⟩:=hbl;cases hp;exact absurd e (by show w.heap.size≠b;omega),?_⟩
 have hlc:cells.length=xs.length:=by have:=hO.len.1;omega
 refine hO.rsl hlc fun i y u hy hu=>?_;obtain ⟨cs,g1,g2,g3,g4⟩:=hf.get i y hy;subst g3;have:=g4 0 (.string y) rfl;rw [Nat.mul_one,Nat.add_zero] at this;rw [hu] at this;exact Option.some.inj this
theorem y_c (x:JLim)(w:World):CP 93 #[.agg #[.bool x.is,.int .i64 x.n]] w fun e w'=>∃ q,e=.returned (.pointer q)/\EF w w'/\RLim (cutw w.heap.size w') w'.heap.size x (.pointer q):=by
 have x3:EF w (w.alloc (.cells #[.bool x.is,.int .i64 x.n] 34)):=(Ext.refl w).alloc _;have s3:(w.alloc (.cells #[.bool x.is,.int .i64 x.n] 34)).heap.size=w.heap.size+1:=Array.size_push _;refine A_S x.is x.n w _ ⟨trivial,x.is,cat0 (w_3 _ _) rfl,fun h=>⟨none,rfl,x3,?_⟩,fun h=>⟨_,rfl,x3,?_⟩⟩
 ·have h:x.is=false:=by simpa using h
  unfold RLim;rw [if_neg (by rw [h];decide)]
 ·have h:x.is=true:=by simpa using h
  unfold RLim;rw [if_pos h];exact ⟨w.heap.size,34,(0,0),.bool x.is,rfl,by omega,by rw [x_h (Nat.le_refl _)];exact w_3 _ _⟩
theorem A_B {w w':World}{base:Nat}{xs:List BA}{A:OA}{L C:Nat}(hR:RSl (cutw base w) w.heap.size RStr A L C xs)(hb:base<=w.heap.size):RTak (cutw base (w.alloc (.cells #[.slice A L C] 152))) (w.heap.size+1) w.heap.size xs:=
 ⟨Nat.lt_succ_self _,A,L,C,152,(0,0),by rw [x_h hb];exact w_3 _ _,hR.sub (Sub.new ((Ext.refl w).alloc _) (Nat.le_refl _)) (Nat.le_succ _)⟩
theorem A_5 {xs:List BA}(hr:RStrs w a l c xs):CP 95 #[.slice a l c] w fun e w'=>∃ b tb cb,e=.returned (.pointer (some (adr b)))/\EF w w'/\w.heap.size<=b/\b<w'.heap.size/\objAt w' b=some (.cells #[.string ⟨#[]⟩,.func (.func 114) #[] #[.pointer (some (adr cb))]] 193 (0,0))/\
  w.heap.size<=cb/\cb<w'.heap.size/\objAt w' cb=some (.cells #[.pointer (some (adr tb))] 149 (0,0))/\RTak (cutw w.heap.size w') w'.heap.size tb xs:=by
 refine z_A a l c w _ ((y_F hr).mono ?_);rintro _ w3 ⟨A,L,C,rfl,x3,hR⟩;have hs3:=x3.size;have x5:EF w3 (w3.alloc (.cells #[.slice A L C] 152)):=(Ext.refl _).alloc _;have s5:(w3.alloc (.cells #[.slice A L C] 152)).heap.size=w3.heap.size+1:=Array.size_push _;have t5:=A_B (w':=w3) hR hs3;refine ⟨A,L,C,rfl,trivial,trivial,trivial,?_⟩;generalize hw5:w3.alloc (.cells #[.slice A L C] 152)=w5 at *;have x6:EF w5 (w5.alloc (.cells #[.pointer none] 149)):=(Ext.refl _).alloc _;have o6:=w_3 w5 (.cells #[.pointer none] 149);have s6:(w5.alloc (.cells #[.pointer none] 149)).heap.size=w5.heap.size+1:=Array.size_push _;refine ⟨trivial,⟨_,_,o6,rfl,by simp,rfl⟩,trivial,trivial,trivial,?_⟩;have x7:=x6.trans (w_1 (w:=w5.alloc (.cells #[.pointer none] 149)) (b:=w5.heap.size) (i:=0) (.pointer (some (adr w3.heap.size)))) (X:=fun _=>False) fun k hk e=>by omega
 have o7:objAt ((w5.alloc (.cells #[.pointer none] 149)).setCell (adr w5.heap.size) (.pointer (some (adr w3.heap.size)))) w5.heap.size=some (.cells #[.pointer (some (adr w3.heap.size))] 149 (0,0)):=w_4 o6 (i:=0) _;have s7:((w5.alloc (.cells #[.pointer none] 149)).setCell (adr w5.heap.size) (.pointer (some (adr w3.heap.size)))).heap.size=w5.heap.size+1:=by
  rw [<- s6];simp [World.setCell]
 have x7:EF w5 ((w5.alloc (.cells #[.pointer none] 149)).setCell (adr w5.heap.size) (.pointer (some (adr w3.heap.size)))):=x7;generalize (w5.alloc (.cells #[.pointer none] 149)).setCell (adr w5.heap.size) (.pointer (some (adr w3.heap.size)))=w7 at *;have x8:EF w7 (w7.alloc (.cells #[.string ⟨#[]⟩,.func (.func 114) #[] #[.pointer (some (adr w5.heap.size))]] 193)):=(Ext.refl _).alloc _;have s8:(w7.alloc (.cells #[.string ⟨#[]⟩,.func (.func 114) #[] #[.pointer (some (adr w5.heap.size))]] 193)).heap.size=w7.heap.size+1:=Array.size_push _;refine ⟨w7.heap.size,w3.heap.size,w5.heap.size,rfl,(((x3.then x5).then x7).then x8),by omega,by omega,w_3 _ _,by omega,by omega,x8.old _ _ id o7,RTak.sub t5 (Sub.new (x7.then x8) (Nat.le_refl _)) (by omega)⟩
end
abbrev KTk (k:Value):Prop:=∃ tb,k=.iface 149 (.pointer (some (adr tb)))
theorem y_0:∃ ms,Tryz.prog.underlying 113=some (.interface ms):=by
 have h:(match Tryz.prog.underlying 113 with |some (.interface _)=>true|_=>false)=true:=by kernel_rfl
 cases e:Tryz.prog.underlying 113 with
 | none=>rw [e] at h;cases h
 | some d=>cases d<;>first|exact ⟨_,rfl⟩|(rw [e] at h;cases h)
theorem D_k {w:World}{tb:Nat}(hne:t0≠tb)(h0:∃ cs T,objAt w t0=some (.cells cs T (0,0)))(hb:∃ cs T,objAt w tb=some (.cells cs T (0,0))):(Op.equal 113 (.iface 149 (.pointer (some (adr t0)))) (.iface 149 (.pointer (some (adr tb))))).run Tryz.prog w=.ok false w:=by
 obtain ⟨c0,T0,h0⟩:=h0;obtain ⟨cb,Tb,hb⟩:=hb;obtain ⟨ms,hu⟩:=y_0;have hp:Tryz.prog.underlying 149=some (.pointer 152):=by kernel_rfl
 have hi:Tryz.prog.info? 149=some Tryz.t149:=by kernel_rfl
 have hc:Tryz.t149.comparable=true:=by kernel_rfl
 have hte:Tryz.prog.info? 152=some Tryz.t152:=by kernel_rfl
 have hsz:Tryz.t152.size≠0:=by
  have:Tryz.t152.size=1:=by kernel_rfl
  omega
 have hs:=run_sameAddr_other (P:=Tryz.prog) w (a:=adr t0) (b:=adr tb) (fun e=>hne (by injection e)) h0 hb;have q1:∀ d:Nat,(Op.equalIn (d+1) 149 (.pointer (some (adr t0))) (.pointer (some (adr tb)))).run Tryz.prog w=.ok false w:=fun d=>by
  simp [Op.equalIn,run_underlying hp,sizeOf,typeInfo,hte,hsz,hs]
 have q2:∀ d:Nat,(Op.equalIn (d+2) 113 (.iface 149 (.pointer (some (adr t0)))) (.iface 149 (.pointer (some (adr tb))))).run Tryz.prog w=.ok false w:=fun d=>by
  rw [Op.equalIn];simp [run_underlying hu,typeInfo,hi,hc,q1]
 exact q2 9998
theorem B_t {w:World}(h0:∃ cs T,objAt w t0=some (.cells cs T (0,0))):∀ (l:List MapEntry) (i:Nat),(∀ e∈l,∃ tb,e.key=.iface 149 (.pointer (some (adr tb)))/\t0≠tb/\∃ cs T,objAt w tb=some (.cells cs T (0,0)))->(Instr.findAsking 113 (.iface 149 (.pointer (some (adr t0)))) l i).run Tryz.prog w=.ok none w
 | [],i,_=>rfl
 | e::l,i,h=>by
  obtain ⟨tb,hk,hne,hb⟩:=h e (List.mem_cons_self ..);have ih:=B_t h0 l (i+1) fun e he=>h e (List.mem_cons_of_mem _ he);rw [Instr.findAsking];simp [hk,D_k hne h0 hb,ih]
theorem e_z {w:World}(h0:∃ cs T,objAt w t0=some (.cells cs T (0,0)))(l:List MapEntry)(h:∀ e∈l,∃ tb,e.key=.iface 149 (.pointer (some (adr tb)))/\t0≠tb/\∃ cs T,objAt w tb=some (.cells cs T (0,0))):(Instr.findKey 113 (.iface 149 (.pointer (some (adr t0)))) l).run Tryz.prog w=.ok none w:=by
 obtain ⟨ms,hu⟩:=y_0;have ha:=B_t h0 l 0 h;cases l with
 | nil=>simp [Instr.findKey,run_underlying hu,Instr.findNow]
 | cons e l=>simp [Instr.findKey,run_underlying hu,Instr.findNow,Instr.sameNow,ha]
theorem B_p {w:World}{b:Nat}(h0:∃ cs T,objAt w t0=some (.cells cs T (0,0)))(hm:GMap KTk w b S)(hS:∀ tb y,S (.iface 149 (.pointer (some (adr tb)))) y->t0≠tb/\∃ cs T,objAt w tb=some (.cells cs T (0,0)))(v:Value):
  ∃ w',(Instr.mapUpdate 109 (.map (some b)) (.iface 149 (.pointer (some (adr t0)))) v).run Tryz.prog w=.ok () w'/\GMap KTk w' b (fun k x=>(k=.iface 149 (.pointer (some (adr t0)))/\x=v)∨S k x)/\Ext (fun k=>k=b) w w':=by
 obtain ⟨ents,cl,h1,h2,h3,h4⟩:=hm;obtain ⟨ms,hu⟩:=y_0;have um:Tryz.prog.underlying 109=some (.map 113 72):=by kernel_rfl
 have hp:Tryz.prog.underlying 149=some (.pointer 152):=by kernel_rfl
 have hi:Tryz.prog.info? 149=some Tryz.t149:=by kernel_rfl
 have hc:Tryz.t149.comparable=true:=by kernel_rfl
 have hb:w.heap[b]? =some (.map ents cl):=h1;have hlt:b<w.heap.size:=a_3 h1;have hent:∀ e∈ents.toList,∃ tb,e.key=.iface 149 (.pointer (some (adr tb)))/\t0≠tb/\∃ cs T,objAt w tb=some (.cells cs T (0,0)):=fun e he=>by
  obtain ⟨tb,hk⟩:=h3 e he;have:=hS tb e.val ((h4 _ _).2 ⟨e,he,hk,rfl⟩);exact ⟨tb,hk,this⟩
 have hck:(Instr.checkKey false 10000 113 (.iface 149 (.pointer (some (adr t0))))).run Tryz.prog w=.ok () w:=by
  have h9:(Instr.checkKey false 9999 149 (.pointer (some (adr t0)))).run Tryz.prog w=.ok () w:=by
   unfold Instr.checkKey;simp [run_underlying hp]
  unfold Instr.checkKey;simp [run_underlying hu,typeInfo,hi,hc,h9]
 have hf:=e_z h0 ents.toList hent;have hno:∀ e∈ents.toList,e.key≠ .iface 149 (.pointer (some (adr t0))):=fun e he hk=>by
  obtain ⟨tb,hk',hne,-⟩:=hent e he;rw [hk] at hk';simp at hk';exact hne hk'
 refine ⟨{ w with heap:=w.heap.setIfInBounds b (.map (ents.push { key:=.iface 149 (.pointer (some (adr t0))),val:=v,born:=cl}) (cl+1))},?_,⟨_,_,A_C hlt _,MapKept.stamped_push h2 hno,fun x hx=>?_,fun k x=>?_⟩,A_l _⟩
 ·simp [Instr.mapUpdate,Sem.run_bind,run_underlying um,getObj,setObj,Sem.run,hb,hck,hf,Result.andThen]
 ·simp only [Array.toList_push,ma_,List.mem_singleton] at hx;rcases hx with hx|rfl
  ·exact h3 x hx
  ·exact ⟨t0,rfl⟩
 ·simp only [Array.toList_push,ma_,List.mem_singleton];constructor
  ·rintro (⟨rfl,rfl⟩|hs)
   ·exact ⟨_,.inr rfl,rfl,rfl⟩
   ·obtain ⟨y,hy,q⟩:=(h4 _ _).1 hs;exact ⟨y,.inl hy,q⟩
  ·rintro ⟨y,hy|rfl,rfl,rfl⟩
   ·exact .inr ((h4 _ _).2 ⟨y,hy,rfl,rfl⟩)
   ·exact .inl ⟨rfl,rfl⟩
theorem E_I (s:BA)(w:World):CP 112 #[.string s] w fun e w'=>e=.returned (.int .i64 (bitK s:Nat))/\w'=w:=by
 have fin:∀ n:Nat,bitK s=n->Ending.returned (.int .i64 (n:Int))=Ending.returned (.int .i64 (bitK s:Nat))/\w=w:=fun n e=>⟨by rw [e],rfl⟩;refine y_z s w _ ⟨fun h=>?_,fun h0=>⟨fun h=>?_,fun h1=>⟨fun h=>?_,fun h2=>⟨fun h=>?_,fun h3=>⟨fun h=>?_,fun h4=>⟨fun h=>?_,fun h5=>⟨fun h=>?_,fun h6=>?_⟩⟩⟩⟩⟩⟩⟩
 ·exact fin 2 (by unfold bitK;rw [if_pos (a_b.1 h)])
 ·exact fin 4 (by unfold bitK;rw [if_neg (a_f.1 h0),if_pos (a_b.1 h)])
 ·exact fin 8 (by unfold bitK;rw [if_neg (a_f.1 h0),if_neg (a_f.1 h1),if_pos (a_b.1 h)])
 ·exact fin 16 (by unfold bitK;rw [if_neg (a_f.1 h0),if_neg (a_f.1 h1),if_neg (a_f.1 h2),if_pos (a_b.1 h)])
 ·exact fin 32 (by unfold bitK;rw [if_neg (a_f.1 h0),if_neg (a_f.1 h1),if_neg (a_f.1 h2),if_neg (a_f.1 h3),if_pos (a_b.1 h)])
 ·exact fin 64 (by unfold bitK;rw [if_neg (a_f.1 h0),if_neg (a_f.1 h1),if_neg (a_f.1 h2),if_neg (a_f.1 h3),if_neg (a_f.1 h4),if_pos (a_b.1 h)])
 ·exact fin 128 (by unfold bitK;rw [if_neg (a_f.1 h0),if_neg (a_f.1 h1),if_neg (a_f.1 h2),if_neg (a_f.1 h3),if_neg (a_f.1 h4),if_neg (a_f.1 h5),if_pos (a_b.1 h)])
 ·exact fin 0 (by unfold bitK;rw [if_neg (a_f.1 h0),if_neg (a_f.1 h1),if_neg (a_f.1 h2),if_neg (a_f.1 h3),if_neg (a_f.1 h4),if_neg (a_f.1 h5),if_neg (a_f.1 h6)])
theorem D_R {w:World}{b m:Nat}{T:TypeId}(h:objAt w b=some (.cells #[.int .i64 (m:Int)] T (0,0)))(hm:m<256){t:Nat}(ht:t<256):CP 111 #[.pointer (some (adr b)),.int .i64 (t:Int)] w fun e w'=>e=.returned (.tuple #[])/\objAt w' b=some (.cells #[.int .i64 ((m ||| t:Nat):Int)] T (0,0))/\Ext (fun k=>k=b) w w':=by
 refine z_T (some (adr b)) t w _ ⟨_,rfl,_,cat0 h rfl,_,w,i_n nofun nofun,E_f (by omega) (by omega) w _,trivial,_,rfl,⟨_,_,h,rfl,by simp,rfl⟩,trivial,rfl,?_,?_⟩
 ·exact w_4 h (i:=0) _
 ·exact w_1 (i:=0) _
theorem E_o {w:World}{b m:Nat}{T:TypeId}(h:objAt w b=some (.cells #[.int .i64 (m:Int)] T (0,0)))(hm:m<256)(s:BA):CP 91 #[.pointer (some (adr b)),.string s] w fun e w'=>e=.returned (.tuple #[])/\objAt w' b=some (.cells #[.int .i64 ((m ||| bitK s:Nat):Int)] T (0,0))/\Ext (fun k=>k=b) w w':=by
 refine z_S (some (adr b)) s w _ ((E_I s w).mono ?_);rintro _ w4 ⟨rfl,hw⟩;obtain rfl:=hw.symm;clear hw;refine ⟨_,rfl,trivial,(D_R h hm (A_0 s)).mono ?_⟩;rintro _ w7 ⟨rfl,h1,h2⟩;exact ⟨rfl,trivial,rfl,h1,h2⟩
theorem C_s {w:World}{B:Nat}{a:OA}{l c:Nat}{xs:List JV}(h:RArr w B xs a l c)(hl:l<=4194304)(hok:∀ x∈xs,okJ x):CP 92 #[.slice a l c] w fun e w'=>∃ b,e=.returned (.pointer (some (adr b)))/\w.heap.size<=b/\b<w'.heap.size/\EF w w'/\objAt w' b=some (.cells #[.slice a l c,.int .i64 ((xs.foldl (fun n v=>n ||| bitV v) 0:Nat):Int)] 224 (0,0)):=by
 have hlx:l=xs.length:=h.1;refine A_U a l c w _ ?_;have key:CP 113 #[.slice a l c] w fun e w'=>∃ b,e=.returned (.pointer (some (adr b)))/\w.heap.size<=b/\b<w'.heap.size/\EF w w'/\objAt w' b=some (.cells #[.slice a l c,.int .i64 ((xs.foldl (fun n v=>n ||| bitV v) 0:Nat):Int)] 224 (0,0)):=by
  have x2:EF w (w.alloc (.cells #[.int .i64 0] 145)):=(Ext.refl w).alloc _;refine A_V a l c w _ ⟨trivial,fun i w1=>0<=i/\i<=l/\EF w w1/\objAt w1 w.heap.size=some (.cells #[.int .i64 (((xs.take i.toNat).foldl (fun n v=>n ||| bitV v) 0:Nat):Int)] 145 (0,0)),fun i _=>((l:Int)-i).toNat,⟨by omega,by omega,x2,w_3 _ _⟩,?_⟩;rintro i w1 ⟨i0,i1,hx,ho⟩;refine ⟨fun hlt=>?_,fun hge=>?_⟩
  ·have hlt:=odt hlt;have hil:i.toNat<xs.length:=by omega
   obtain ⟨p,o',hp,hcell,hra⟩:=(h.ext hx fun _ e=>e.elim).get (List.getElem?_eq_getElem hil);refine ⟨p,hp,⟨i0,hlt⟩,o',by rw [Nat.mul_one];exact hcell,(A_h (hok _ (List.getElem_mem hil)) hra).mono ?_⟩;rintro _ w10 ⟨rfl,hw⟩;obtain rfl:=hw.symm;clear hw;refine ⟨_,rfl,trivial,(D_R ho (A_m z_f _ 0 (by omega)) (z_f _)).mono ?_⟩;rintro _ w13 ⟨rfl,ho',hx'⟩;rw [f_c (by omega) (by omega)];refine ⟨rfl,trivial,⟨by omega,by omega,hx.trans hx' fun b hb e=>by omega,?_⟩,by dsimp only;omega⟩;rw [take_succ i0 (List.getElem?_eq_getElem hil),List.foldl_append];exact ho'
  ·have hge:=odf hge;have x15:EF w1 (w1.alloc (.cells #[.slice a l c,.int .i64 (((xs.take i.toNat).foldl (fun n v=>n ||| bitV v) 0:Nat):Int)] 224)):=(Ext.refl _).alloc _;have s15:(w1.alloc (.cells #[.slice a l c,.int .i64 (((xs.take i.toNat).foldl (fun n v=>n ||| bitV v) 0:Nat):Int)] 224)).heap.size=w1.heap.size+1:=Array.size_push _;refine ⟨_,cat0 ho rfl,trivial,trivial,w1.heap.size,rfl,hx.size,by omega,hx.then x15,?_⟩;have:xs.take i.toNat=xs:=tl_ (by omega);rw [this];exact w_3 _ _
 refine key.mono ?_;rintro _ w3 ⟨b,rfl,h1,h2,h3,h4⟩;exact ⟨_,rfl,trivial,b,rfl,h1,h2,h3,h4⟩
theorem x_p {f:α->BA}{q r:α}:∀ l:List α,r∈lasts f (l++[q])↔r=q∨(f r≠f q/\r∈lasts f l)
 | []=>by simp [lasts]
 | x::l=>by
  have ih:=x_p (f:=f) (q:=q) (r:=r) l;rw [List.cons_append];unfold lasts;rw [List.any_append];by_cases h1:l.any (fun y=>decide (f y=f x))=true
  ·rw [h1,if_pos rfl,Bool.true_or,if_pos rfl];exact ih
  ·rw [Bool.not_eq_true] at h1;simp only [h1,Bool.false_or,List.any_cons,List.any_nil,Bool.or_false,Bool.false_eq_true,if_false,decide_eq_true_eq];by_cases h2:f q=f x
   ·rw [if_pos h2,ih,mc_];constructor
    ·rintro (h|⟨h,h'⟩)
     ·exact .inl h
     ·exact .inr ⟨h,.inr h'⟩
    ·rintro (h|⟨h,rfl|h'⟩)
     ·exact .inl h
     ·exact absurd h2.symm h
     ·exact .inr ⟨h,h'⟩
   ·rw [if_neg h2,mc_,ih,mc_];constructor
    ·rintro (rfl|h|⟨h,h'⟩)
     ·exact .inr ⟨fun e=>h2 e.symm,.inl rfl⟩
     ·exact .inl h
     ·exact .inr ⟨h,.inr h'⟩
    ·rintro (h|⟨h,rfl|h'⟩)
     ·exact .inr (.inl h)
     ·exact .inl rfl
     ·exact .inr (.inr ⟨h,h'⟩)
section
variable {w:World} {a:OA} {l c:Nat} {av:Nat->Nat} {N own:Nat}
theorem C_t (h:NL w a l c av N){na:OA}{nl nc:Nat}{xs:List JPr}(hr:RJPrs w na nl nc xs)(hxs:∀ q∈xs,later N own q.node/\q.node≠0):CP 96 #[.slice a l c,.slice na nl nc,.int .i64 (own:Int)] w fun e w'=>∃ m,e=.returned (.map m)/\EF w w'/\RPrM (cutw w.heap.size w') w'.heap.size av xs (.map m):=by
 have um:Tryz.prog.underlying 108=some (.map 9 72):=by kernel_rfl
 have k1:Tryz.prog.underlying 9=some .string:=by kernel_rfl
 obtain ⟨e1,e1'⟩:=hr.len;have x4:EF w (w.alloc (.map #[] 0)):=(Ext.refl _).alloc _;refine y_L a l c na nl nc own w _ ⟨fun i w1=>0<=i/\i<=nl/\EF w w1/\∃ S,GMap KS w1 w.heap.size S/\∀ k y,S k y↔∃ q∈lasts JPr.name (xs.take i.toNat),k=.string q.name/\y=.pointer (some (adr (av q.node.toNat))),fun i _=>((nl:Int)-i).toNat,⟨by omega,by omega,x4,_,GMap.made KS w,by simp [lasts]⟩,?_⟩;rintro i w1 ⟨i0,i1,hx,S,hm,hS⟩;refine ⟨fun hlt K9 hK9=>?_,fun hge=>?_⟩
 ·have hlt:=odt hlt;obtain ⟨p,x,hp,hxs',cs,hc,rfl⟩:=hr.get i0 hlt;obtain ⟨hlat,hne⟩:=hxs x (mg_ hxs');obtain ⟨⟨_,_,g0⟩,-, ⟨_,_,g1⟩,-⟩:=hc;have x15:EF w1 (w1.alloc (.cells #[.string x.name,.int .i64 x.node] 90)):=(Ext.refl _).alloc _;refine ⟨p,hp,⟨i0,hlt⟩,_,hx.cell g0 id,_,hx.cell g1 id,trivial,trivial,(c_at (h.ext0 (hx.then x15)) hlat).mono ?_⟩;rintro _ w17 ⟨rfl,hw17⟩;have y17:EF w1 w17:=hw17▸x15;have k17:KeepT 90 (w1.alloc (.cells #[.string x.name,.int .i64 x.node] 90)) w17:=hw17▸(Ext.refl _).keepT _;clear hw17;refine ⟨_,rfl,⟨k17,trivial⟩,fun _=>?_,fun hno=>?_⟩
  ·have hm17:GMap KS w17 w.heap.size S:=hm.ext y17 id;obtain ⟨w19,r19,hm19,x19⟩:=x_K (P:=Tryz.prog) (u:=.string x.name) (v:=.pointer (ptr av x.node)) um k1 trivial hm17;refine ⟨w19,r19,⟨y_S hm17 x19 _,trivial⟩,hK9 w19 ?_⟩;rw [f_c (by omega) (by omega)];refine ⟨⟨by omega,by omega,(hx.then y17).trans x19 fun b hb e=>by omega,_,hm19,fun k y=>?_⟩,by dsimp only;omega⟩;rw [take_succ i0 hxs',y_j hne];constructor
   ·rintro (⟨rfl,rfl⟩|⟨hk,hs⟩)
    ·exact ⟨x,(x_p _).2 (.inl rfl),rfl,rfl⟩
    ·obtain ⟨q,hq,rfl,rfl⟩:=(hS k y).1 hs;exact ⟨q,(x_p _).2 (.inr ⟨fun e=>hk (by rw [e]),hq⟩),rfl,rfl⟩
   ·rintro ⟨q,hq,rfl,rfl⟩;rcases (x_p _).1 hq with rfl|⟨hn,hq⟩
    ·exact .inl ⟨rfl,rfl⟩
    ·exact .inr ⟨fun e=>hn (by injection e),(hS _ _).2 ⟨q,hq,rfl,rfl⟩⟩
  ·rw [w_5,decide_eq_false hne] at hno;cases hno
 ·have hge:=odf hge;have:xs.take i.toNat=xs:=tl_ (by omega);rw [this] at hS;refine ⟨_,rfl,hx,w.heap.size,S,rfl,hm.lt,?_,hS⟩;obtain ⟨ents,cl,h1,h2⟩:=hm;exact ⟨ents,cl,by rw [x_h (Nat.le_refl _)];exact h1,h2⟩
def moreV (av:Nat->Nat)(m:JMo):Value:=if m.k=0 then .nilIface else if m.k=3 then .iface 72 (.pointer (some (adr (av m.node.toNat)))) else .iface 4 (.bool (decide (m.k=1)))
theorem D_T (h:NL w a l c av N){m:JMo}(hk:0<=m.k/\m.k<=3)(hn:later N 0 m.node/\(m.k=3->m.node≠0)):CP 97 #[.slice a l c,.agg #[.int .i64 m.k,.int .i64 m.node]] w fun e w'=>∃ o,e=.returned (ifcV o)/\EF w w'/\ifcV o=moreV av m:=by
 have x4:EF w (w.alloc (.cells #[.int .i64 m.k,.int .i64 m.node] 41)):=(Ext.refl _).alloc _;refine y_W a l c m.k m.node w _ ⟨trivial,fun K5 hK5=>⟨fun h1=>?_,fun h1=>⟨fun h2=>?_,fun h2=>⟨fun h3=>?_,fun h3=>hK5 _ ⟨none,rfl,x4,?_⟩⟩⟩⟩⟩
 ·have h1:m.k=1:=by simpa using h1
  refine ⟨_,rfl,x4,?_⟩;unfold moreV;rw [if_neg (by omega),if_neg (by omega),h1];rfl
 ·have h2:m.k=2:=by simpa using h2
  refine ⟨_,rfl,x4,?_⟩;unfold moreV;rw [if_neg (by omega),if_neg (by omega),h2];rfl
 ·have h3:m.k=3:=by simpa using h3
  refine (c_at (h.ext0 x4) hn.1).mono ?_;rintro _ w8 ⟨rfl,hw⟩;have x8:EF w w8:=hw▸x4;have k8:KeepT 41 (w.alloc (.cells #[.int .i64 m.k,.int .i64 m.node] 41)) w8:=hw▸(Ext.refl _).keepT _;clear hw;refine ⟨_,rfl,⟨k8,trivial⟩,fun _=>⟨_,rfl,x8,?_⟩,fun hno=>?_⟩
  ·unfold moreV;rw [if_neg (by omega),if_pos h3,y_j (hn.2 h3)];rfl
  ·rw [w_5,decide_eq_false (hn.2 h3)] at hno;cases hno
 ·unfold moreV;simp at h1 h2 h3;rw [if_pos (by omega)];rfl
end
structure SS (w0:World) (N0 sb:Nat) (w:World) (cs:Array Value) (F:World->Prop):Prop where
 x:Ext (fun k=>k=sb) w0 w
 o0:∃ c0,objAt w0 sb=some (.cells c0 116 (0,0))
 o:objAt w sb=some (.cells cs 116 (0,0))
 sz:cs.size=53
 sbl:sb<N0
 n0:N0<=w0.heap.size
 db:DB.B<=sb
 f:∀ w',Ext (fun k=>k=sb) w w'->F w'
section
variable {w0:World} {N0 sb:Nat} {w:World} {cs:Array Value} {F:World->Prop}
theorem SS.step (h:SS w0 N0 sb w cs F){w':World}{cs':Array Value}(hx:Ext (fun k=>k=sb) w w')(o':objAt w' sb=some (.cells cs' 116 (0,0)))(hz:cs'.size=53):SS w0 N0 sb w' cs' F:=
 ⟨h.x.trans hx fun _ _ e=>e,h.o0,o',hz,h.sbl,h.n0,h.db,fun w2 h2=>h.f w2 (hx.trans h2 fun _ _ e=>e)⟩
theorem SS.ext (h:SS w0 N0 sb w cs F){w':World}(hx:EF w w'):SS w0 N0 sb w' cs F:=h.step (hx.mono fun _ _ e=>e.elim) (hx.old _ _ id h.o) h.sz
theorem SS.set (h:SS w0 N0 sb w cs F)(i:Nat)(v:Value):SS w0 N0 sb (w.setCell ((adr sb).add i) v) (cs.setIfInBounds i v) F:=h.step (w_1 v) (w_4 h.o v) (by rw [Array.size_setIfInBounds];exact h.sz)
theorem SS.add (h:SS w0 N0 sb w cs F){G:World->Prop}(hG:∀ w',Ext (fun k=>k=sb) w w'->G w'):SS w0 N0 sb w cs fun w=>F w/\G w:={ h with f:=fun w' h'=>⟨h.f w' h',hG w' h'⟩}
theorem SS.name (h:SS w0 N0 sb w cs F):∃ (cs':Array Value) (F':World->Prop),cs'=cs/\(∀ w,F' w->F w)/\SS w0 N0 sb w cs' F':=⟨cs,F,rfl,fun _ h=>h,h⟩
theorem SS.off (h:SS w0 N0 sb w cs F)(hi:i<52):∃ (cs:Array Value) (T:TypeId),objAt w ((adr sb).add i).block=some (.cells cs T (0,0))/\((adr sb).add i).spot=none/\((adr sb).add i).off+1<=cs.size/\(Nat.beq 44 T||false)=false:=by
 refine ⟨cs,116,?_⟩;rw [Addr.add_lit];exact ⟨h.o,rfl,by have:=h.sz;simp only;omega,by decide⟩
theorem SS.keepD (h:SS w0 N0 sb w cs F):Keep w0 w:=fun T T' a v ht ho hat=>by
 refine h.x.at (fun e=>?_) hat;obtain ⟨c0,h0⟩:=h.o0;obtain ⟨cs1,fr,h1,-⟩:=hat;have e:a.block=sb:=e;rw [e,h0] at h1;simp only [Option.some.injEq,Obj.cells.injEq] at h1;obtain ⟨-, rfl,-⟩:=h1;rcases ho with rfl|ho
 ·cases ht
 ·have:=h.db;omega
theorem SS.nl (h:SS w0 N0 sb w cs F){a:OA}{l c:Nat}{av:Nat->Nat}{N:Nat}(hN:NL w0 a l c av N):NL w a l c av N:=hN.ext h.x fun b cs' fr hb e=>by
 obtain ⟨c0,h0⟩:=h.o0;have e:b=sb:=e;rw [e,h0] at hb;cases hb
theorem SS.n1 (h:SS w0 N0 sb w cs F):N0<=w.heap.size:=lt_ h.n0 h.x.size
theorem SS.lift (h:SS w0 N0 sb w cs F){wB w':World}(hw:Ext (fun k=>k=sb) wB w'):Sub (cutw w.heap.size wB) (cutw N0 w'):=Sub.step hw h.n1 fun b e hb _ _=>by
 have:=h.sbl;have:=h.n1;have e:b=sb:=e;omega
theorem D_P {cs:Array Value}{v:Value}(h:cs[i]? =some v):cs.setIfInBounds i v=cs:=by
 apply Array.ext_getElem?;intro j;rw [Array.getElem?_setIfInBounds];split
 ·rename_i e;subst e;obtain ⟨hi,-⟩:=Array.getElem?_eq_some_iff.1 h;rw [if_pos hi,h]
 ·rfl
theorem SS.same (h:SS w0 N0 sb w cs F){v:Value}(hv:cs[i]? =some v):SS w0 N0 sb w (cs.setIfInBounds i v) F:=by
 rw [D_P hv];exact h
end
theorem c_at' {w:World}{a:OA}{l c:Nat}{av:Nat->Nat}{N own:Nat}(h:NL w a l c av N){n:Int}(hn:later N own n):CP 65 #[.slice a l c,.int .i64 n,.int .i64 (own:Int)] w fun e w'=>e=.returned (.pointer (ptr av n))/\EF w w':=by
 refine (c_at h hn).mono ?_;rintro _ w' ⟨rfl,rfl⟩;exact ⟨rfl,Ext.refl _⟩
theorem A_1 {w:World}{sb:Nat}{cs:Array Value}{a:OA}{l c:Nat}(h:objAt w sb=some (.cells cs 116 (0,0)))(hz:cs.size=53)(h26:cs[26]? =some (ifcV o))(h3:cs[3]? =some (.int .i64 2020))(h40:cs[40]? =some (.pointer q))(h39:cs[39]? =some (.slice a l c)):
  CP 64 #[.pointer (some (adr sb))] w fun e w'=>e=.returned (.tuple #[])/\Ext (fun k=>k=sb) w w'/\objAt w' sb=some (.cells (((cs.setIfInBounds 0 (.bool (!o.isNone))).setIfInBounds 1 (.bool (!q.isNone))).setIfInBounds 2 (.int .i64 (l:Int))) 116 (0,0)):=by
 have o1:objAt (w.setCell (adr sb) (.bool (!o.isNone))) sb=some (.cells (cs.setIfInBounds 0 (.bool (!o.isNone))) 116 (0,0)):=w_4 h (i:=0) _;have x1:Ext (fun k=>k=sb) w (w.setCell (adr sb) (.bool (!o.isNone))):=w_1 (i:=0) _;have g:∀ {j i:Nat} {v:Value} {c:Array Value},i≠j->(c.setIfInBounds i v)[j]? =c[j]? :=fun {j i v c} hij=>by rw [Array.getElem?_setIfInBounds,if_neg hij]
 have off:∀ {w1:World} {c1:Array Value} {i:Nat},objAt w1 sb=some (.cells c1 116 (0,0))->c1.size=53->i<52->∃ (cs:Array Value) (T:TypeId),objAt w1 ((adr sb).add i).block=some (.cells cs T (0,0))/\((adr sb).add i).spot=none/\((adr sb).add i).off+1<=cs.size/\false=false:=fun {w1 c1 i} ho hz hi=>by
  refine ⟨c1,116,?_⟩;rw [Addr.add_lit];exact ⟨ho,rfl,by simp only;omega,rfl⟩
 refine z_R (some (adr sb)) w _ ⟨_,rfl,o,cat h h26,_,rfl,⟨_,_,h,rfl,by simp only;omega,rfl⟩,trivial,?_⟩;generalize w.setCell (adr sb) (.bool (!o.isNone))=w5 at *;have z1:(cs.setIfInBounds 0 (.bool (!o.isNone))).size=53:=by rw [Array.size_setIfInBounds];exact hz
 refine ⟨_,rfl,2020,cat o1 (by rw [g (by decide)];exact h3),nofun,fun _=>⟨_,rfl,q,cat o1 (by rw [g (by decide)];exact h40),_,rfl,off o1 z1 (by decide),trivial,?_⟩⟩;have o2:=w_4 o1 (i:=1) (.bool (!q.isNone));have x2:=w_1 (w:=w5) (b:=sb) (i:=1) (.bool (!q.isNone));generalize w5.setCell ((adr sb).add 1) (.bool (!q.isNone))=w35 at *;have z2:((cs.setIfInBounds 0 (.bool (!o.isNone))).setIfInBounds 1 (.bool (!q.isNone))).size=53:=by rw [Array.size_setIfInBounds];exact z1
 refine ⟨_,rfl,a,l,c,cat o2 (by rw [g (by decide),g (by decide)];exact h39),_,rfl,off o2 z2 (by decide),trivial,rfl,(x1.trans x2 fun _ _ e=>e).trans (w_1 (i:=2) _) fun _ _ e=>e,w_4 o2 (i:=2) _⟩
structure NewN (x:JN):Prop where
 single:x.single=0
 hasPl:x.hasPl=false
 ok:x.others.k=0
 on:x.others.node=0
 dep:x.dep=[]
def FT (x:JN)(w:World)(B:Nat)(u:Value):Prop:=if x.types=[] then u=.pointer none else ∃ b T fr,u=.pointer (some (adr b))/\b<B/\objAt w b=some (.cells #[.int .i64 (bitsK x.types:Nat)] T fr)
def FE (x:JN)(w:World)(B:Nat)(u:Value):Prop:=if x.hasEnum=true then ∃ b T fr a l c n,u=.pointer (some (adr b))/\b<B/\objAt w b=some (.cells #[.slice a l c,.int .i64 (n:Nat)] T fr)/\RArr w B x.enm a l c/\n=x.enm.foldl (fun n v=>n ||| bitV v) 0 else u=.pointer none
def FC (x:JN)(w:World)(B:Nat)(u:Value):Prop:=match x.cst with
 | []=>u=.pointer none
 | c::_=>∃ b T fr o,u=.pointer (some (adr b))/\b<B/\objAt w b=some (.cells #[ifcV o] T fr)/\RA w B c o
def FM (x:JN)(w:World)(B:Nat)(u:Value):Prop:=if x.fmt.is=true then ∃ b T fr s tb cb T' fr',u=.pointer (some (adr b))/\b<B/\objAt w b=some (.cells #[.string s,.func (.func 114) #[] #[.pointer (some (adr cb))]] T fr)/\cb<B/\objAt w cb=some (.cells #[.pointer (some (adr tb))] T' fr')/\RTak w B tb x.fmt.ts else u=.pointer none
def FP (x:JN)(w:World)(B:Nat)(u:Value):Prop:=if x.pat.is=true then ∃ tb,u=.iface 149 (.pointer (some (adr tb)))/\RTak w B tb x.pat.ts else u=.nilIface
def FNe (x:JN)(w:World)(B:Nat)(u:Value):Prop:=∃ b S,u=.map (some b)/\b<B/\GMap KS w b S/\(∀ k y,S k y->∃ q∈lasts JNe.name x.needs,k=.string q.name/\∃ a l c,y=.slice a l c/\RSl w B RStr a l c q.names)/\∀ q∈lasts JNe.name x.needs,∃ y,S (.string q.name) y
def FPa (av:Nat->Nat)(x:JN)(w:World)(B:Nat)(u:Value):Prop:=∃ b S,u=.map (some b)/\b<B/\GMap KTk w b S/\(∀ k y,S k y->∃ q∈x.pats,∃ tb,k=.iface 149 (.pointer (some (adr tb)))/\RTak w B tb q.ts/\y=.pointer (some (adr (av q.node.toNat))))/\
  (∀ q∈x.pats,∃ tb,RTak w B tb q.ts/\S (.iface 149 (.pointer (some (adr tb)))) (.pointer (some (adr (av q.node.toNat)))))/\(∀ L:List Value,L.Nodup->(∀ k,k∈L↔∃ v,S k v)->L.length<=x.pats.length)
def FD (w:World)(B:Nat)(u:Value):Prop:=∃ b,u=.map (some b)/\b<B/\GMap KS w b fun _ _=>False
structure PreC (w:World) (B:Nat) (av:Nat->Nat) (x:JN) (cs:Array Value):Prop where
 sz:cs.size=53
 f3:cs[3]? =some (.int .i64 2020)
 f26:∃ o,cs[26]? =some (ifcV o)/\o.isNone=decide ((eff x).more.k=0)
 f30:cs[30]? =some (.pointer (ptr av (eff x).restP))
 f39:∃ a c,cs[39]? =some (.slice a (eff x).first.length c)
 f40:cs[40]? =some (.pointer (ptr av (eff x).items))
 f41:cs[41]? =some (.pointer (ptr av (eff x).restI))
 bool:x.kind≠0->∃ b T fr,cs[5]? =some (.pointer (some (adr b)))/\b<B/\objAt w b=some (.cells #[.bool (decide (x.kind=1))] T fr)
 words:x.kind=0->SchK w B av x cs
theorem SS.mapG {w0:World}{N0 sb:Nat}{w:World}{cs:Array Value}{F:World->Prop}(ss:SS w0 N0 sb w cs F){b:Nat}(hm:GMap K w b S)(hb:N0<=b){w':World}(hx:Ext (fun k=>k=sb) w w'):GMap K (cutw N0 w') b S:=by
 have hl:=ss.sbl;obtain ⟨ents,cl,h1,h2⟩:=hm.ext hx (show ¬ b=sb by omega);exact ⟨ents,cl,by rw [x_h hb];exact h1,h2⟩
theorem y_B {cs:Array Value}{v:Value}(h:i<cs.size):(cs.setIfInBounds i v)[i]? =some v:=by
 rw [Array.getElem?_setIfInBounds,if_pos rfl,if_pos h]
theorem SS.keepT {w0:World}{N0 sb:Nat}{w w':World}{cs:Array Value}{F:World->Prop}(ss:SS w0 N0 sb w cs F)(hx:Ext (fun k=>k=sb) w w'):KeepT 44 w w':=fun k c fr hk=>hx.old k _ (fun e=>by
 have e:k=sb:=e;rw [e,ss.o] at hk;cases hk) hk
theorem D_o {i:Int}{k0 v0:Value}(hS:∀ L:List Value,L.Nodup->(∀ k,k∈L↔∃ v,S k v)->(L.length:Int)<=i){L:List Value}(hL:L.Nodup)(hm:∀ k,k∈L↔∃ v,(k=k0/\v=v0)∨S k v):(L.length:Int)<=i+1:=by
 letI:DecidableEq Value:=fun a b=>Classical.propDecidable (a=b)
 by_cases h0:∃ v,S k0 v
 ·have:=hS L hL fun k=>(hm k).trans ⟨fun ⟨v,h⟩=>by
   rcases h with ⟨rfl,-⟩|h
   ·exact h0
   ·exact ⟨v,h⟩,fun ⟨v,h⟩=>⟨v,.inr h⟩⟩
  omega
 ·have h1:k0∈L:=(hm k0).2 ⟨v0,.inl ⟨rfl,rfl⟩⟩;have:=hS (L.erase k0) (hL.erase _) fun k=>by
   rw [hL.mem_erase_iff,hm];constructor
   ·rintro ⟨hne,v,⟨rfl,-⟩|h⟩
    ·exact absurd rfl hne
    ·exact ⟨v,h⟩
   ·rintro ⟨v,h⟩;exact ⟨fun e=>h0 ⟨v,e▸h⟩,v,.inr h⟩
  rw [List.length_erase_of_mem h1] at this;have:0<L.length:=List.length_pos_of_mem h1;omega
theorem C_D {av:Nat->Nat}{m:JMo}(h:ifcV o=moreV av m):o.isNone=decide (m.k=0):=by
 unfold moreV at h;cases o with
 | none=>
  by_cases h0:m.k=0
  ·rw [decide_eq_true h0];rfl
  ·rw [if_neg h0] at h;split at h<;>cases h
 | some z=>
  by_cases h0:m.k=0
  ·rw [if_pos h0] at h;cases h
  ·rw [decide_eq_false h0];rfl
theorem D_9 {w w1:World}{a:OA}{l c:Nat}{av:Nat->Nat}{N own N0 sb:Nat}{cs:Array Value}{F:World->Prop}(ss:SS w N0 sb w1 cs F)(hNL:NL w a l c av N){x:JN}(hr:RJN w x cells)(hnew:NewN x):
  CP 98 #[.slice a l c,.pointer (some (adr sb)),.agg cells.toArray,.int .i64 (own:Int)] w1 fun e w'=>e=.returned (.tuple #[])/\Ext (fun k=>k=sb) w1 w'/\∃ u,SS w N0 sb w' ((cs.setIfInBounds 38 .nilIface).setIfInBounds 27 u) fun w'=>F w'/\FD (cutw N0 w') w'.heap.size u:=by
 obtain ⟨s3,s4,s5,s10,s12,s13,s19,s21,s31,s39,s40,s41,s42,s43,s50,s53,rfl,h1,h2,h3,h4,h5,h6,h7,h8,h9,h10,h11,h12,h13,h14,h15,h16⟩:=hr;obtain ⟨n1,n2,n3,n4,n5⟩:=hnew;have e53:s53.l=0:=by
  have:=h16.len.1;rw [n5] at this;exact this
 refine y_K a l c (some (adr sb)) x.kind x.ref s3.a s3.l s3.c s4.a s4.l s4.c s5.a s5.l s5.c x.nt x.iff x.thn x.els s10.a s10.l s10.c x.hasEnum s12.a s12.l s12.c s13.a s13.l s13.c x.minL.is x.minL.n x.maxL.is x.maxL.n x.pat.is s19.a s19.l s19.c x.fmt.is s21.a s21.l s21.c x.minI.is x.minI.n x.maxI.is x.maxI.n x.minC.is x.minC.n x.maxC.is x.maxC.n x.uniq s31.a s31.l s31.c x.items x.cont x.restI x.minP.is x.minP.n x.maxP.is x.maxP.n s39.a s39.l s39.c s40.a s40.l s40.c s41.a s41.l s41.c s42.a s42.l s42.c s43.a s43.l s43.c x.more.k x.more.node x.names x.restP x.single x.hasPl s50.a s50.l s50.c x.others.k x.others.node s53.a s53.l s53.c (own:Int) w1 _ ?_;refine ⟨trivial,?_⟩;intro w57;have x57:EF w1 w57:=(Ext.refl w1).alloc _;have ss57:=ss.ext x57;clear_value w57;intro K58 hK58;refine (c_at' (own:=0) (ss57.nl hNL) (.inl n1)).mono ?_;rintro _ w102 ⟨rfl,x102⟩;have ss102:=ss57.ext x102;refine ⟨_,rfl,⟨x102.keepT _,trivial⟩,fun h=>?_,fun _=>hK58 w102 fun K60 hK60=>⟨fun h=>?_,fun _=>hK60 w102 ?_⟩⟩
 ·rw [w_5,decide_eq_true n1] at h;cases h
 ·rw [n2] at h;cases h
 ·refine (D_T (ss102.nl hNL) (m:=x.others) (by omega) ⟨.inl n4,fun h=>by omega⟩).mono ?_;rintro _ w63 ⟨o,rfl,x63,ho⟩;have ho:ifcV o=.nilIface:=by rw [ho,moreV,if_pos n3]
  have ss63:=ss102.ext x63;refine ⟨o,rfl,⟨x63.keepT _,trivial⟩,_,rfl,ss63.off (by decide),trivial,?_⟩;rw [ho];intro w66;have x66:Ext (fun k=>k=sb) w63 w66:=w_1 _;have ss66:SS w N0 sb w66 _ _:=ss63.set 38 _;clear_value w66;intro w67;have x67:EF w66 w67:=(Ext.refl _).alloc _;have ss67:SS w N0 sb w67 _ _:=ss66.ext x67;have m67:GMap KS w67 w66.heap.size fun _ _=>False:=GMap.made KS w66;clear_value w67;refine ⟨_,rfl,ss67.off (by decide),trivial,?_⟩;intro w69;have x69:Ext (fun k=>k=sb) w67 w69:=w_1 _;have ss69:SS w N0 sb w69 _ _:=ss67.set 27 _;clear_value w69;have hb:=ss66.n1;have hl:=ss66.sbl;have m69:GMap KS w69 w66.heap.size fun _ _=>False:=m67.ext x69 (show ¬ w66.heap.size=sb by omega);refine ⟨fun i w'=>i=0/\w'=w69,fun _ _=>0,⟨rfl,rfl⟩,?_⟩;rintro i w' ⟨rfl,rfl⟩;refine ⟨fun h=>?_,fun _=>⟨rfl,?_,_,ss69.add (G:=fun w'=>FD (cutw N0 w') w'.heap.size (.map (some w66.heap.size))) fun w2 h2=>⟨_,rfl,?_,ss69.mapG m69 hb h2⟩⟩⟩
  ·have:=odt h;omega
  ·exact (((((x57.mono fun _ _ e=>e.elim).then x102).then x63).trans x66 fun _ _ e=>e).then x67).trans x69 fun _ _ e=>e
  ·have:=m69.lt;have:=h2.size;omega
abbrev sch0:Array Value:=#[.bool false,.bool false,.int .i64 0,.int .i64 0,.string ⟨#[]⟩,.pointer none,.string ⟨#[]⟩,.pointer none,.string ⟨#[]⟩,.pointer none,.pointer none,.pointer none,.pointer none,.slice none 0 0,.slice none 0 0,.slice none 0 0,.pointer none,.pointer none,.pointer none,.pointer none,.pointer none,.pointer none,.slice none 0 0,.pointer none,.map none,.map none,.nilIface,.map none,.map none,.map none,.pointer none,.pointer none,.pointer none,.bool false,.pointer none,.pointer none,.pointer none,.nilIface,.nilIface,.slice none 0 0,.pointer none,.pointer none,.pointer none,.pointer none,.nilIface,.string ⟨#[]⟩,.string ⟨#[]⟩,.pointer none,.string ⟨#[]⟩,.bool false,.bool false,.slice none 0 0,.bool false]
set_option maxHeartbeats 8000000 in
theorem E_G {w:World}{a:OA}{l c:Nat}{av:Nat->Nat}{N own N0 sb:Nat}(hNL:NL w a l c av N)(hsb:sb<N0)(hN0:N0<=w.heap.size)(hDB:DB.B<=sb){x:JN}(hr:RJN w x cells)(hN:okN N own x)(hU:(∀ t∈x.types,bitK t≠0)/\x.enm.length<=1100000)(hnew:NewN x)(ho:objAt w sb=some (.cells sch0 116 (0,0))):
  CP 62 #[.slice a l c,.pointer (some (adr sb)),.agg cells.toArray,.int .i64 (own:Int),.int .i64 2020] w fun e w'=>e=.returned (.tuple #[])/\Ext (fun k=>k=sb) w w'/\∃ cs,objAt w' sb=some (.cells cs 116 (0,0))/\PreC (cutw N0 w') w'.heap.size av x cs:=by
 have hr0:=hr;obtain ⟨s3,s4,s5,s10,s12,s13,s19,s21,s31,s39,s40,s41,s42,s43,s50,s53,rfl,h1,h2,h3,h4,h5,h6,h7,h8,h9,h10,h11,h12,h13,h14,h15,h16⟩:=hr;have ss0:SS w N0 sb w sch0 fun _=>True:=⟨Ext.refl w,⟨_,ho⟩,ho,rfl,hsb,hN0,hDB,fun _ _=>trivial⟩;refine y_5 a l c (some (adr sb)) x.kind x.ref s3.a s3.l s3.c s4.a s4.l s4.c s5.a s5.l s5.c x.nt x.iff x.thn x.els s10.a s10.l s10.c x.hasEnum s12.a s12.l s12.c s13.a s13.l s13.c x.minL.is x.minL.n x.maxL.is x.maxL.n x.pat.is s19.a s19.l s19.c x.fmt.is s21.a s21.l s21.c x.minI.is x.minI.n x.maxI.is x.maxI.n x.minC.is x.minC.n x.maxC.is x.maxC.n x.uniq s31.a s31.l s31.c x.items x.cont x.restI x.minP.is x.minP.n x.maxP.is x.maxP.n s39.a s39.l s39.c s40.a s40.l s40.c s41.a s41.l s41.c s42.a s42.l s42.c s43.a s43.l s43.c x.more.k x.more.node x.names x.restP x.single x.hasPl s50.a s50.l s50.c x.others.k x.others.node s53.a s53.l s53.c (own:Int) 2020 w _ ?_;refine ⟨trivial,?_⟩;intro w58;have ss58:SS w N0 sb w58 _ _:=ss0.ext ((Ext.refl w).alloc _);clear_value w58;refine ⟨_,rfl,ss58.off (by decide),trivial,?_⟩;intro w60;have ss60:SS w N0 sb w60 _ _:=ss58.set 3 _;clear_value w60;intro K61 hK61;have hwords:x.kind=0->K61 false w60:=by
  intro hk;refine hK61 false w60 ⟨nofun,fun _=>?_⟩;refine (c_at' (ss60.nl hNL) hN.ref).mono ?_;rintro _ w61 ⟨rfl,x61⟩;have ss61:=ss60.ext x61;refine ⟨_,rfl,⟨x61.keepT _,trivial⟩,?_⟩;refine ⟨_,rfl,ss61.off (by decide),trivial,?_⟩;intro w62;have ss62:SS w N0 sb w62 _ _:=ss61.set 7 _;clear_value w62;rintro w63 hw63;have x63:EF w62 w63:=hw63▸(Ext.refl _).drew;clear hw63;have ss63:=ss62.ext x63;refine (C_8 (ss63.nl hNL) (h1.keep ss63.keepD) hN.allOf).mono ?_;rintro _ w64 ⟨A64,L64,C64,rfl,x64,g64⟩;have ss64:=(ss63.ext x64).add (G:=fun w'=>RSl (cutw N0 w') w'.heap.size (RPt av) A64 L64 C64 x.allOf) fun w' h'=>g64.sub (ss63.lift h') h'.size;refine ⟨_,_,_,rfl,⟨x64.keepT _,trivial⟩,⟨rfl,rfl,trivial⟩,?_⟩;refine (C_8 (ss64.nl hNL) (h2.keep ss64.keepD) hN.anyOf).mono ?_;rintro _ w65 ⟨A65,L65,C65,rfl,x65,g65⟩;have ss65:=(ss64.ext x65).add (G:=fun w'=>RSl (cutw N0 w') w'.heap.size (RPt av) A65 L65 C65 x.anyOf) fun w' h'=>g65.sub (ss64.lift h') h'.size;refine ⟨_,_,_,rfl,⟨x65.keepT _,trivial⟩,⟨rfl,trivial⟩,?_⟩;refine (C_8 (ss65.nl hNL) (h3.keep ss65.keepD) hN.oneOf).mono ?_;rintro _ w66 ⟨A66,L66,C66,rfl,x66,g66⟩;have ss66:=(ss65.ext x66).add (G:=fun w'=>RSl (cutw N0 w') w'.heap.size (RPt av) A66 L66 C66 x.oneOf) fun w' h'=>g66.sub (ss65.lift h') h'.size;refine ⟨_,_,_,rfl,⟨x66.keepT _,trivial⟩,trivial,?_⟩;refine ⟨_,rfl,ss66.off (by decide),trivial,?_⟩;intro w67;have ss67:SS w N0 sb w67 _ _:=ss66.set 13 _;clear_value w67;refine ⟨trivial,_,rfl,ss67.off (by decide),trivial,?_⟩;intro w68;have ss68:SS w N0 sb w68 _ _:=ss67.set 14 _;clear_value w68;refine ⟨trivial,_,rfl,ss68.off (by decide),trivial,?_⟩;intro w69;have ss69:SS w N0 sb w69 _ _:=ss68.set 15 _;clear_value w69;refine ⟨trivial,?_⟩;rintro w70 hw70;have x70:EF w69 w70:=hw70▸(Ext.refl _).drew;clear hw70;have ss70:=ss69.ext x70;refine (c_at' (ss70.nl hNL) hN.nt).mono ?_;rintro _ w71 ⟨rfl,x71⟩;have ss71:=ss70.ext x71;refine ⟨_,rfl,⟨x71.keepT _,trivial⟩,⟨rfl,rfl,rfl,trivial⟩,?_⟩;refine (c_at' (ss71.nl hNL) hN.iff).mono ?_;rintro _ w72 ⟨rfl,x72⟩;have ss72:=ss71.ext x72;refine ⟨_,rfl,⟨x72.keepT _,trivial⟩,⟨rfl,rfl,trivial⟩,?_⟩;refine (c_at' (ss72.nl hNL) hN.thn).mono ?_;rintro _ w73 ⟨rfl,x73⟩;have ss73:=ss72.ext x73;refine ⟨_,rfl,⟨x73.keepT _,trivial⟩,⟨rfl,trivial⟩,?_⟩;refine (c_at' (ss73.nl hNL) hN.els).mono ?_;rintro _ w74 ⟨rfl,x74⟩;have ss74:=ss73.ext x74;refine ⟨_,rfl,⟨x74.keepT _,trivial⟩,trivial,?_⟩;refine ⟨_,rfl,ss74.off (by decide),trivial,?_⟩;intro w75;have ss75:SS w N0 sb w75 _ _:=ss74.set 12 _;clear_value w75;refine ⟨trivial,_,rfl,ss75.off (by decide),trivial,?_⟩;intro w76;have ss76:SS w N0 sb w76 _ _:=ss75.set 16 _;clear_value w76;refine ⟨trivial,_,rfl,ss76.off (by decide),trivial,?_⟩;intro w77;have ss77:SS w N0 sb w77 _ _:=ss76.set 17 _;clear_value w77;refine ⟨trivial,_,rfl,ss77.off (by decide),trivial,?_⟩;intro w78;have ss78:SS w N0 sb w78 _ _:=ss77.set 18 _;clear_value w78;obtain ⟨cs78,F78,hcs78,hF78,ssn78⟩:=ss78.name;refine ⟨trivial,?_⟩;intro K110 hK110;have k110:∀ (w111:World) (u9:Value),SS w N0 sb w111 (cs78.setIfInBounds 9 u9) (fun w'=>F78 w'/\FT x (cutw N0 w') w'.heap.size u9)->K110 w111:=by
   intro w111 u9 ss111;refine hK110 w111 fun K112 hK112=>?_;obtain ⟨cs111,F111,hcs111,hF111,ssn111⟩:=ss111.name;have k112:∀ (w113:World) (u10:Value),SS w N0 sb w113 (cs111.setIfInBounds 10 u10) (fun w'=>F111 w'/\FE x (cutw N0 w') w'.heap.size u10)->K112 w113:=by
    intro w113 u10 ss113;refine hK112 w113 fun K114 hK114=>?_;obtain ⟨cs113,F113,hcs113,hF113,ssn113⟩:=ss113.name;have k114:∀ (w115:World) (u11:Value),SS w N0 sb w115 (cs113.setIfInBounds 11 u11) (fun w'=>F113 w'/\FC x (cutw N0 w') w'.heap.size u11)->K114 w115:=by
     intro w115 u11 ss115;refine hK114 w115 ?_;rintro w116 hw116;have x116:EF w115 w116:=hw116▸(Ext.refl _).drew;clear hw116;have ss116:=ss115.ext x116;refine (y_c x.minL w116).mono ?_;rintro _ w117 ⟨q117,rfl,x117,g117⟩;have ss117:=(ss116.ext x117).add (G:=fun w'=>RLim (cutw N0 w') w'.heap.size x.minL (.pointer q117)) fun w' h'=>g117.sub (ss116.lift h') h'.size;refine ⟨_,rfl,⟨x117.keepT _,trivial⟩,⟨rfl,trivial⟩,?_⟩;refine (y_c x.maxL w117).mono ?_;rintro _ w118 ⟨q118,rfl,x118,g118⟩;have ss118:=(ss117.ext x118).add (G:=fun w'=>RLim (cutw N0 w') w'.heap.size x.maxL (.pointer q118)) fun w' h'=>g118.sub (ss117.lift h') h'.size;refine ⟨_,rfl,⟨x118.keepT _,trivial⟩,trivial,?_⟩;refine ⟨_,rfl,ss118.off (by decide),trivial,?_⟩;intro w119;have ss119:SS w N0 sb w119 _ _:=ss118.set 42 _;clear_value w119;refine ⟨trivial,_,rfl,ss119.off (by decide),trivial,?_⟩;intro w120;have ss120:SS w N0 sb w120 _ _:=ss119.set 43 _;clear_value w120;obtain ⟨cs120,F120,hcs120,hF120,ssn120⟩:=ss120.name;refine ⟨trivial,?_⟩;intro K127 hK127;have k127:∀ (w128:World) (u44:Value),SS w N0 sb w128 (cs120.setIfInBounds 44 u44) (fun w'=>F120 w'/\FP x (cutw N0 w') w'.heap.size u44)->K127 w128:=by
      intro w128 u44 ss128;refine hK127 w128 fun K129 hK129=>?_;obtain ⟨cs128,F128,hcs128,hF128,ssn128⟩:=ss128.name;have k129:∀ (w330:World) (u19:Value),SS w N0 sb w330 (cs128.setIfInBounds 19 u19) (fun w'=>F128 w'/\FM x (cutw N0 w') w'.heap.size u19)->K129 w330:=by
       intro w330 u19 ss330;refine hK129 w330 ?_;rintro w331 hw331;have x331:EF w330 w331:=hw331▸(Ext.refl _).drew;clear hw331;have ss331:=ss330.ext x331;refine (y_c x.minI w331).mono ?_;rintro _ w332 ⟨q332,rfl,x332,g332⟩;have ss332:=(ss331.ext x332).add (G:=fun w'=>RLim (cutw N0 w') w'.heap.size x.minI (.pointer q332)) fun w' h'=>g332.sub (ss331.lift h') h'.size;refine ⟨_,rfl,⟨x332.keepT _,trivial⟩,⟨rfl,rfl,rfl,trivial⟩,?_⟩;refine (y_c x.maxI w332).mono ?_;rintro _ w333 ⟨q333,rfl,x333,g333⟩;have ss333:=(ss332.ext x333).add (G:=fun w'=>RLim (cutw N0 w') w'.heap.size x.maxI (.pointer q333)) fun w' h'=>g333.sub (ss332.lift h') h'.size;refine ⟨_,rfl,⟨x333.keepT _,trivial⟩,⟨rfl,rfl,trivial⟩,?_⟩;refine (y_c x.minC w333).mono ?_;rintro _ w334 ⟨q334,rfl,x334,g334⟩;have ss334:=(ss333.ext x334).add (G:=fun w'=>RLim (cutw N0 w') w'.heap.size x.minC (.pointer q334)) fun w' h'=>g334.sub (ss333.lift h') h'.size;refine ⟨_,rfl,⟨x334.keepT _,trivial⟩,⟨rfl,trivial⟩,?_⟩;refine (y_c x.maxC w334).mono ?_;rintro _ w335 ⟨q335,rfl,x335,g335⟩;have ss335:=(ss334.ext x335).add (G:=fun w'=>RLim (cutw N0 w') w'.heap.size x.maxC (.pointer q335)) fun w' h'=>g335.sub (ss334.lift h') h'.size;refine ⟨_,rfl,⟨x335.keepT _,trivial⟩,trivial,?_⟩;refine ⟨_,rfl,ss335.off (by decide),trivial,?_⟩;intro w336;have ss336:SS w N0 sb w336 _ _:=ss335.set 31 _;clear_value w336;refine ⟨trivial,_,rfl,ss336.off (by decide),trivial,?_⟩;intro w337;have ss337:SS w N0 sb w337 _ _:=ss336.set 32 _;clear_value w337;refine ⟨trivial,_,rfl,ss337.off (by decide),trivial,?_⟩;intro w338;have ss338:SS w N0 sb w338 _ _:=ss337.set 35 _;clear_value w338;refine ⟨trivial,_,rfl,ss338.off (by decide),trivial,?_⟩;intro w339;have ss339:SS w N0 sb w339 _ _:=ss338.set 36 _;clear_value w339;refine ⟨trivial,_,rfl,ss339.off (by decide),trivial,?_⟩;intro w340;have ss340:SS w N0 sb w340 _ _:=ss339.set 33 _;clear_value w340;refine (C_8 (own:=0) (ss340.nl hNL) (h9.keep ss340.keepD) hN.first).mono ?_;rintro _ w341 ⟨A341,L341,C341,rfl,x341,g341⟩;have ss341:=(ss340.ext x341).add (G:=fun w'=>RSl (cutw N0 w') w'.heap.size (RPt av) A341 L341 C341 x.first) fun w' h'=>g341.sub (ss340.lift h') h'.size;refine ⟨_,_,_,rfl,⟨x341.keepT _,trivial⟩,?_⟩;refine ⟨_,rfl,ss341.off (by decide),trivial,?_⟩;intro w342;have ss342:SS w N0 sb w342 _ _:=ss341.set 39 _;clear_value w342;rintro w343 hw343;have x343:EF w342 w343:=hw343▸(Ext.refl _).drew;clear hw343;have ss343:=ss342.ext x343;refine (c_at' (own:=0) (ss343.nl hNL) hN.items).mono ?_;rintro _ w344 ⟨rfl,x344⟩;have ss344:=ss343.ext x344;refine ⟨_,rfl,⟨x344.keepT _,trivial⟩,⟨rfl,rfl,trivial⟩,?_⟩;refine (c_at' (own:=0) (ss344.nl hNL) hN.cont).mono ?_;rintro _ w345 ⟨rfl,x345⟩;have ss345:=ss344.ext x345;refine ⟨_,rfl,⟨x345.keepT _,trivial⟩,⟨rfl,trivial⟩,?_⟩;refine (c_at' (own:=0) (ss345.nl hNL) hN.restI).mono ?_;rintro _ w346 ⟨rfl,x346⟩;have ss346:=ss345.ext x346;refine ⟨_,rfl,⟨x346.keepT _,trivial⟩,trivial,?_⟩;refine ⟨_,rfl,ss346.off (by decide),trivial,?_⟩;intro w347;have ss347:SS w N0 sb w347 _ _:=ss346.set 40 _;clear_value w347;refine ⟨trivial,_,rfl,ss347.off (by decide),trivial,?_⟩;intro w348;have ss348:SS w N0 sb w348 _ _:=ss347.set 34 _;clear_value w348;refine ⟨trivial,_,rfl,ss348.off (by decide),trivial,?_⟩;intro w349;have ss349:SS w N0 sb w349 _ _:=ss348.set 41 _;clear_value w349;refine ⟨trivial,?_⟩;rintro w350 hw350;have x350:EF w349 w350:=hw350▸(Ext.refl _).drew;clear hw350;have ss350:=ss349.ext x350;refine (y_c x.minP w350).mono ?_;rintro _ w351 ⟨q351,rfl,x351,g351⟩;have ss351:=(ss350.ext x351).add (G:=fun w'=>RLim (cutw N0 w') w'.heap.size x.minP (.pointer q351)) fun w' h'=>g351.sub (ss350.lift h') h'.size;refine ⟨_,rfl,⟨x351.keepT _,trivial⟩,⟨rfl,trivial⟩,?_⟩;refine (y_c x.maxP w351).mono ?_;rintro _ w352 ⟨q352,rfl,x352,g352⟩;have ss352:=(ss351.ext x352).add (G:=fun w'=>RLim (cutw N0 w') w'.heap.size x.maxP (.pointer q352)) fun w' h'=>g352.sub (ss351.lift h') h'.size;refine ⟨_,rfl,⟨x352.keepT _,trivial⟩,trivial,?_⟩;refine ⟨_,rfl,ss352.off (by decide),trivial,?_⟩;intro w353;have ss353:SS w N0 sb w353 _ _:=ss352.set 21 _;clear_value w353;refine ⟨trivial,_,rfl,ss353.off (by decide),trivial,?_⟩;intro w354;have ss354:SS w N0 sb w354 _ _:=ss353.set 20 _;clear_value w354;refine ⟨trivial,?_⟩;refine (y_F (h10.keep ss354.keepD)).mono ?_;rintro _ w355 ⟨A355,L355,C355,rfl,x355,g355⟩;have ss355:=(ss354.ext x355).add (G:=fun w'=>RSl (cutw N0 w') w'.heap.size RStr A355 L355 C355 x.req) fun w' h'=>g355.sub (ss354.lift h') h'.size;refine ⟨_,_,_,rfl,⟨x355.keepT _,trivial⟩,?_⟩;refine ⟨_,rfl,ss355.off (by decide),trivial,?_⟩;intro w356;have ss356:SS w N0 sb w356 _ _:=ss355.set 22 _;clear_value w356;obtain ⟨cs356,F356,hcs356,hF356,ssn356⟩:=ss356.name;have e11:=h11.len;intro w191;have x191:EF w356 w191:=(Ext.refl _).alloc _;have ss191:SS w N0 sb w191 _ _:=ssn356.ext x191;have m191:GMap KS w191 w356.heap.size fun _ _=>False:=GMap.made KS w356;clear_value w191;refine ⟨_,rfl,ss191.off (by decide),trivial,?_⟩;intro w193;have x193:Ext (fun k=>k=sb) w191 w193:=w_1 _;have ss193:SS w N0 sb w193 _ _:=ss191.set 28 _;clear_value w193;have hb190:=ssn356.n1;have hl190:=ssn356.sbl;have hz190:=ssn356.sz;have m193:GMap KS w193 w356.heap.size fun _ _=>False:=m191.ext x193 (show ¬ w356.heap.size=sb by omega);have y193:Ext (fun k=>k=sb) w356 w193:=(x191.mono fun _ _ e=>e.elim).trans x193 fun _ _ e=>e;have um:Tryz.prog.underlying 111=some (.map 9 24):=by kernel_rfl
       have ks:Tryz.prog.underlying 9=some .string:=by kernel_rfl
       have h28:(cs356.setIfInBounds 28 (.map (some w356.heap.size)))[28]? =some (.map (some w356.heap.size)):=y_B (by omega);refine ⟨fun i w1=>0<=i/\i<=s40.l/\Ext (fun k=>k=sb) w356 w1/\objAt w1 sb=some (.cells (cs356.setIfInBounds 28 (.map (some w356.heap.size))) 116 (0,0))/\∃ S,GMap KS w1 w356.heap.size S/\(∀ k y,S k y->∃ q∈lasts JNe.name (x.needs.take i.toNat),k=.string q.name/\∃ a l c,y=.slice a l c/\RSl (cutw (w356.heap.size+1) w1) w1.heap.size RStr a l c q.names)/\∀ q∈lasts JNe.name (x.needs.take i.toNat),∃ y,S (.string q.name) y,fun i _=>((s40.l:Int)-i).toNat,⟨by omega,by omega,y193,ss193.o,_,m193,fun _ _ h=>h.elim,by simp [lasts]⟩,?_⟩;rintro i w1 ⟨i0,i1,hx,ho1,S,hm,hS1,hS2⟩;have ssw:SS w N0 sb w1 (cs356.setIfInBounds 28 (.map (some w356.heap.size))) F356:=ssn356.step hx ho1 ss193.sz;have hmlt:=hm.lt;refine ⟨fun hlt=>?_,fun hge=>?_⟩
       ·have hlt:=odt hlt;obtain ⟨p,q,hp,hqs,cq,hc,aq,lq,nq,rfl,hrq⟩:=(h11.keep ssw.keepD).get i0 hlt;obtain ⟨⟨_,_,g0⟩,-, ⟨_,_,g1⟩,-⟩:=hc;refine ⟨p,hp,⟨i0,hlt⟩,_,g0.cell,_,_,_,g1.cell,trivial,trivial,?_⟩;intro w202;have x202:EF w1 w202:=(Ext.refl _).alloc _;clear_value w202;rintro w203 hw203;have x203:EF w1 w203:=hw203▸x202.drew;clear hw203;refine ⟨_,rfl,_,cat (x203.old _ _ id ho1) h28,(y_F (hrq.keep x203.keep)).mono ?_⟩;rintro _ w207 ⟨A,L,C,rfl,x207,hR⟩;have z207:=x203.then x207;have hm207:GMap KS w207 w356.heap.size S:=hm.ext z207 id;obtain ⟨w209,r209,hm209,x209⟩:=x_K (P:=Tryz.prog) (u:=.string q.name) (v:=.slice A L C) um ks trivial hm207;have s203:=x203.size;have s209:=x209.size;have s207:=z207.size;have sb1:Sub (cutw (w356.heap.size+1) w1) (cutw (w356.heap.size+1) w209):=(Sub.new z207 (Nat.le_refl _)).trans (Sub.step x209 (Nat.le_refl _) fun b e hb=>by omega);have sb2:Sub (cutw w203.heap.size w207) (cutw (w356.heap.size+1) w209):=(Sub.new (Ext.refl _) (by omega)).trans (Sub.step x209 (Nat.le_refl (w356.heap.size+1)) fun b e hb=>by omega);refine ⟨A,L,C,rfl,⟨x207.keepT _,x207.keepT _,trivial⟩,⟨rfl,(cat (z207.old _ _ id ho1) h28).trans (cat (x203.old _ _ id ho1) h28).symm,trivial⟩,w209,r209,⟨y_S hm207 x209 _,y_S hm207 x209 _,trivial⟩,trivial,?_⟩;rw [f_c (by omega) (by omega)];refine ⟨⟨by omega,by omega,(hx.then z207).trans x209 fun b hb e=>by omega,x209.old _ _ (show ¬ sb=w356.heap.size by omega) (z207.old _ _ id ho1),_,hm209,?_⟩,by dsimp only;omega⟩;rw [take_succ i0 hqs];refine ⟨fun k y hk=>?_,fun q' hq'=>?_⟩
        ·rcases hk with ⟨rfl,rfl⟩|⟨hne,hk⟩
         ·exact ⟨q,(x_p _).2 (.inl rfl),rfl,A,L,C,rfl,hR.sub sb2 (by omega)⟩
         ·obtain ⟨q',hq',rfl,a',l',c',rfl,hR'⟩:=hS1 k y hk;exact ⟨q',(x_p _).2 (.inr ⟨fun e=>hne (by rw [e]),hq'⟩),rfl,a',l',c',rfl,hR'.sub sb1 (by omega)⟩
        ·rcases (x_p _).1 hq' with rfl|⟨hn,hq'⟩
         ·exact ⟨_,.inl ⟨rfl,rfl⟩⟩
         ·obtain ⟨y,hy⟩:=hS2 q' hq';exact ⟨y,.inr ⟨fun e=>hn (by injection e),hy⟩⟩
       ·have hge:=odf hge;have hall:x.needs.take i.toNat=x.needs:=tl_ (by omega);rw [hall] at hS1 hS2;obtain ⟨w400,hw400⟩:∃ w400,w400=w1:=⟨_,rfl⟩;subst hw400;have ss400:=ssw.add (G:=fun w'=>FNe x (cutw N0 w') w'.heap.size (.map (some w356.heap.size))) fun w' h'=>⟨w356.heap.size,S,rfl,by have:=h'.size;omega,ssw.mapG hm hb190 h',fun k y hk=>(by
         obtain ⟨q',hq',rfl,a',l',c',rfl,hR'⟩:=hS1 k y hk;exact ⟨q',hq',rfl,a',l',c',rfl,hR'.sub (Sub.step h' (by omega) fun b e hb=>by omega) h'.size⟩),hS2⟩
        refine (C_t (ss400.nl hNL) (h12.keep ss400.keepD) hN.deps).mono ?_;rintro _ w401 ⟨m401,rfl,x401,g401⟩;have ss401:=(ss400.ext x401).add (G:=fun w'=>RPrM (cutw N0 w') w'.heap.size av x.deps (.map m401)) fun w' h'=>g401.sub (ss400.lift h') h'.size;refine ⟨_,rfl,⟨x401.keepT _,trivial⟩,?_⟩;refine ⟨_,rfl,ss401.off (by decide),trivial,?_⟩;intro w402;have ss402:SS w N0 sb w402 _ _:=ss401.set 29 _;clear_value w402;refine (C_t (own:=0) (ss402.nl hNL) (h13.keep ss402.keepD) hN.props).mono ?_;rintro _ w403 ⟨m403,rfl,x403,g403⟩;have ss403:=(ss402.ext x403).add (G:=fun w'=>RPrM (cutw N0 w') w'.heap.size av x.props (.map m403)) fun w' h'=>g403.sub (ss402.lift h') h'.size;refine ⟨_,rfl,⟨x403.keepT _,trivial⟩,?_⟩;refine ⟨_,rfl,ss403.off (by decide),trivial,?_⟩;intro w404;have ss404:SS w N0 sb w404 _ _:=ss403.set 24 _;clear_value w404;obtain ⟨cs404,F404,hcs404,hF404,ssn404⟩:=ss404.name;have e14:=h14.len;intro w220;have x220:EF w404 w220:=(Ext.refl _).alloc _;have ss220:SS w N0 sb w220 _ _:=ssn404.ext x220;have m220:GMap KTk w220 w404.heap.size fun _ _=>False:=GMap.made KTk w404;clear_value w220;refine ⟨_,rfl,ss220.off (by decide),trivial,?_⟩;intro w222;have x222:Ext (fun k=>k=sb) w220 w222:=w_1 _;have ss222:SS w N0 sb w222 _ _:=ss220.set 25 _;clear_value w222;have hb219:=ssn404.n1;have hl219:=ssn404.sbl;have hz219:=ssn404.sz;have m222:GMap KTk w222 w404.heap.size fun _ _=>False:=m220.ext x222 (show ¬ w404.heap.size=sb by omega);have y222:Ext (fun k=>k=sb) w404 w222:=(x220.mono fun _ _ e=>e.elim).trans x222 fun _ _ e=>e;have h25:(cs404.setIfInBounds 25 (.map (some w404.heap.size)))[25]? =some (.map (some w404.heap.size)):=y_B (by omega);refine ⟨fun i w1=>0<=i/\i<=s43.l/\Ext (fun k=>k=sb) w404 w1/\objAt w1 sb=some (.cells (cs404.setIfInBounds 25 (.map (some w404.heap.size))) 116 (0,0))/\∃ S,GMap KTk w1 w404.heap.size S/\(∀ k y,S k y->∃ q∈x.pats,∃ tb,k=.iface 149 (.pointer (some (adr tb)))/\w404.heap.size<tb/\(∃ cs T,objAt w1 tb=some (.cells cs T (0,0)))/\RTak (cutw (w404.heap.size+1) w1) w1.heap.size tb q.ts/\y=.pointer (some (adr (av q.node.toNat))))/\
          (∀ q∈x.pats.take i.toNat,∃ tb,RTak (cutw (w404.heap.size+1) w1) w1.heap.size tb q.ts/\S (.iface 149 (.pointer (some (adr tb)))) (.pointer (some (adr (av q.node.toNat)))))/\(∀ L:List Value,L.Nodup->(∀ k,k∈L↔∃ v,S k v)->(L.length:Int)<=i),fun i _=>((s43.l:Int)-i).toNat,⟨by omega,by omega,y222,ss222.o,_,m222,fun _ _ h=>h.elim,by simp,fun L hL hm=>?_⟩,?_⟩
        ·cases L with
         | nil=>simp
         | cons k L=>
          obtain ⟨v,hv⟩:=(hm k).1 (List.mem_cons_self ..);exact hv.elim
        rintro i w1 ⟨i0,i1,hx,ho1,S,hm,hS1,hS2,hS3⟩;have ssw:SS w N0 sb w1 (cs404.setIfInBounds 25 (.map (some w404.heap.size))) F404:=ssn404.step hx ho1 ss222.sz;have hmlt:=hm.lt;refine ⟨fun hlt K227 hK227=>?_,fun hge=>?_⟩
        ·have hlt:=odt hlt;obtain ⟨p,q,hp,hqs,cq,hc,aq,lq,nq,rfl,hrq⟩:=(h14.keep ssw.keepD).get i0 hlt;have hqm:=mg_ hqs;obtain ⟨hlat,hne0⟩:=hN.pats q hqm;obtain ⟨⟨_,_,g0⟩,-, ⟨_,_,g1⟩,-⟩:=hc;have x233:EF w1 (w1.alloc (.cells #[.slice aq lq nq,.int .i64 q.node] 92)):=(Ext.refl _).alloc _;refine ⟨p,hp,⟨i0,hlt⟩,_,_,_,g0.cell,_,g1.cell,trivial,trivial,(c_at' (own:=0) ((ssw.ext x233).nl hNL) hlat).mono ?_⟩;rintro _ w235 ⟨rfl,x235⟩;refine ⟨_,rfl,⟨x235.keepT _,x235.keepT _,trivial⟩,fun _=>?_,fun hno=>?_⟩
         ·rintro w237 hw237;have x237:EF w1 w237:=hw237▸(x233.then x235).drew;clear hw237;refine ⟨_,rfl,_,cat (x237.old _ _ id ho1) h25,(y_F (hrq.keep x237.keep)).mono ?_⟩;rintro _ w241 ⟨A,L,C,rfl,x241,hR⟩;have z241:=x237.then x241;have x243:EF w241 (w241.alloc (.cells #[.slice A L C] 152)):=(Ext.refl _).alloc _;have s237:=x237.size;have s241:=x241.size;have t243:=A_B (w':=w241) hR s241;have o243:=w_3 w241 (.cells #[.slice A L C] 152);have n243:(w241.alloc (.cells #[.slice A L C] 152)).heap.size=w241.heap.size+1:=Array.size_push _;have z243:=z241.then x243;have hm243:=hm.ext z243 id;obtain ⟨w244,r244,hm244,x244⟩:=B_p (t0:=w241.heap.size) ⟨_,_,o243⟩ hm243 (fun tb y hs=>by
           obtain ⟨q',-, tb',e1,-, ⟨cs',T',h3⟩,-⟩:=hS1 _ y hs;simp only [Value.iface.injEq,Value.pointer.injEq,Option.some.injEq,Addr.mk.injEq,and_true,true_and] at e1;subst e1;have:=a_3 h3;exact ⟨by omega,cs',T',z243.old _ _ id h3⟩) (.pointer (ptr av q.node))
          have s244:=x244.size;refine ⟨A,L,C,rfl,⟨x241.keepT _,x241.keepT _,trivial⟩,⟨(cat (z241.old _ _ id ho1) h25).trans (cat (x237.old _ _ id ho1) h25).symm,trivial⟩,trivial,trivial,⟨(cat (z243.old _ _ id ho1) h25).trans (cat (z241.old _ _ id ho1) h25).symm,trivial⟩,w244,r244,⟨y_S hm243 x244 _,y_S hm243 x244 _,trivial⟩,trivial,hK227 w244 ?_⟩;have sb1:Sub (cutw (w404.heap.size+1) w1) (cutw (w404.heap.size+1) w244):=(Sub.new z243 (Nat.le_refl _)).trans (Sub.step x244 (Nat.le_refl _) fun b e hb=>by omega);have sb2:Sub (cutw w237.heap.size (w241.alloc (.cells #[.slice A L C] 152))) (cutw (w404.heap.size+1) w244):=(Sub.new (Ext.refl _) (by omega)).trans (Sub.step x244 (Nat.le_refl (w404.heap.size+1)) fun b e hb=>by omega);have s243:=z243.size;have old:∀ {b:Nat} {o:Obj},b≠w404.heap.size->objAt (w241.alloc (.cells #[.slice A L C] 152)) b=some o->objAt w244 b=some o:=fun hb h=>x244.old _ _ hb h;rw [f_c (by omega) (by omega)];refine ⟨⟨by omega,by omega,(hx.then z243).trans x244 fun b hb e=>by omega,old (by omega) (z243.old _ _ id ho1),_,hm244,?_⟩,by dsimp only;omega⟩;rw [take_succ i0 hqs,y_j hne0];refine ⟨fun k y hk=>?_,fun q' hq'=>?_,fun L' hL' hm'=>?_⟩
          ·rcases hk with ⟨rfl,rfl⟩|hk
           ·exact ⟨q,hqm,_,rfl,by omega,⟨_,_,old (by omega) o243⟩,t243.sub sb2 (by omega),rfl⟩
           ·obtain ⟨q',hq',tb,rfl,h2,⟨cs',T',h3⟩,h4,rfl⟩:=hS1 k y hk;exact ⟨q',hq',tb,rfl,h2,⟨cs',T',old (by omega) (z243.old _ _ id h3)⟩,h4.sub sb1 (by omega),rfl⟩
          ·rcases ma_.1 hq' with hq'|hq'
           ·obtain ⟨tb,h2,h3⟩:=hS2 q' hq';exact ⟨tb,h2.sub sb1 (by omega),.inr h3⟩
           ·obtain rfl:q'=q:=by simpa using hq'
            exact ⟨_,t243.sub sb2 (by omega),.inl ⟨rfl,rfl⟩⟩
          ·have:=D_o (k0:=.iface 149 (.pointer (some (adr w241.heap.size)))) (v0:=.pointer (some (adr (av q.node.toNat)))) hS3 hL' hm';omega
         ·rw [w_5,decide_eq_false hne0] at hno;cases hno
        ·have hge:=odf hge;have hall:x.pats.take i.toNat=x.pats:=tl_ (by omega);rw [hall] at hS2;obtain ⟨w500,hw500⟩:∃ w500,w500=w1:=⟨_,rfl⟩;subst hw500;have sbp:∀ {w':World},Ext (fun k=>k=sb) w500 w'->Sub (cutw (w404.heap.size+1) w500) (cutw N0 w'):=fun h'=>Sub.step h' (by omega) fun b e hb=>by omega
         have ss500:=ssw.add (G:=fun w'=>FPa av x (cutw N0 w') w'.heap.size (.map (some w404.heap.size))) fun w' h'=>⟨w404.heap.size,S,rfl,by have:=h'.size;omega,ssw.mapG hm hb219 h',fun k y hk=>(by
          obtain ⟨q',hq',tb,rfl,-, -, h4,rfl⟩:=hS1 k y hk;exact ⟨q',hq',tb,rfl,h4.sub (sbp h') h'.size,rfl⟩),fun q' hq'=>(by
          obtain ⟨tb,h2,h3⟩:=hS2 q' hq';exact ⟨tb,h2.sub (sbp h') h'.size,h3⟩),fun L hL hmL=>by have:=hS3 L hL hmL;omega⟩
         rintro w501 hw501;have x501:EF w500 w501:=hw501▸(Ext.refl _).drew;clear hw501;have ss501:=ss500.ext x501;refine (c_at' (own:=0) (ss501.nl hNL) hN.names).mono ?_;rintro _ w502 ⟨rfl,x502⟩;have ss502:=ss501.ext x502;refine ⟨_,rfl,⟨x502.keepT _,trivial⟩,⟨rfl,trivial⟩,?_⟩;refine (c_at' (own:=0) (ss502.nl hNL) hN.restP).mono ?_;rintro _ w503 ⟨rfl,x503⟩;have ss503:=ss502.ext x503;refine ⟨_,rfl,⟨x503.keepT _,trivial⟩,trivial,?_⟩;refine ⟨_,rfl,ss503.off (by decide),trivial,?_⟩;intro w504;have ss504:SS w N0 sb w504 _ _:=ss503.set 23 _;clear_value w504;refine ⟨trivial,_,rfl,ss504.off (by decide),trivial,?_⟩;intro w505;have ss505:SS w N0 sb w505 _ _:=ss504.set 30 _;clear_value w505;refine ⟨trivial,(D_T (ss505.nl hNL) hN.more hN.moreN).mono ?_⟩;rintro _ w257 ⟨o257,rfl,x257,ho257⟩;have ss257:=ss505.ext x257;refine ⟨o257,rfl,⟨x257.keepT _,trivial⟩,_,rfl,ss257.off (by decide),trivial,?_⟩;intro w260;have ss260:SS w N0 sb w260 _ _:=ss257.set 26 _;clear_value w260;refine (D_9 ss260 hNL hr0 hnew).mono ?_;rintro _ w262 ⟨rfl,x262,u27,ss262⟩;refine ⟨rfl,⟨ss260.keepT x262,trivial⟩,rfl,ss262.x,_,ss262.o,?_⟩;obtain ⟨⟨gF219,gPa⟩,gD⟩:=ss262.f _ (Ext.refl _);obtain ⟨⟨⟨gF190,gNe⟩,gdeps⟩,gprops⟩:=hF404 _ gF219;obtain ⟨⟨⟨⟨⟨⟨⟨⟨⟨gF128,gM⟩,gminI⟩,gmaxI⟩,gminC⟩,gmaxC⟩,gfirst⟩,gminP⟩,gmaxP⟩,greq⟩:=hF356 _ gF190;obtain ⟨gF126,gP⟩:=hF128 _ gF128;obtain ⟨⟨⟨gF113,gC⟩,gminL⟩,gmaxL⟩:=hF120 _ gF126;obtain ⟨gF111,gE⟩:=hF113 _ gF113;obtain ⟨gF109,gT⟩:=hF111 _ gF111;obtain ⟨⟨⟨-, gall⟩,gany⟩,gone⟩:=hF78 _ gF109;obtain ⟨bd,rfl,hbd,hmd⟩:=gD;obtain ⟨bn,Sn,en,hbn,hmn,hn1,hn2⟩:=gNe;obtain ⟨bp,Sp,ep,hbp,hmp,hp1,hp2,hp3⟩:=gPa;have hsz:=ss262.sz;have hz:=z_1 hk;have e26:=C_D ho257;clear hK61 hK110 hK112 hK114 hK127 hK129;refine ⟨hsz,by rw [hcs404,hcs356,hcs128,hcs120,hcs113,hcs111,hcs78];kernel_rfl,⟨o257,by rw [hcs404,hcs356,hcs128,hcs120,hcs113,hcs111,hcs78];kernel_rfl,by rw [hz];exact e26⟩,by rw [hz];rw [hcs404,hcs356,hcs128,hcs120,hcs113,hcs111,hcs78];kernel_rfl,⟨A341,C341,by rw [hz,<- gfirst.1];rw [hcs404,hcs356,hcs128,hcs120,hcs113,hcs111,hcs78];kernel_rfl⟩,by rw [hz];rw [hcs404,hcs356,hcs128,hcs120,hcs113,hcs111,hcs78];kernel_rfl,by rw [hz];rw [hcs404,hcs356,hcs128,hcs120,hcs113,hcs111,hcs78];kernel_rfl,fun h=>absurd hk h,fun _=>?_⟩;exact
          {
           f5:=by rw [hcs404,hcs356,hcs128,hcs120,hcs113,hcs111,hcs78];kernel_rfl
           ref:=by rw [hcs404,hcs356,hcs128,hcs120,hcs113,hcs111,hcs78];kernel_rfl
           types:=⟨u9,by rw [hcs404,hcs356,hcs128,hcs120,hcs113,hcs111,hcs78];kernel_rfl,gT⟩
           enm:=⟨u10,by rw [hcs404,hcs356,hcs128,hcs120,hcs113,hcs111,hcs78];kernel_rfl,gE⟩
           cst:=⟨u11,by rw [hcs404,hcs356,hcs128,hcs120,hcs113,hcs111,hcs78];kernel_rfl,by
            have h:=gC;unfold FC at h;cases hcst:x.cst<;>simp only [hcst] at h ⊢ <;>exact h⟩
           nt:=by rw [hcs404,hcs356,hcs128,hcs120,hcs113,hcs111,hcs78];kernel_rfl
           allOf:=⟨A64,L64,C64,by rw [hcs404,hcs356,hcs128,hcs120,hcs113,hcs111,hcs78];kernel_rfl,gall⟩
           anyOf:=⟨A65,L65,C65,by rw [hcs404,hcs356,hcs128,hcs120,hcs113,hcs111,hcs78];kernel_rfl,gany⟩
           oneOf:=⟨A66,L66,C66,by rw [hcs404,hcs356,hcs128,hcs120,hcs113,hcs111,hcs78];kernel_rfl,gone⟩
           iff:=by rw [hcs404,hcs356,hcs128,hcs120,hcs113,hcs111,hcs78];kernel_rfl
           thn:=by rw [hcs404,hcs356,hcs128,hcs120,hcs113,hcs111,hcs78];kernel_rfl
           els:=by rw [hcs404,hcs356,hcs128,hcs120,hcs113,hcs111,hcs78];kernel_rfl
           fmt:=⟨u19,by rw [hcs404,hcs356,hcs128,hcs120,hcs113,hcs111,hcs78];kernel_rfl,gM⟩
           maxP:=⟨.pointer q352,by rw [hcs404,hcs356,hcs128,hcs120,hcs113,hcs111,hcs78];kernel_rfl,gmaxP⟩
           minP:=⟨.pointer q351,by rw [hcs404,hcs356,hcs128,hcs120,hcs113,hcs111,hcs78];kernel_rfl,gminP⟩
           req:=⟨A355,L355,C355,by rw [hcs404,hcs356,hcs128,hcs120,hcs113,hcs111,hcs78];kernel_rfl,greq⟩
           names:=by rw [hcs404,hcs356,hcs128,hcs120,hcs113,hcs111,hcs78];kernel_rfl
           props:=⟨.map m403,by rw [hcs404,hcs356,hcs128,hcs120,hcs113,hcs111,hcs78];kernel_rfl,gprops⟩
           pats:=⟨.map (some w404.heap.size),bp,Sp,by rw [hcs404,hcs356,hcs128,hcs120,hcs113,hcs111,hcs78];kernel_rfl,ep,hbp,hmp,hp1,hp2,hp3⟩
           more:=by
            show _=some (moreV av x.more);rw [<- ho257];rw [hcs404,hcs356,hcs128,hcs120,hcs113,hcs111,hcs78];kernel_rfl
           deps':=⟨bd,by rw [hcs404,hcs356,hcs128,hcs120,hcs113,hcs111,hcs78];kernel_rfl,hbd,hmd⟩
           needs:=⟨bn,Sn,by rw [<- en];rw [hcs404,hcs356,hcs128,hcs120,hcs113,hcs111,hcs78];kernel_rfl,hbn,hmn,hn1,hn2⟩
           deps:=⟨.map m401,by rw [hcs404,hcs356,hcs128,hcs120,hcs113,hcs111,hcs78];kernel_rfl,gdeps⟩
           minI:=⟨.pointer q332,by rw [hcs404,hcs356,hcs128,hcs120,hcs113,hcs111,hcs78];kernel_rfl,gminI⟩
           maxI:=⟨.pointer q333,by rw [hcs404,hcs356,hcs128,hcs120,hcs113,hcs111,hcs78];kernel_rfl,gmaxI⟩
           uniq:=by rw [hcs404,hcs356,hcs128,hcs120,hcs113,hcs111,hcs78];kernel_rfl
           cont:=by rw [hcs404,hcs356,hcs128,hcs120,hcs113,hcs111,hcs78];kernel_rfl
           minC:=⟨.pointer q334,by rw [hcs404,hcs356,hcs128,hcs120,hcs113,hcs111,hcs78];kernel_rfl,gminC⟩
           maxC:=⟨.pointer q335,by rw [hcs404,hcs356,hcs128,hcs120,hcs113,hcs111,hcs78];kernel_rfl,gmaxC⟩
           first:=⟨A341,L341,C341,by rw [hcs404,hcs356,hcs128,hcs120,hcs113,hcs111,hcs78];kernel_rfl,gfirst⟩
           items:=by rw [hcs404,hcs356,hcs128,hcs120,hcs113,hcs111,hcs78];kernel_rfl
           minL:=⟨.pointer q117,by rw [hcs404,hcs356,hcs128,hcs120,hcs113,hcs111,hcs78];kernel_rfl,gminL⟩
           maxL:=⟨.pointer q118,by rw [hcs404,hcs356,hcs128,hcs120,hcs113,hcs111,hcs78];kernel_rfl,gmaxL⟩
           pat:=⟨u44,by rw [hcs404,hcs356,hcs128,hcs120,hcs113,hcs111,hcs78];kernel_rfl,gP⟩}
      have q19:cs128[19]? =some (.pointer none):=by rw [hcs128,hcs120,hcs113,hcs111,hcs78];kernel_rfl
      refine ⟨fun hi=>?_,fun hi=>k129 w128 (.pointer none) ((ssn128.same q19).add fun w' _=>by unfold FM;rw [if_neg (by rw [hi];decide)])⟩;refine (A_5 (h8.keep ssn128.keepD)).mono ?_;rintro _ w264 ⟨b,tb,cb,rfl,x264,hb1,hb2,hbo,hc1,hc2,hco,hTk⟩;have ss264:=ssn128.ext x264;refine ⟨_,rfl,⟨x264.keepT _,trivial⟩,_,rfl,ss264.off (by decide),trivial,?_⟩;intro w267;have x267:Ext (fun k=>k=sb) w264 w267:=w_1 _;have ss267:SS w N0 sb w267 _ _:=ss264.set 19 _;clear_value w267;have hn:=ssn128.n1;have hs:=ssn128.sbl;refine k129 w267 _ (ss267.add fun w' h'=>?_);have z:=x267.trans h' fun _ _ e=>e;have zs:=z.size;unfold FM;rw [if_pos hi];exact ⟨b,_,_,_,tb,cb,_,_,rfl,by omega,by rw [x_h (by omega)];exact z.old _ _ (show ¬ b=sb by omega) hbo,by omega,by rw [x_h (by omega)];exact z.old _ _ (show ¬ cb=sb by omega) hco,hTk.sub (ssn128.lift z) zs⟩
     have q44:cs120[44]? =some .nilIface:=by rw [hcs120,hcs113,hcs111,hcs78];kernel_rfl
     refine ⟨fun hi=>?_,fun hi=>k127 w120 .nilIface ((ssn120.same q44).add fun w' _=>by unfold FP;rw [if_neg (by rw [hi];decide)])⟩;refine (y_F (h7.keep ssn120.keepD)).mono ?_;rintro _ w269 ⟨A,L,C,rfl,x269,hR⟩;refine ⟨A,L,C,rfl,⟨x269.keepT _,trivial⟩,trivial,trivial,?_⟩;intro w271;have t271:RTak (cutw w120.heap.size w271) (w269.heap.size+1) w269.heap.size x.pat.ts:=A_B (w':=w269) hR x269.size;have x271:EF w269 w271:=(Ext.refl _).alloc _;have n271:w271.heap.size=w269.heap.size+1:=Array.size_push _;have ss271:=(ssn120.ext x269).ext x271;clear_value w271;refine ⟨_,rfl,ss271.off (by decide),trivial,?_⟩;intro w273;have x273:Ext (fun k=>k=sb) w271 w273:=w_1 _;have ss273:SS w N0 sb w273 _ _:=ss271.set 44 _;clear_value w273;refine k127 w273 _ (ss273.add fun w' h'=>?_);have z:=x273.trans h' fun _ _ e=>e;have zs:=z.size;unfold FP;rw [if_pos hi];exact ⟨w269.heap.size,rfl,t271.sub (ssn120.lift z) (by omega)⟩
    obtain ⟨e13,e13'⟩:=h6.len;refine ⟨fun hlt=>?_,fun hge=>?_⟩
    ·have hlt:=odt hlt;obtain ⟨p,v,hp,hvs,cv,hc,hvx⟩:=(h6.keep ssn113.keepD).get (i:=0) (by omega) hlt;have hoc:okJ v:=(hN.cstv v (mg_ hvs)).ok;have call:=D_8 (szJ v) v cv w113 (Nat.le_refl _) hoc hvx;have hvx':=hvx;obtain ⟨xk,xb,xn,xt,xns,xxs⟩:=v;obtain ⟨a5,l5,c5,a6,l6,c6,rfl,-, -, -⟩:=w_8.1 hvx';obtain ⟨⟨_,_,g0⟩,-, ⟨_,_,g1⟩,-, ⟨_,_,g2⟩,-, ⟨_,_,g3⟩,-, ⟨_,_,g4⟩,-, ⟨_,_,g5⟩,-⟩:=hc;refine ⟨p,hp,⟨by omega,hlt⟩,_,g0.cell,_,g1.cell,_,g2.cell,_,g3.cell,_,_,_,g4.cell,_,_,_,g5.cell,call.mono ?_⟩;rintro _ w282 ⟨o,rfl,x282,ra⟩;have ss282:=ssn113.ext x282;refine ⟨o,rfl,⟨x282.keepT _,trivial⟩,trivial,?_⟩;intro w284;have x284:EF w282 w284:=(Ext.refl _).alloc _;have o284:objAt w284 w282.heap.size=some (.cells #[.nilIface] 20 (0,0)):=w_3 _ _;clear_value w284;refine ⟨⟨_,_,o284,rfl,by simp,by decide⟩,trivial,?_⟩;intro w285;have x285:Ext (fun k=>k=w282.heap.size) w284 w285:=w_1 (i:=0) _;have o285:objAt w285 w282.heap.size=some (.cells #[ifcV o] 20 (0,0)):=w_4 o284 (i:=0) _;clear_value w285;have y285:EF w282 w285:=x284.trans x285 fun b hb e=>by omega
     have ss285:=ss282.ext y285;refine ⟨_,rfl,ss285.off (by decide),trivial,?_⟩;intro w287;have x287:Ext (fun k=>k=sb) w285 w287:=w_1 _;have ss287:SS w N0 sb w287 _ _:=ss285.set 11 _;clear_value w287;have hn:=ss282.n1;have hs:=ss282.sbl;refine k114 w287 _ (ss287.add fun w' h'=>?_);have z:=x287.trans h' fun _ _ e=>e;have zs:=z.size;have ys:=y285.size;have hlt285:=a_3 o285;unfold FC;cases hcst:x.cst with
     | nil=>rw [hcst] at hvs;cases hvs
     | cons c0 rest=>
      rw [hcst] at hvs;cases hvs;exact ⟨w282.heap.size,_,_,o,rfl,by omega,by rw [x_h (by omega)];exact z.old _ _ (show ¬ w282.heap.size=sb by omega) o285,RA.sub ((Sub.new y285 (Nat.le_refl _)).trans (ssn113.lift z)) (by omega) ra⟩
    ·have hge:=odf hge;have q11:cs113[11]? =some (.pointer none):=by rw [hcs113,hcs111,hcs78];kernel_rfl
     refine k114 w113 (.pointer none) ((ssn113.same q11).add fun w' _=>?_);have:x.cst=[]:=List.eq_nil_of_length_eq_zero (by omega);unfold FC;rw [this]
   have q10:cs111[10]? =some (.pointer none):=by rw [hcs111,hcs78];kernel_rfl
   refine ⟨fun hi=>?_,fun hi=>k112 w111 (.pointer none) ((ssn111.same q10).add fun w' _=>by unfold FE;rw [if_neg (by rw [hi];decide)])⟩;obtain ⟨e12,e12'⟩:=h5.len;have hoks:∀ y∈x.enm,okJ y:=fun y hy=>(hN.enm y hy).ok;refine (D_V (D_8 (szL x.enm)) (h5.keep ssn111.keepD) (Nat.le_refl _) hoks).mono ?_;rintro _ w289 ⟨A,L,C,rfl,x289,hA⟩;have hLl:L=x.enm.length:=hA.1;refine ⟨A,L,C,rfl,⟨x289.keepT _,trivial⟩,(C_s (hA.sub (Sub.cut _ _) (Nat.le_refl _)) (by omega) hoks).mono ?_⟩;rintro _ w292 ⟨b,rfl,hb1,hb2,x292,hbo⟩;have ss292:=(ssn111.ext x289).ext x292;refine ⟨_,rfl,⟨x292.keepT _,trivial⟩,_,rfl,ss292.off (by decide),trivial,?_⟩;intro w295;have x295:Ext (fun k=>k=sb) w292 w295:=w_1 _;have ss295:SS w N0 sb w295 _ _:=ss292.set 10 _;clear_value w295;have hn:=(ssn111.ext x289).n1;have hs:=ss292.sbl;refine k112 w295 _ (ss295.add fun w' h'=>?_);have z:=x295.trans h' fun _ _ e=>e;have zs:=z.size;have ys:=x292.size;unfold FE;rw [if_pos hi];exact ⟨b,_,_,A,L,C,_,rfl,by omega,by rw [x_h (by omega)];exact z.old _ _ (show ¬ b=sb by omega) hbo,hA.sub ((Sub.new x292 (Nat.le_refl _)).trans (ssn111.lift z)) (by omega),rfl⟩
  obtain ⟨e10,e10'⟩:=h4.len;refine ⟨fun hlt=>?_,fun hge=>?_⟩
  ·have hlt:=odt hlt;refine ⟨trivial,?_⟩;intro w296;have x296:EF w78 w296:=(Ext.refl _).alloc _;have o296:objAt w296 w78.heap.size=some (.cells #[.int .i64 0] 145 (0,0)):=w_3 _ _;clear_value w296;have ss296:=ssn78.ext x296;refine ⟨_,rfl,ss296.off (by decide),trivial,?_⟩;intro w298;have x298:Ext (fun k=>k=sb) w296 w298:=w_1 _;have ss298:SS w N0 sb w298 _ _:=ss296.set 9 _;clear_value w298;have hn:=ssn78.n1;have hs:=ssn78.sbl;have hz9:=ssn78.sz;have y298:Ext (fun k=>k=sb) w78 w298:=(x296.mono fun _ _ e=>e.elim).trans x298 fun _ _ e=>e;have o298:=x298.old _ _ (show ¬ w78.heap.size=sb by omega) o296;have h9':(cs78.setIfInBounds 9 (.pointer (some (adr w78.heap.size))))[9]? =some (.pointer (some (adr w78.heap.size))):=y_B (by omega);refine ⟨fun i w1=>0<=i/\i<=s10.l/\Ext (fun k=>k=sb) w78 w1/\objAt w1 sb=some (.cells (cs78.setIfInBounds 9 (.pointer (some (adr w78.heap.size)))) 116 (0,0))/\objAt w1 w78.heap.size=some (.cells #[.int .i64 (bitsK (x.types.take i.toNat):Nat)] 145 (0,0)),fun i _=>((s10.l:Int)-i).toNat,⟨by omega,by omega,y298,ss298.o,o298⟩,?_⟩;rintro i w1 ⟨i0,i1,hx,ho1,hot⟩;have ssw:SS w N0 sb w1 (cs78.setIfInBounds 9 (.pointer (some (adr w78.heap.size)))) F78:=ssn78.step hx ho1 ss298.sz;refine ⟨fun hlt=>?_,fun hge=>?_⟩
   ·have hlt:=odt hlt;obtain ⟨p,q,hp,hqs,cq,hc,rfl⟩:=(h4.keep ssw.keepD).get i0 hlt;refine ⟨p,hp,⟨i0,hlt⟩,q,hc.1.choose_spec.2.cell,_,rfl,_,cat ho1 h9',(E_o hot (A_a _) q).mono ?_⟩;rintro _ w308 ⟨rfl,ho8,x308⟩;rw [f_c (by omega) (by omega)];refine ⟨rfl,⟨fun k cs fr hkk=>x308.old k _ (fun e=>by
     have e:k=w78.heap.size:=e;rw [e,hot] at hkk;cases hkk) hkk,trivial⟩,⟨by omega,by omega,hx.trans x308 fun b hb e=>by omega,x308.old _ _ (show ¬ sb=w78.heap.size by omega) ho1,?_⟩,by dsimp only;omega⟩
    rw [take_succ i0 hqs,bitsK,List.foldl_append];exact ho8
   ·have hge:=odf hge;have hall:x.types.take i.toNat=x.types:=tl_ (by omega);rw [hall] at hot;refine k110 w1 _ (ssw.add fun w' h'=>?_);have hne:x.types≠[]:=fun e=>by rw [e] at e10;simp at e10;omega
    have zs:=h'.size;have:=a_3 hot;unfold FT;rw [if_neg hne];exact ⟨_,_,_,rfl,by omega,by rw [x_h (by omega)];exact h'.old _ _ (show ¬ w78.heap.size=sb by omega) hot⟩
  ·have hge:=odf hge;have q9:cs78[9]? =some (.pointer none):=by rw [hcs78];kernel_rfl
   refine k110 w78 (.pointer none) ((ssn78.same q9).add fun w' _=>?_);have:x.types=[]:=List.eq_nil_of_length_eq_zero (by omega);unfold FT;rw [if_pos this]
 have hbool:x.kind≠0->K61 true w60:=by
  intro hk;refine hK61 true w60 ⟨fun _=>?_,nofun⟩;refine ⟨trivial,?_⟩;intro w64;have x64:EF w60 w64:=(Ext.refl _).alloc _;have o64:objAt w64 w60.heap.size=some (.cells #[.bool false] 4 (0,0)):=w_3 _ _;clear_value w64;refine ⟨⟨_,_,o64,rfl,by simp,by decide⟩,trivial,?_⟩;intro w65;have x65:Ext (fun k=>k=w60.heap.size) w64 w65:=w_1 (i:=0) _;have o65:objAt w65 w60.heap.size=some (.cells #[.bool (x.kind==1)] 4 (0,0)):=w_4 o64 (i:=0) _;clear_value w65;have y65:EF w60 w65:=x64.trans x65 fun b hb e=>by omega
  have ss65:=ss60.ext y65;refine ⟨_,rfl,ss65.off (by decide),trivial,?_⟩;intro w67;have x67:Ext (fun k=>k=sb) w65 w67:=w_1 _;have ss67:SS w N0 sb w67 _ _:=ss65.set 5 _;clear_value w67;have hn:=ss60.n1;have hs:=ss60.sbl;have hlt:=a_3 o65;have zs:=x67.size;have he:(eff x).more.k=0/\(eff x).restP=0/\(eff x).first=[]/\(eff x).items=0/\(eff x).restI=0:=by
   unfold eff;rw [if_neg hk];exact ⟨rfl,rfl,rfl,rfl,rfl⟩
  obtain ⟨he1,he2,he3,he4,he5⟩:=he;refine ⟨rfl,ss67.x,_,ss67.o,⟨ss67.sz,by kernel_rfl,⟨none,by kernel_rfl,by rw [he1];rfl⟩,by rw [he2];kernel_rfl,⟨none,0,by rw [he3];kernel_rfl⟩,by rw [he4];kernel_rfl,by rw [he5];kernel_rfl,fun _=>⟨w60.heap.size,4,(0,0),by kernel_rfl,by omega,?_⟩,fun h=>absurd h hk⟩⟩;rw [x_h (by omega)];have e:decide (x.kind=1)=(x.kind==1):=rfl;rw [e];exact x67.old _ _ (show ¬ w60.heap.size=sb by omega) o65
 refine ⟨fun h1'=>?_,fun h1'=>?_⟩
 ·by_cases hk:x.kind=0
  ·rw [hk];exact hwords hk
  ·have hkk:=hN.kind;have h1':x.kind≠1:=by simpa using h1'
   have hk2:x.kind=2:=by omega
   rw [hk2];exact hbool hk
 ·have h1':x.kind=1:=by simpa using h1'
  exact hbool (by omega)
section
variable {w:World} {B:Nat} {av:Nat->Nat} {x:JN} {cs cs':Array Value}
theorem SchK.congr (h:SchK w B av x cs)(e:∀ j,5<=j->cs'[j]? =cs[j]?):SchK w B av x cs' where
 f5:=by rw [e _ (by decide)];exact h.f5
 ref:=by rw [e _ (by decide)];exact h.ref
 types:=by rw [e _ (by decide)];exact h.types
 enm:=by rw [e _ (by decide)];exact h.enm
 cst:=by rw [e _ (by decide)];exact h.cst
 nt:=by rw [e _ (by decide)];exact h.nt
 allOf:=by rw [e _ (by decide)];exact h.allOf
 anyOf:=by rw [e _ (by decide)];exact h.anyOf
 oneOf:=by rw [e _ (by decide)];exact h.oneOf
 iff:=by rw [e _ (by decide)];exact h.iff
 thn:=by rw [e _ (by decide)];exact h.thn
 els:=by rw [e _ (by decide)];exact h.els
 fmt:=by rw [e _ (by decide)];exact h.fmt
 maxP:=by rw [e _ (by decide)];exact h.maxP
 minP:=by rw [e _ (by decide)];exact h.minP
 req:=by rw [e _ (by decide)];exact h.req
 names:=by rw [e _ (by decide)];exact h.names
 props:=by rw [e _ (by decide)];exact h.props
 pats:=by rw [e _ (by decide)];exact h.pats
 more:=by rw [e _ (by decide)];exact h.more
 deps':=by rw [e _ (by decide)];exact h.deps'
 needs:=by rw [e _ (by decide)];exact h.needs
 deps:=by rw [e _ (by decide)];exact h.deps
 minI:=by rw [e _ (by decide)];exact h.minI
 maxI:=by rw [e _ (by decide)];exact h.maxI
 uniq:=by rw [e _ (by decide)];exact h.uniq
 cont:=by rw [e _ (by decide)];exact h.cont
 minC:=by rw [e _ (by decide)];exact h.minC
 maxC:=by rw [e _ (by decide)];exact h.maxC
 first:=by rw [e _ (by decide)];exact h.first
 items:=by rw [e _ (by decide)];exact h.items
 minL:=by rw [e _ (by decide)];exact h.minL
 maxL:=by rw [e _ (by decide)];exact h.maxL
 pat:=by rw [e _ (by decide)];exact h.pat
theorem x_o {cs:Array Value}{j:Nat}{v:Value}(h:i≠j):(cs.setIfInBounds i v)[j]? =cs[j]? :=by rw [Array.getElem?_setIfInBounds,if_neg h]
theorem PreC.done (h:PreC w B av x cs)(t:BA){l:Nat}(ho:o.isNone=decide ((eff x).more.k=0))(hq:q=ptr av (eff x).items)(hl:l=(eff x).first.length):
  SchC w B av x ((((cs.setIfInBounds 4 (.string t)).setIfInBounds 0 (.bool (!o.isNone))).setIfInBounds 1 (.bool (!q.isNone))).setIfInBounds 2 (.int .i64 (l:Int))):=by
 have hz:=h.sz;have e:∀ j,5<=j->((((cs.setIfInBounds 4 (.string t)).setIfInBounds 0 (.bool (!o.isNone))).setIfInBounds 1 (.bool (!q.isNone))).setIfInBounds 2 (.int .i64 (l:Int)))[j]? =cs[j]? :=fun j hj=>by
  rw [x_o (by omega),x_o (by omega),x_o (by omega),x_o (by omega)]
 refine ⟨?_,?_,?_,?_,⟨t,?_⟩,by rw [e _ (by decide)];exact h.f30,by rw [e _ (by decide)];exact h.f41,fun hk=>?_,fun hk=>(h.words hk).congr e⟩
 ·rw [x_o (by decide),x_o (by decide),y_B (by simp;omega),ho];simp
 ·rw [x_o (by decide),y_B (by simp;omega),hq,w_5];simp
 ·rw [y_B (by simp;omega),hl]
 ·rw [x_o (by decide),x_o (by decide),x_o (by decide),x_o (by decide)];exact h.f3
 ·rw [x_o (by decide),x_o (by decide),x_o (by decide),y_B (by omega)]
 ·obtain ⟨b,T,fr,h1,h2⟩:=h.bool hk;exact ⟨b,T,fr,by rw [e _ (by decide)];exact h1,h2⟩
end
def y_C (w:World):Prop:=∀ (i:Int) (w':World),0<=i->i<=4194304->EF w w'->CP 63 #[.int .i64 i] w' fun e w2=>∃ t,e=.returned (.string t)/\EF w' w2
def avOf (bs:List Nat)(n:Nat):Nat:=bs.getD (n-1) 0
theorem y_8 {bs:List Nat}{b:Nat}(h:bs[i]? =some b):avOf bs (i+1)=b:=by
 unfold avOf;rw [Nat.add_sub_cancel,List.getD_eq_getElem?_getD,h];rfl
structure L1 (w w1:World) (a:OA) (l c:Nat) (bs:List Nat):Prop where
 x:EF w w1
 own:Own w.heap.size w1 72 1 a l c (bs.map fun b=>Value.pointer (some (adr b)))
 nd:bs.Nodup
 at_:∀ b∈bs,w.heap.size<=b/\objAt w1 b=some (.cells sch0 116 (0,0))
structure L2 (w w7:World) (bs:List Nat) (s:List JN) (i:Nat) (w1:World):Prop where
 x:Ext (fun k=>k∈bs) w7 w1
 no:∀ (j b:Nat),i<=j->bs[j]? =some b->objAt w1 b=some (.cells sch0 116 (0,0))
 yes:∀ (j b:Nat) (x:JN),j<i->bs[j]? =some b->s[j]? =some x->∃ cs,objAt w1 b=some (.cells cs 116 (0,0))/\SchC (cutw w7.heap.size w1) w1.heap.size (avOf bs) x cs
theorem B_T {w:World}{a:OA}{l c:Nat}{s:List JN}(hr:RJNs w a l c s)(hs:s≠[])(hS:okS s)(hU:okU s)(hnew:∀ x∈s,NewN x)(hI:y_C w)(hDB:DB.B<=w.heap.size):
  CP 41 #[.slice a l c,.int .i64 2020] w fun e w'=>∃ av,e=.returned (.pointer (some (adr (av 1))))/\EF w w'/\Sch w' w'.heap.size av s:=by
 have ht:Tryz.prog.underlying 102=some (.slice 72):=by kernel_rfl
 have hi:Tryz.prog.info? 72=some Tryz.t72:=by kernel_rfl
 obtain ⟨e1,e1'⟩:=hr.len;refine z_z a l c 2020 w _ ⟨fun A L C i w1=>0<=i/\i<=l/\∃ bs:List Nat,(bs.length:Int)=i/\L1 w w1 A L C bs,fun _ _ _ i _=>((l:Int)-i).toNat,⟨by omega,by omega,[],rfl,Ext.refl w,Own.nil ..,List.nodup_nil,nofun⟩,?_⟩;rintro A L C i w7 ⟨i0,i1,bs,hbs,h1⟩;have hL:L=bs.length:=by have:=h1.own.len.1;simpa using this.symm
 refine ⟨fun hlt=>?_,fun hge=>?_⟩
 ·have hlt:=odt hlt;refine ⟨trivial,trivial,?_⟩;intro w8;have x8:EF w7 w8:=(Ext.refl _).alloc _;have o8:objAt w8 w7.heap.size=some (.cells sch0 116 (0,0)):=w_3 _ _;clear_value w8;refine ⟨trivial,?_⟩;intro w9;have x9:EF w8 w9:=(Ext.refl _).alloc _;have o9:objAt w9 w8.heap.size=some (.cells #[.pointer (some (adr w7.heap.size))] 72 (0,0)):=w_3 _ _;clear_value w9;have y9:=x8.then x9;have hs7:=h1.x.size;have hs9:=y9.size;obtain ⟨A',C',w11,r,hO',xA,-⟩:=x_t (t:=102) (T:=72) ht hi (z:=.pointer none) (by kernel_rfl) (by kernel_rfl) (by
   have:Tryz.t72.bytes=8:=by kernel_rfl
   omega) rfl (h1.own.keep y9 fun _ _=>id) (by omega) (p:=adr w8.heap.size) (u:=.pointer (some (adr w7.heap.size))) (cat0 o9 rfl) rfl (by omega) 102 #[false,false]
  have hT:=h1.own.isT;have keep:∀ {b:Nat} {cs:Array Value},objAt w9 b=some (.cells cs 116 (0,0))->objAt w11 b=some (.cells cs 116 (0,0)):=fun {b cs} hb=>xA.old _ _ (fun e=>by
   obtain ⟨-, cs',fr',h2⟩:=hT b e;rw [y9.old _ _ id h2] at hb;cases hb) hb
  refine ⟨A',L+1,C',w11,r,trivial,?_⟩;rw [f_c (by omega) (by omega)];refine ⟨⟨by omega,by omega,bs++[w7.heap.size],by simp;omega,(h1.x.then y9).trans xA fun b hb e=>by have:=(hT b e).1;omega,by rw [List.map_append];exact hO',?_,fun b hb=>?_⟩,by dsimp only;omega⟩
  ·refine List.nodup_append.2 ⟨h1.nd,by simp,fun b hb b' hb'=>?_⟩;obtain rfl:b'=w7.heap.size:=by simpa using hb'
   have:=a_3 (h1.at_ b hb).2;omega
  ·rcases ma_.1 hb with hb|hb
   ·obtain ⟨g1,g2⟩:=h1.at_ b hb;exact ⟨g1,keep (y9.old _ _ id g2)⟩
   ·obtain rfl:b=w7.heap.size:=by simpa using hb
    exact ⟨by omega,keep (x9.old _ _ id o8)⟩
 ·have hge:=odf hge;have hN:bs.length=s.length:=by omega
  have hs7:=h1.x.size;have hlt7:∀ b∈bs,b<w7.heap.size:=fun b hb=>a_3 (h1.at_ b hb).2;have hNL:NL w7 A L C (avOf bs) s.length:=by
   refine ⟨by omega,by omega,fun j hj=>?_⟩;obtain ⟨b,hb⟩:∃ b,bs[j]? =some b:=⟨_,List.getElem?_eq_getElem (by omega)⟩;obtain ⟨p,hp,hat⟩:=h1.own.at (j:=j) (u:=.pointer (some (adr b))) (by rw [List.getElem?_map,hb];rfl);exact ⟨p,hp,by rw [y_8 hb];exact hat⟩
  have hXn:∀ {w1:World} {X:Nat->Prop},Ext X w7 w1->(∀ b,X b->b∈bs)->NL w1 A L C (avOf bs) s.length:=fun hx hX=>hNL.ext hx fun b cs fr hb e=>by
   have:=(h1.at_ b (hX b e)).2;rw [hb] at this;cases this
  refine ⟨fun i w1=>0<=i/\i<=l/\L2 w w7 bs s i.toNat w1,fun i _=>((l:Int)-i).toNat,⟨by omega,by omega,Ext.refl _,fun j b _ hb=>(h1.at_ b (mg_ hb)).2,fun j b x hj=>by simp at hj⟩,?_⟩;rintro i w1 ⟨i0,i1,h2⟩;have y1:EF w w1:=h1.x.trans h2.x fun b hb e=>by have:=(h1.at_ b e).1;omega
  refine ⟨fun hlt=>?_,fun hge=>?_⟩
  ·have hlt:=odt hlt;obtain ⟨p,x,hp,hxs,cx,hc,hrx⟩:=(SlL.get (RJNs.keep y1.keep hr) i0 hlt);have hxm:=mg_ hxs;obtain ⟨b,hb⟩:∃ b,bs[i.toNat]? =some b:=⟨_,List.getElem?_eq_getElem (by omega)⟩;have hbm:=mg_ hb;have hrx0:=hrx;obtain ⟨s3,s4,s5,s10,s12,s13,s19,s21,s31,s39,s40,s41,s42,s43,s50,s53,rfl,-⟩:=hrx;refine ⟨p,hp,⟨i0,hlt⟩,_,hc.cl0 (Ext.refl _) rfl,_,hc.cl (Ext.refl _) 1 rfl,_,_,_,hc.cl (Ext.refl _) 2 rfl,_,_,_,hc.cl (Ext.refl _) 3 rfl,_,_,_,hc.cl (Ext.refl _) 4 rfl,_,hc.cl (Ext.refl _) 5 rfl,_,hc.cl (Ext.refl _) 6 rfl,_,hc.cl (Ext.refl _) 7 rfl,_,hc.cl (Ext.refl _) 8 rfl,_,_,_,hc.cl (Ext.refl _) 9 rfl,_,hc.cl (Ext.refl _) 10 rfl,_,_,_,hc.cl (Ext.refl _) 11 rfl,_,_,_,hc.cl (Ext.refl _) 12 rfl,_,hc.cl (Ext.refl _) 13 rfl,_,hc.cl (Ext.refl _) 14 rfl,_,hc.cl (Ext.refl _) 15 rfl,_,hc.cl (Ext.refl _) 16 rfl,_,hc.cl (Ext.refl _) 17 rfl,_,_,_,hc.cl (Ext.refl _) 18 rfl,_,hc.cl (Ext.refl _) 19 rfl,_,_,_,hc.cl (Ext.refl _) 20 rfl,_,hc.cl (Ext.refl _) 21 rfl,_,hc.cl (Ext.refl _) 22 rfl,_,hc.cl (Ext.refl _) 23 rfl,_,hc.cl (Ext.refl _) 24 rfl,_,hc.cl (Ext.refl _) 25 rfl,_,hc.cl (Ext.refl _) 26 rfl,_,hc.cl (Ext.refl _) 27 rfl,_,hc.cl (Ext.refl _) 28 rfl,_,hc.cl (Ext.refl _) 29 rfl,_,_,_,hc.cl (Ext.refl _) 30 rfl,_,hc.cl (Ext.refl _) 31 rfl,_,hc.cl (Ext.refl _) 32 rfl,_,hc.cl (Ext.refl _) 33 rfl,_,hc.cl (Ext.refl _) 34 rfl,_,hc.cl (Ext.refl _) 35 rfl,_,hc.cl (Ext.refl _) 36 rfl,_,hc.cl (Ext.refl _) 37 rfl,_,_,_,hc.cl (Ext.refl _) 38 rfl,_,_,_,hc.cl (Ext.refl _) 39 rfl,_,_,_,hc.cl (Ext.refl _) 40 rfl,_,_,_,hc.cl (Ext.refl _) 41 rfl,_,_,_,hc.cl (Ext.refl _) 42 rfl,_,hc.cl (Ext.refl _) 43 rfl,_,hc.cl (Ext.refl _) 44 rfl,_,hc.cl (Ext.refl _) 45 rfl,_,hc.cl (Ext.refl _) 46 rfl,_,hc.cl (Ext.refl _) 47 rfl,_,hc.cl (Ext.refl _) 48 rfl,_,_,_,hc.cl (Ext.refl _) 49 rfl,_,hc.cl (Ext.refl _) 50 rfl,_,hc.cl (Ext.refl _) 51 rfl,_,_,_,hc.cl (Ext.refl _) 52 rfl,trivial,trivial,?_⟩;intro w71;have x71:EF w1 w71:=(Ext.refl _).alloc _;clear_value w71;rintro w72 hw72;have x72:EF w1 w72:=hw72▸x71.drew;clear hw72;have z72:Ext (fun k=>k∈bs) w7 w72:=h2.x.then x72;have o72:=x72.old _ _ id (h2.no i.toNat b (Nat.le_refl _) hb);have cell:∀ {w':World},NL w' A L C (avOf bs) s.length->∃ p,A=some p/\w'.cell? (p.add (i.toNat*1))=some (.pointer (some (adr b))):=fun h=>by
    obtain ⟨p,hp,hat⟩:=h.2.2 i.toNat (by omega);rw [y_8 hb] at hat;exact ⟨p,hp,by rw [Nat.mul_one];exact hat.cell⟩
   have nl72:=hXn z72 fun b e=>e;obtain ⟨p72,hp72,c72⟩:=cell nl72;refine ⟨p72,hp72,⟨i0,by omega⟩,_,c72,?_⟩;rw [f_c (by omega) (by omega)];have hown:i+1=((i.toNat+1:Nat):Int):=by omega
   have hb7:=hlt7 b hbm;have hs72:=z72.size;have hset:=E_G (own:=i.toNat+1) nl72 hb7 hs72 (by have:=(h1.at_ b hbm).1;omega) (hrx0.keep x72.keep) (hS i.toNat x hxs) (hU i.toNat x hxs) (hnew x hxm) o72;rw [<- hown] at hset;refine hset.mono ?_;rintro _ w76 ⟨rfl,x76,cs76,o76,pre⟩;have kT:∀ {wa wb:World} {cs:Array Value},objAt wa b=some (.cells cs 116 (0,0))->Ext (fun k=>k=b) wa wb->KeepT 44 wa wb:=fun ho hx k c fr hk=>hx.old k _ (fun e=>by
    have e:k=b:=e;rw [e,ho] at hk;cases hk) hk
   refine ⟨rfl,⟨kT o72 x76,trivial⟩,trivial,?_⟩;rintro w77 hw77;have x77:EF w76 w77:=hw77▸(Ext.refl _).drew;clear hw77;have z77:Ext (fun k=>k∈bs) w7 w77:=(z72.trans x76 fun k _ e=>by
    have e:k=b:=e;exact e▸hbm).then x77
   obtain ⟨p77,hp77,c77⟩:=cell (hXn z77 fun b e=>e);have y77:EF w w77:=h1.x.trans z77 fun b hb e=>by have:=(h1.at_ b e).1;omega
   refine ⟨p77,hp77,⟨i0,by omega⟩,_,c77,(hI (i+1) w77 (by omega) (by omega) y77).mono ?_⟩;rintro _ w81 ⟨t,rfl,x81⟩;obtain ⟨p81,hp81,c81⟩:=cell (hXn (z77.then x81) fun b e=>e);have e81:p81=p77:=by rw [hp77] at hp81;exact (Option.some.inj hp81).symm
   subst e81;have o81:=(x77.then x81).old _ _ id o76;have sz76:=pre.sz;refine ⟨t,rfl,⟨x81.keepT _,trivial⟩,⟨c81.trans c77.symm,trivial⟩,_,rfl,⟨cs76,116,?_⟩,trivial,?_⟩
   ·rw [Addr.add_lit];exact ⟨o81,rfl,by simp only;omega,by decide⟩
   intro w84;have x84:Ext (fun k=>k=b) w81 w84:=w_1 _;have o84:objAt w84 b=some (.cells (cs76.setIfInBounds 4 (.string t)) 116 (0,0)):=w_4 o81 _;clear_value w84;have z84:Ext (fun k=>k=b) w72 w84:=(((x76.then x77).then x81).trans x84 fun _ _ e=>e);have zz84:Ext (fun k=>k∈bs) w7 w84:=z72.trans z84 fun k _ e=>by
    have e:k=b:=e;exact e▸hbm
   obtain ⟨p84,hp84,c84⟩:=cell (hXn zz84 fun b e=>e);obtain ⟨o26,h26,ho26⟩:=pre.f26;obtain ⟨a39,c39,h39⟩:=pre.f39;refine ⟨trivial,p84,hp84,⟨i0,by omega⟩,_,c84,(A_1 o84 (by rw [Array.size_setIfInBounds];exact sz76) (by rw [x_o (by decide)];exact h26) (by rw [x_o (by decide)];exact pre.f3) (by rw [x_o (by decide)];exact pre.f40) (by rw [x_o (by decide)];exact h39)).mono ?_⟩;rintro _ w88 ⟨rfl,x88,o88⟩;have z88:Ext (fun k=>k=b) w72 w88:=z84.trans x88 fun _ _ e=>e;have y88:Ext (fun k=>k=b) w1 w88:=(x72.mono fun _ _ e=>e.elim).trans z88 fun _ _ e=>e;have w7688:Ext (fun k=>k=b) w76 w88:=((((x77.then x81).mono fun _ _ e=>e.elim).trans x84 fun _ _ e=>e)).trans x88 fun _ _ e=>e;refine ⟨rfl,⟨kT o84 x88,trivial⟩,⟨by omega,by omega,?_⟩,by dsimp only;omega⟩;have hi1:(i+1).toNat=i.toNat+1:=by omega
   rw [hi1];have sb1:Sub (cutw w7.heap.size w1) (cutw w7.heap.size w88):=Sub.step y88 (Nat.le_refl _) fun k e hk _ _=>by
    have e:k=b:=e;omega
   have sb2:Sub (cutw w7.heap.size w76) (cutw w7.heap.size w88):=Sub.step w7688 (Nat.le_refl _) fun k e hk _ _=>by
    have e:k=b:=e;omega
   have hne:∀ {j b':Nat},j≠i.toNat->bs[j]? =some b'->¬ b'=b:=fun {j b'} hj hb' e=>by
    subst e;exact hj ((List.getElem?_inj (List.getElem?_eq_some_iff.1 hb').1 h1.nd).1 (hb'.trans hb.symm))
   refine ⟨(z72.trans z88 fun k _ e=>by
    have e:k=b:=e;exact e▸hbm),fun j b' hj hb'=>?_,fun j b' x' hj hb' hx'=>?_⟩
   ·exact y88.old _ _ (hne (by omega) hb') (h2.no j b' (by omega) hb')
   ·by_cases hji:j=i.toNat
    ·subst hji;rw [hb] at hb';cases hb';rw [hxs] at hx';cases hx';exact ⟨_,o88,(pre.done t ho26 rfl rfl).sub sb2 w7688.size⟩
    ·obtain ⟨cs,g1,g2⟩:=h2.yes j b' x' (by omega) hb' hx';exact ⟨cs,y88.old _ _ (hne hji hb') g1,g2.sub sb1 y88.size⟩
  ·have hge:=odf hge;have hpos:0<s.length:=List.length_pos_iff.2 hs;have hi2:i.toNat=s.length:=by omega
   refine (c_at (own:=0) (hXn h2.x fun b e=>e) (n:=1) (.inr ⟨by omega,by omega⟩)).mono ?_;rintro _ w90 ⟨rfl,hw⟩;obtain rfl:=hw.symm;clear hw;have getb:∀ n,1<=n->n<=s.length->∃ b,bs[n-1]? =some b/\avOf bs n=b/\b∈bs:=fun n g1 g2=>by
    obtain ⟨b,hb⟩:∃ b,bs[n-1]? =some b:=⟨_,List.getElem?_eq_getElem (by omega)⟩;have:=y_8 hb;rw [Nat.sub_add_cancel g1] at this;exact ⟨b,hb,this,mg_ hb⟩
   have hs1:=h2.x.size;refine ⟨_,rfl,trivial,avOf bs,by rw [y_j (by decide)];rfl,y1,⟨⟨fun n g1 g2=>?_,fun n m g1 g2 g3 g4 e=>?_⟩,fun n g1 g2=>?_,fun j x hj=>?_⟩⟩
   ·obtain ⟨b,hb,hav,-⟩:=getb n g1 g2;obtain ⟨cs,k1,-⟩:=h2.yes (n-1) b _ (by omega) hb (List.getElem?_eq_getElem (by omega:n-1<s.length));exact ⟨cs,by rw [hav];exact k1⟩
   ·obtain ⟨b,hb,hav,-⟩:=getb n g1 g2;obtain ⟨b',hb',hav',-⟩:=getb m g3 g4;rw [hav,hav'] at e;subst e;have:=(List.getElem?_inj (List.getElem?_eq_some_iff.1 hb).1 h1.nd).1 (hb.trans hb'.symm);omega
   ·obtain ⟨b,hb,hav,hm⟩:=getb n g1 g2;have:=hlt7 b hm;rw [hav];omega
   ·have hjl:=(List.getElem?_eq_some_iff.1 hj).1;obtain ⟨b,hb⟩:∃ b,bs[j]? =some b:=⟨_,List.getElem?_eq_getElem (by omega)⟩;obtain ⟨cs,k1,k2⟩:=h2.yes j b x (by omega) hb hj;exact ⟨cs,by rw [y_8 hb];exact k1,k2.sub (Sub.cut _ _) (Nat.le_refl _)⟩
theorem y_C.ext {w w':World}(h:y_C w)(hx:EF w w'):y_C w':=fun i w2 h0 h1 h2=>h i w2 h0 h1 (hx.then h2)
theorem A_b {w:World}{a:OA}{l c:Nat}{s:List JN}{v:JV}{f:Nat}(hr:RJNs w a l c s)(hv:RJV w v cells)(hs:s≠[])(hS:okS s)(hU:okU s)(hnew:∀ x∈s,NewN x)(hok:okV v)(hsz:szJ v<=1100000)(hM:MJ s.length v 1<f)(hI:y_C w)(hDB:DB.B<=w.heap.size):
  CP 33 #[.int .i64 2020,.slice a l c,.agg cells.toArray] w fun e w'=>e=.returned (.bool (w_2 2020 s f 1 v).1)/\EF w w':=by
 have hv0:=hv;obtain ⟨k,b,n,t,ns,xs⟩:=v;obtain ⟨a1,l1,c1,a2,l2,c2,rfl,-, -, -⟩:=w_8.1 hv;refine y_J 2020 a l c k b n t a1 l1 c1 a2 l2 c2 w _ ⟨trivial,?_⟩;intro w9;have x9:EF w w9:=(Ext.refl _).alloc _;clear_value w9;refine (B_T (RJNs.keep x9.keep hr) hs hS hU hnew (hI.ext x9) (lt_ hDB x9.size)).mono ?_;rintro _ w11 ⟨av,rfl,x11,hsch⟩;have y11:=x9.then x11;refine ⟨_,rfl,⟨x11.keepT _,trivial⟩,fun K13 hK13=>⟨fun _=>?_,nofun⟩⟩;refine (D_8 (szJ (.mk k b n t ns xs)) (.mk k b n t ns xs) _ w11 (Nat.le_refl _) hok.ok (hv0.keep y11.keep)).mono ?_;rintro _ w17 ⟨o,rfl,x17,ra⟩;have hra:RA w17 w17.heap.size (.mk k b n t ns xs) o:=RA.sub (Sub.cut _ _) (Nat.le_refl _) ra;have hs17:=x17.size;have hsch17:Sch w17 w17.heap.size av s:=by
  refine ⟨⟨fun n g1 g2=>?_,hsch.as_.inj⟩,fun n g1 g2=>Nat.lt_of_lt_of_le (hsch.lt n g1 g2) hs17,fun i x hx=>?_⟩
  ·obtain ⟨cs,hcs⟩:=hsch.as_.at_ n g1 g2;exact ⟨cs,x17.old _ _ id hcs⟩
  ·obtain ⟨cs,h1,h2⟩:=hsch.ok i x hx;exact ⟨cs,x17.old _ _ id h1,h2.sub ⟨fun h=>x17.old _ _ id h,fun h=>x17.old _ _ id h⟩ hs17⟩
 refine ⟨o,rfl,⟨x17.keepT _,trivial⟩,(A_c hS hU hsch17 (Nat.le_refl _) hs hM hok hra hsz).mono ?_⟩;rintro _ w20 ⟨o',rfl,x20,ho⟩;refine ⟨o',rfl,⟨x20.keepT _,trivial⟩,hK13 _ _ ⟨?_,(y11.then x17).then x20⟩⟩;have:o'.isNone=(w_2 2020 s f 1 (.mk k b n t ns xs)).1:=by
  cases o' with
  | none=>exact (ho.1 rfl).symm
  | some z=>
   cases hj:(w_2 2020 s f 1 (.mk k b n t ns xs)).1 with
   | false=>rfl
   | true=>exact absurd (ho.2 hj) nofun
 rw [this]
theorem C_5 {w:World}{a:OA}{l c:Nat}{s:List JN}{v:JV}{f:Nat}(hr:RJNs w a l c s)(hv:RJV w v cells)(hs:s≠[])(hS:okS s)(hU:okU s)(hnew:∀ x∈s,NewN x)(hok:okV v)(hsz:szJ v<=1100000)(hM:MJ s.length v 1<f)(hI:y_C w)(hDB:DB.B<=w.heap.size):
  CP 15 #[.slice a l c,.agg cells.toArray] w fun e w'=>e=.returned (.bool (w_2 2020 s f 1 v).1)/\EF w w':=by
 have hv0:=hv;obtain ⟨k,b,n,t,ns,xs⟩:=v;obtain ⟨a1,l1,c1,a2,l2,c2,rfl,-, -, -⟩:=w_8.1 hv;refine A_r a l c k b n t a1 l1 c1 a2 l2 c2 w _ ⟨trivial,?_⟩;intro w8;have x8:EF w w8:=(Ext.refl _).alloc _;clear_value w8;refine (A_b (RJNs.keep x8.keep hr) (hv0.keep x8.keep) hs hS hU hnew hok hsz hM (hI.ext x8) (lt_ hDB x8.size)).mono ?_;rintro _ w10 ⟨rfl,x10⟩;exact ⟨_,rfl,⟨x10.keepT _,trivial⟩,rfl,x8.then x10⟩
end Go.VC
