/- Part of the proof of a law of a rule over documents (LexB), where what the arguments hold is of bulk at most 1048576. -/
import Derived.Test.YtmnhdjhlcgfpkaaGreatLexA
import Derived.Laws.Small
set_option linter.unusedVariables false
set_option linter.unusedSectionVars false
namespace Go.VC
open Go Go.Proofs
variable [DB]
variable {i:Int}
theorem d_e (s:BA)(hs:s.size<=16777216)(w:World):CP 246 #[.string s] w fun e w'=>∃ n,e=.returned (.int .i64 n)/\w'=w:=by
 refine m_Q s w _ ⟨fun n w1=>0<=n/\n<=s.size/\w1=w,fun n _=>((s.size:Int)-n).toNat,⟨by omega,by omega,rfl⟩,?_⟩;rintro n w5 ⟨h0,h1,rfl⟩;intro K6 hK6;have key:∀ z,(z=true->n<s.size)->K6 z w5:=by
  intro z hz;refine hK6 z w5 ⟨fun h=>?_,fun _=>⟨n,rfl,rfl⟩⟩;have:=hz h;rw [show wr (n+1)=n+1 from a_a h0 (by omega)];exact next h0 this rfl
 refine ⟨fun h=>?_,fun _=>key false nofun⟩;have h:=odt h;exact ⟨⟨h0,h⟩,fun _=>⟨⟨h0,h⟩,key _ fun _=>h⟩,fun _=>key _ fun _=>h⟩
abbrev strs (xs:List BA):List Value:=xs.map Value.string
theorem n_d {bs:Nat}{w:World}{out:OA}{l c:Nat}{xs:List BA}(ho:Own bs w 9 1 out l c (strs xs))(hb:bs<=w.heap.size)(x:BA)(hl:l+1<=16777216):
  ∃ (A:OA) (C:Nat) (w':World),(Go.builtin .append #[71,71] 71 #[false,false] #[.slice out l c,.slice (some (adr w.heap.size)) 1 1]).run Tryz.prog (w.alloc (.cells #[.string x] 9))=.ok (.value (.slice A (l+1) C)) w'/\
   Own bs w' 9 1 A (l+1) C (strs (xs++[x]))/\Ext (blkOf out) w w':=by
 have hx:EF w (w.alloc (.cells #[.string x] 9)):=(Ext.refl w).alloc _;have B:=Blk.made w 9 [.string x];obtain ⟨A,C,w',r,o,y,-⟩:=c_a 71 9 Tryz.t9 _ 1 _ (by kernel_rfl) (by kernel_rfl) rfl (by kernel_rfl) rfl (by kernel_rfl) (by omega) (ho.kt (hx.keepT _)) (lt_ hb hx.size) (p:=adr w.heap.size) (l':=1) (c':=1)
  (news:=[.string x]) rfl (fun j u hj=>by
   rw [adr_add];exact (B.at hj).cell) (fun u hu=>by
   obtain rfl:u=.string x:=by simpa using hu
   rfl) hl (by decide) 71 #[false,false]
 refine ⟨A,C,w',r,?_,(hx.mono fun _ _ f=>f.elim).trans y fun _ _ e=>e⟩;have e:strs (xs++[x])=strs xs++[.string x]:=by simp [strs]
 rw [e];exact o
theorem l_4 (s:BA)(hs:s.size<=16777200)(w:World):CP 245 #[.string s] w fun e w'=>∃ (A:OA) (l c:Nat) (xs:List BA),e=.returned (.slice A l c)/\EF w w'/\Own w.heap.size w' 9 1 A l c (strs xs)/\(∀ x∈xs,x.size<=s.size)/\1<=l/\l<=s.size+1:=by
 have hx2:EF w (w.alloc (.cells #[] 9)):=(Ext.refl w).alloc _;have ho2:Own w.heap.size (w.alloc (.cells #[] 9)) 9 1 (some (adr w.heap.size)) 0 0 (strs []):=Own.made w.heap.size w 9 1 0 #[] (Nat.le_refl _) (by simp) (by simp);have ext:∀ (a b:Nat),(s.extract a b).size<=s.size:=fun a b=>by
  rw [ByteArray.size_extract];omega
 have grow:∀ {w8:World} {out:OA} {ol oc:Nat} {xs:List BA} {w9:World},EF w w8->Own w.heap.size w8 9 1 out ol oc (strs xs)->Ext (blkOf out) w8 w9->EF w w9:=fun hx ho x=>hx.trans x fun k hk e=>by
  have:=(ho.base k e).1;omega
 refine o_v s w _ ⟨fun out ol oc from_ i w1=>0<=from_/\from_<=i/\i<=s.size/\(ol:Int)<=i/\EF w w1/\∃ xs,Own w.heap.size w1 9 1 out ol oc (strs xs)/\∀ x∈xs,x.size<=s.size,fun _ _ _ _ i _=>((s.size:Int)-i).toNat,⟨by omega,by omega,by omega,by omega,hx2,[],ho2,by simp⟩,?_⟩;rintro out ol oc from_ i w8 ⟨h0,h1,h2,hol,hx,xs,ho,hxs⟩;refine ⟨fun hlt=>?_,fun _=>?_⟩
 ·have hlt:=odt hlt;intro K9 hK9;have key9:∀ (out:OA) (ol oc:Nat) (f i':Int) w1,0<=f->f<=i'+1->i<=i'->i'<s.size->(ol:Int)<=i'+1->EF w w1->(∃ xs,Own w.heap.size w1 9 1 out ol oc (strs xs)/\∀ x∈xs,x.size<=s.size)->K9 out ol oc f i' w1:=by
   intro out ol oc f i' w1 a0 a1 a2 a3 a4 a5 a6;refine hK9 out ol oc f i' w1 ?_;rw [show wr (i'+1)=i'+1 from a_a (by omega) (by omega)];exact ⟨⟨a0,a1,by omega,a4,a5,a6⟩,by show ((s.size:Int)-(i'+1)).toNat<((s.size:Int)-i).toNat;omega⟩
  intro K14 hK14;have key14:∀ z,K14 z w8:=by
   intro z;refine hK14 z w8 ⟨fun _=>key9 _ _ _ _ _ _ h0 (by omega) (Int.le_refl _) hlt (by omega) hx ⟨xs,ho,hxs⟩,fun _=>⟨⟨h0,h1,h2⟩,trivial,?_⟩⟩;obtain ⟨A',C',w19,r,o,x⟩:=n_d ho hx.size (s.extract from_.toNat i.toNat) (by omega);have hx19:=grow hx ho x;have hall:∀ y∈xs++[s.extract from_.toNat i.toNat],y.size<=s.size:=fun y hy=>by
    rcases ma_.1 hy with hy|hy
    ·exact hxs y hy
    ·obtain rfl:y=_:=by simpa using hy
     exact ext _ _
   refine ⟨A',ol+1,C',w19,r,trivial,fun K20 hK20=>?_⟩;have key20:∀ i',i<=i'->i'<s.size->K20 i' w19:=by
    intro i' a b;refine hK20 i' w19 ?_;rw [show wr (i'+1)=i'+1 from a_a (by omega) (by omega)];exact key9 _ _ _ _ _ _ (by omega) (by omega) a b (by omega) hx19 ⟨_,o,hall⟩
   intro K23 hK23;have hw:wr (i+1)=i+1:=a_a (by omega) (by omega);have key23:∀ z,(z=true->i+1<s.size)->K23 z w19:=by
    intro z hz;refine hK23 z w19 ⟨fun h=>?_,fun _=>key20 i (Int.le_refl _) hlt⟩;rw [hw];exact key20 _ (by omega) (hz h)
   refine ⟨⟨by omega,hlt⟩,fun _=>⟨fun h=>?_,fun _=>key23 _ nofun⟩,fun _=>key23 _ nofun⟩;have h:=odt h;rw [hw] at h ⊢;exact ⟨⟨by omega,h⟩,key23 _ fun _=>h⟩
  exact ⟨⟨by omega,hlt⟩,fun _=>⟨⟨by omega,hlt⟩,key14 _⟩,fun _=>key14 _⟩
 ·refine ⟨⟨h0,by omega,Int.le_refl _⟩,trivial,?_⟩;obtain ⟨A',C',w28,r,o,x⟩:=n_d ho hx.size (s.extract from_.toNat ((s.size:Nat):Int).toNat) (by omega);refine ⟨A',ol+1,C',w28,r,trivial,A',ol+1,C',_,rfl,grow hx ho x,o,fun y hy=>?_,by omega,by omega⟩;rcases ma_.1 hy with hy|hy
  ·exact hxs y hy
  ·obtain rfl:y=_:=by simpa using hy
   exact ext _ _
def LsW (base:Nat)(w:World)(A:OA)(l c M:Nat):Prop:=l<=c/\(l=0∨∃ (p:Addr) (cs:Array Value),A=some p/\p.spot=none/\base<=p.block/\objAt w p.block=some (.cells cs 9 (0,0))/\∀ i,i<l->∃ s:BA,cs[p.off+i]? =some (.string s)/\s.size<=M)
theorem LsW.of {base:Nat}{w:World}{A:OA}{l c M:Nat}{xs:List BA}(h:Own base w 9 1 A l c (strs xs))(hx:∀ x∈xs,x.size<=M):LsW base w A l c M:=by
 have hl:=h.len;have hxl:xs.length=l:=by simpa using hl.1
 refine ⟨hl.2,?_⟩;have hat:∀ {j:Nat} {u:Value},(strs xs)[j]? =some u->∃ p,A=some p/\At w 9 (p.add j) u:=fun hu=>h.at hu;rcases Nat.eq_zero_or_pos l with h0|h0
 ·exact .inl h0
 ·right;have h0':0<xs.length:=by omega
  obtain ⟨p,hp,ha⟩:=hat (j:=0) (u:=.string xs[0]) (by simp [strs,List.getElem?_eq_getElem h0']);obtain ⟨cs,fr,o,hs,hc⟩:=ha;have hb:=(h.base p.block ⟨p,hp,rfl⟩).1;have e0:p.add 0=p:=by simp [Addr.add]
  rw [e0] at o hs hc;have hfr:fr=(0,0):=by
   obtain ⟨g1,g2|⟨g,cap,cur,e1,e2,e3,e4⟩⟩:=h
   ·obtain ⟨e,-⟩:=g2;rw [hp] at e;simp at e
   ·simp only [Value.slice.injEq] at e1;rw [e1.1] at hp;cases hp;have:=o.symm.trans e3;simp only [Option.some.injEq,Obj.cells.injEq] at this;exact this.2.2
  subst hfr;refine ⟨p,cs,hp,hs,hb,o,fun i hi=>?_⟩;have hi':i<xs.length:=by omega
  obtain ⟨q,hq,cs',fr',o',hs',hc'⟩:=hat (j:=i) (u:=.string xs[i]) (by simp [strs,List.getElem?_eq_getElem hi']);rw [hp] at hq;cases hq;have eb:(p.add i).block=p.block:=by unfold Addr.add;split<;>rfl
  have eo:(p.add i).off=p.off+i:=by unfold Addr.add;split<;>simp_all
  rw [eb] at o';have:=o.symm.trans o';simp only [Option.some.injEq,Obj.cells.injEq] at this;rw [eo,<- this.1] at hc';exact ⟨xs[i],hc',hx _ (List.getElem_mem _)⟩
section
variable {base:Nat} {w w':World} {A:OA} {l c M:Nat}
theorem LsW.ext0 (h:LsW base w A l c M)(x:EF w w'):LsW base w' A l c M:=by
 obtain ⟨h1,h2⟩:=h;refine ⟨h1,h2.elim .inl fun ⟨p,cs,a,b,d,e,f⟩=>.inr ⟨p,cs,a,b,d,x.old _ _ id e,f⟩⟩
theorem adr_add' (p:Addr)(i:Nat)(hs:p.spot=none):p.add i=⟨p.block,p.off+i,none⟩:=by
 unfold Addr.add;split
 ·rename_i h;cases p;simp_all
 ·rfl
theorem LsW.get (h:LsW base w A l c M)(h0:0<=i)(hi:i<(l:Int)):∃ (p:Addr) (s:BA),A=some p/\w.cell? (p.add (i.toNat*1))=some (.string s)/\s.size<=M:=by
 obtain ⟨h1,h2|⟨p,cs,a,b,d,e,f⟩⟩:=h
 ·omega
 ·obtain ⟨s,hs,hm⟩:=f i.toNat (by omega);refine ⟨p,s,a,?_,hm⟩;rw [Nat.mul_one,adr_add' p _ b];exact (show At w 9 ⟨p.block,p.off+i.toNat,none⟩ (.string s) from ⟨cs,_,e,rfl,hs⟩).cell
theorem LsW.set (h:LsW base w A l c M)(h0:0<=i)(hi:i<(l:Int))(s:BA)(hs:s.size<=M):∃ p,A=some p/\(∃ (cs:Array Value) (T:TypeId),objAt w ((p.add (i.toNat*1))).block=some (.cells cs T (0,0))/\((p.add (i.toNat*1))).spot=none/\((p.add (i.toNat*1))).off+1<=cs.size/\false=false)/\
  LsW base (w.setCell (p.add (i.toNat*1)) (.string s)) A l c M/\Ext (fun k=>base<=k) w (w.setCell (p.add (i.toNat*1)) (.string s)):=by
 obtain ⟨h1,h2|⟨p,cs,a,b,d,e,f⟩⟩:=h
 ·omega
 ·have hlt:p.off+i.toNat<cs.size:=by
   obtain ⟨s',hs',-⟩:=f i.toNat (by omega);exact (Array.getElem?_eq_some_iff.1 hs').1
  rw [Nat.mul_one];refine ⟨p,a,?_,?_,?_⟩
  ·rw [adr_add' p _ b];exact ⟨cs,9,e,rfl,hlt,rfl⟩
  ·rw [adr_add' p _ b];refine ⟨h1,.inr ⟨p,cs.setIfInBounds (p.off+i.toNat) (.string s),a,b,d,a_E (a:=⟨p.block,p.off+i.toNat,none⟩) e rfl,fun k hk=>?_⟩⟩;rw [Array.getElem?_setIfInBounds];split
   ·exact ⟨s,by first|rfl|rw [if_pos hlt],hs⟩
   ·exact f k hk
  ·rw [adr_add' p _ b];exact Ext.setCell (X:=fun k=>base<=k) (Ext.refl w) (a:=⟨p.block,p.off+i.toNat,none⟩) (.inl d) _
end
theorem n_6 (s:BA)(hs:s.size<=16777200)(w:World):CP 242 #[.string s] w fun e w'=>∃ z,e=.returned (.bool z)/\EF w w':=by
 refine o_u s w _ ⟨fun i w1=>0<=i/\i<=s.size/\w1=w,fun i _=>((s.size:Int)-i).toNat,⟨by omega,by omega,rfl⟩,?_⟩;rintro i w5 ⟨h0,h1,h5⟩;subst h5;refine ⟨fun hlt=>?_,fun _=>?_⟩
 ·have hlt:=odt hlt;refine ⟨⟨h0,hlt⟩,fun _=>⟨_,rfl,Ext.refl _⟩,fun _=>?_⟩;rw [show wr (i+1)=i+1 from a_a h0 (by omega)];exact next h0 hlt rfl
 ·refine (l_4 s hs w5).mono ?_;rintro _ w7 ⟨A,l,c,xs,rfl,x7,ho,hxs,hl1,hl2⟩;refine ⟨A,l,c,rfl,trivial,fun K9 hK9 w12 e12=>?_⟩;have x12:EF w7 w12:=by rw [e12];exact (Ext.refl w7).drew
  have ls:=(LsW.of ho hxs).ext0 x12;obtain ⟨p,t,hp,hc,ht⟩:=ls.get (i:=0) (by omega) (by omega);have k9:∀ z w',EF w12 w'->K9 z w':=fun z w' x=>hK9 z w' ⟨z,rfl,(x7.then x12).then x⟩;refine ⟨p,hp,⟨by omega,by omega⟩,t,hc,p,hp,⟨by omega,by omega⟩,t,hc,?_⟩;refine (d_e t (by omega) w12).mono ?_;rintro _ w18 ⟨n,rfl,h18⟩;rw [h18];refine ⟨n,rfl,trivial,⟨rfl,trivial⟩,fun _=>⟨trivial,k9 _ _ (Ext.refl _)⟩,fun _=>⟨fun _=>?_,fun _=>⟨trivial,k9 _ _ (Ext.refl _)⟩⟩⟩;refine (d_e s (by omega) w12).mono ?_;rintro _ w21 ⟨m,rfl,h21⟩;rw [h21];exact ⟨m,rfl,trivial,trivial,trivial,k9 _ _ (Ext.refl _)⟩
theorem n_k {a b:Int}(h: -4611686018427387904<=a-b)(h':a-b<4611686018427387904):wr (a-b)=a-b:=by
 rw [Int.sub_eq_add_neg] at *;exact f_c h h'
theorem LsW.sub1 {base:Nat}{w:World}{A:OA}{l c M:Nat}(h:LsW base w A l c M)(hl:1<=l):LsW base w (if c=(1:Int).toNat then A else Option.map (fun x:Addr=>x.add ((1:Int).toNat*1)) A) ((l:Int).toNat-(1:Int).toNat) (c-(1:Int).toNat) M:=by
 obtain ⟨h1,h2|⟨p,cs,a,b,d,e,f⟩⟩:=h
 ·omega
 ·have e1:(1:Int).toNat=1:=rfl;have e2:(l:Int).toNat=l:=by omega
  rw [e1,e2];refine ⟨by omega,?_⟩;rcases (by omega:l=1∨2<=l) with h|h
  ·exact .inl (by omega)
  ·refine .inr ⟨p.add 1,cs,?_,?_,?_,?_,fun i hi=>?_⟩
   ·rw [if_neg (by omega),a];rfl
   ·rw [adr_add' p _ b]
   ·rw [adr_add' p _ b];exact d
   ·rw [adr_add' p _ b];exact e
   ·rw [adr_add' p _ b];have:=f (i+1) (by omega)
    rwa [show p.off+(i+1)=p.off+1+i by omega] at this
theorem LsW.sub0 {base:Nat}{w:World}{A:OA}{l c M:Nat}(h:LsW base w A l c M)(hl:1<=l)(hb:l<=16777216):LsW base w (if c=(0:Int).toNat then A else Option.map (fun x:Addr=>x.add ((0:Int).toNat*1)) A) ((wr ((l:Int)-(1:Int))).toNat-(0:Int).toNat) (c-(0:Int).toNat) M:=by
 obtain ⟨h1,h2|⟨p,cs,a,b,d,e,f⟩⟩:=h
 ·omega
 ·have e1:(0:Int).toNat=0:=rfl;have e2:wr ((l:Int)-1)=(l:Int)-1:=n_k (by omega) (by omega);rw [e2,e1];refine ⟨by omega,.inr ⟨p,cs,?_,b,d,e,fun i hi=>f i (by omega)⟩⟩;rw [if_neg (by omega),a];simp [Addr.add]
theorem i_3 (s:BA)(hs:s.size<=16777200)(w:World):CP 243 #[.string s] w fun e w'=>∃ t,e=.returned (.string t)/\EF w w':=by
 refine j_y s w _ ((l_4 s hs w).mono ?_);rintro _ w3 ⟨A,l,c,xs,rfl,x3,ho,hxs,hl1,hl2⟩;have ls3:=LsW.of ho hxs;refine ⟨A,l,c,rfl,trivial,?_⟩;refine ⟨fun _ i w1=>0<=i/\i<=l/\w1=w3,fun _ i _=>((l:Int)-i).toNat,⟨by omega,by omega,rfl⟩,?_⟩;rintro cm i w9 ⟨h0,h1,h9⟩;subst h9;refine ⟨fun hlt=>?_,fun _=>?_⟩
 ·have hlt:=odt hlt;intro K10 hK10;have key10:∀ m,K10 m w9:=by
   intro m;refine hK10 m w9 ?_;rw [show wr (i+1)=i+1 from a_a h0 (by omega)];exact ⟨⟨by omega,by omega,rfl⟩,by show ((l:Int)-(i+1)).toNat<((l:Int)-i).toNat;omega⟩
  obtain ⟨p,t,hp,hc,ht⟩:=ls3.get h0 hlt;refine ⟨p,hp,⟨h0,hlt⟩,t,hc,(d_e t (by omega) w9).mono ?_⟩;rintro _ w16 ⟨n,rfl,h16⟩;rw [h16];refine ⟨n,rfl,trivial,fun K18 hK18=>?_⟩;have k18:∀ z,K18 z w9:=fun z=>hK18 z w9 ⟨fun _=>key10 _,fun _=>key10 _⟩;exact ⟨fun _=>⟨fun _=>⟨fun _=>k18 _,fun _=>k18 _⟩,fun _=>k18 _⟩,fun _=>k18 _⟩
 ·refine ⟨fun i w1=>0<=i/\i<=l/\LsW w.heap.size w1 A l c s.size/\EF w w1,fun i _=>((l:Int)-i).toNat,⟨by omega,by omega,ls3,x3⟩,?_⟩;rintro j w24 ⟨j0,j1,ls,x24⟩;refine ⟨fun jlt=>?_,fun _=>?_⟩
  ·have jlt:=odt jlt;intro K25 hK25;have key25:∀ w',LsW w.heap.size w' A l c s.size->EF w w'->K25 w':=by
    intro w' l' x';refine hK25 w' ?_;rw [show wr (j+1)=j+1 from a_a j0 (by omega)];exact next j0 jlt ⟨l',x'⟩
   obtain ⟨p,t,hp,hc,ht⟩:=ls.get j0 jlt;refine ⟨p,hp,⟨j0,jlt⟩,t,hc,fun K29 hK29=>?_⟩;have key29:∀ z,(z=true->0<cm)->K29 z w24:=by
    intro z hz;refine hK29 z w24 ⟨fun h=>?_,fun _=>key25 w24 ls x24⟩;have hpos:=hz h;have hr:(Go.builtin .min #[3,3] 3 #[false,false] #[.int .i64 cm,.int .i64 (t.size:Int)]).run Tryz.prog w24=.ok (.value (.int .i64 (if (t.size:Int)<cm then (t.size:Int) else cm))) w24:=by
     simp only [Go.builtin,Sem.run_bind,run_min_int2,Result.andThen_ok,Sem.run_pure]
    obtain ⟨p',hp',hoff,hls,hxx⟩:=ls.set j0 jlt (t.extract (if (t.size:Int)<cm then (t.size:Int) else cm).toNat ((t.size:Nat):Int).toNat) (by
     rw [ByteArray.size_extract];omega)
    refine ⟨_,w24,hr,trivial,⟨by split<;>omega,by split<;>omega,Int.le_refl _⟩,p',hp',⟨j0,jlt⟩,hoff,trivial,key25 _ hls (x24.trans hxx fun k hk e=>absurd e (by omega))⟩
   exact ⟨fun _=>key29 _ fun h=>odt h,fun _=>key29 _ nofun⟩
  ·refine ⟨fun B m d w1=>LsW w.heap.size w1 B m d s.size/\m<=l/\EF w w1,fun _ m _ _=>m,⟨ls,Nat.le_refl _,x24⟩,?_⟩;rintro B m d w39 ⟨lb,hm,x39⟩;intro K40 hK40;have key40:∀ z w42,(z=true->1<=m)->LsW w.heap.size w42 B m d s.size->EF w w42->K40 z w42:=by
    intro z w42 hz lb x42;refine hK40 z w42 ⟨fun h=>?_,fun _=>?_⟩
    ·have:=hz h;have:=lb.1;refine ⟨⟨by omega,by omega,by omega⟩,⟨lb.sub1 (hz h),?_,x42⟩,?_⟩
     ·have e1:(1:Int).toNat=1:=rfl;omega
     ·show (m:Int).toNat-(1:Int).toNat<m;have e1:(1:Int).toNat=1:=rfl;omega
    ·refine ⟨fun B m d w1=>LsW w.heap.size w1 B m d s.size/\m<=l/\EF w w1,fun _ m _ _=>m,⟨lb,hm,x42⟩,?_⟩;rintro B m d w46 ⟨lb,hm,x46⟩;have hw:1<=m->wr ((m:Int)-1)=(m:Int)-1:=fun h=>n_k (by omega) (by omega);intro K47 hK47;have key47:∀ z w49,(z=true->1<=m)->LsW w.heap.size w49 B m d s.size->EF w w49->K47 z w49:=by
      intro z w49 hz lb x49;refine hK47 z w49 ⟨fun h=>?_,fun _=>?_⟩
      ·have h1m:=hz h;have:=lb.1;have hs0:=lb.sub0 h1m (by omega);have e0:(0:Int).toNat=0:=rfl;rw [hw h1m] at hs0 ⊢;refine ⟨⟨by omega,by omega,by omega⟩,⟨hs0,by omega,x49⟩,?_⟩;show ((m:Int)-1).toNat-(0:Int).toNat<m;omega
      ·refine ⟨fun out i w1=>0<=i/\i<=m/\(out.size:Int)<=i*16777300/\LsW w.heap.size w1 B m d s.size/\EF w w1,fun _ i _=>((m:Int)-i).toNat,⟨by omega,by omega,by show ((0:Nat):Int)<=0*16777300;omega,lb,x49⟩,?_⟩;rintro out i w54 ⟨i0,i1,hout,lb,x54⟩;refine ⟨fun ilt=>?_,fun _=>⟨out,rfl,x54⟩⟩;have ilt:=odt ilt;obtain ⟨p,t,hp,hc,ht⟩:=lb.get i0 ilt;refine ⟨p,hp,⟨i0,ilt⟩,t,hc,fun K57 hK57=>?_⟩;have key57:∀ o,(o.size:Int)<=i*16777300+1->K57 o w54:=by
        intro o ho;refine hK57 o w54 ⟨o++t,w54,b_E,?_,trivial,?_⟩
        ·rw [binOp_string_add];exact run_string_add_sum w54 o t (by omega)
        ·rw [show wr (i+1)=i+1 from a_a i0 (by omega)];refine ⟨⟨by omega,by omega,?_,lb,x54⟩,by show ((m:Int)-(i+1)).toNat<((m:Int)-i).toNat;omega⟩;rw [ByteArray.size_append];omega
       refine ⟨fun _=>⟨out++⟨#[10]⟩,w54,b_E,?_,trivial,key57 _ ?_⟩,fun _=>key57 _ (by omega)⟩
       ·rw [binOp_string_add];refine run_string_add_sum w54 out ⟨#[10]⟩ ?_;have:(⟨#[10]⟩:BA).size=1:=rfl;omega
       ·rw [ByteArray.size_append];have:(⟨#[10]⟩:BA).size=1:=rfl;omega
     intro w64 e64;have x64:EF w46 w64:=by rw [e64];exact (Ext.refl w46).drew
     have lb64:=lb.ext0 x64;refine ⟨fun h=>?_,fun _=>key47 _ w64 nofun lb64 (x46.then x64)⟩;have h:=odt h;obtain ⟨p,t,hp,hc,ht⟩:=lb64.get (i:=(m:Int)-1) (by omega) (by omega);rw [hw (by omega)];refine ⟨p,hp,⟨by omega,by omega⟩,t,hc,p,hp,⟨by omega,by omega⟩,t,hc,(d_e t (by omega) w64).mono ?_⟩;rintro _ w70 ⟨n,rfl,h70⟩;rw [h70];exact ⟨n,rfl,trivial,⟨rfl,trivial⟩,key47 _ w64 (fun _=>by omega) lb64 (x46.then x64)⟩
   intro w72 e72;have x72:EF w39 w72:=by rw [e72];exact (Ext.refl w39).drew
   have lb72:=lb.ext0 x72;refine ⟨fun h=>?_,fun _=>key40 _ w72 nofun lb72 (x39.then x72)⟩;have h:=odt h;obtain ⟨p,t,hp,hc,ht⟩:=lb72.get (i:=0) (by omega) (by omega);refine ⟨p,hp,⟨by omega,by omega⟩,t,hc,p,hp,⟨by omega,by omega⟩,t,hc,(d_e t (by omega) w72).mono ?_⟩;rintro _ w78 ⟨n,rfl,h78⟩;rw [h78];exact ⟨n,rfl,trivial,⟨rfl,trivial⟩,key40 _ w72 (fun _=>by omega) lb72 (x39.then x72)⟩
section
variable {base b:Nat} {A:OA} {L C:Nat} {at_:Int} {l:Nat} {w:World}
theorem i_f (h:LxS base b A L C at_ l w)(h0:0<=at_)(h1:at_+3<=L)(hl:l+1<=16777216):
  CP 238 #[.pointer (some (adr b))] w fun e w'=>TokR base b A L C at_ l w e w':=by
 obtain ⟨s0,h⟩:=h;have hL:=h.len.1;have hsz:=h.sz;have l7:=h.inc 3 (by omega) (by omega);have f7:=h.fr 1 (.int .i64 (wr (at_+3)));refine i_H (some (adr b)) w _ ⟨adr b,rfl,at_,h.c1,adr b,rfl,at_,h.c1,adr b,rfl,h.off (j:=1) (by omega),trivial,?_⟩;refine ⟨fun out ol oc w1=>∃ (at' s1:Int) (ns:List Int),at_+3<=at'/\at'<=L/\(ol:Int)+at_+3<=at'/\Lx base b A L C at' l s1 w1/\Fr base w w1/\Own w.heap.size w1 21 1 out ol oc (runes ns),fun _ _ _ w1=>msr L b 1 w1,⟨at_+3,s0,[],Int.le_refl _,h1,by omega,l7,f7,Own.nil ..⟩,?_⟩;rintro out ol oc w11 ⟨at',s11,ns,a0,a1,hol,l11,f11,ho⟩;have hm11:msr L b 1 w11=((L:Int)-at').toNat:=b_1 l11.c1;intro w12 e12;have l12:=l11.drew e12;have f12:=f11.drew e12;have ho12:Own w.heap.size w12 21 1 out ol oc (runes ns):=ho.fr (Fr.drew (Fr.refl base w11) e12);refine ⟨adr b,rfl,at',l12.c1,adr b,rfl,A,L,C,l12.c0,fun hlt=>?_,fun _=>⟨false,at',l,rfl,⟨s11,l12⟩,f12,nofun⟩⟩;have hlt:=odt hlt;intro w17 e17;have l17:=l12.drew e17;have f17:=f12.drew e17;have ho17:Own w.heap.size w17 21 1 out ol oc (runes ns):=ho12.fr (Fr.drew (Fr.refl base w12) e17);obtain ⟨p,r,hp,hc⟩:=l17.rune (i:=at') (by omega) hlt;refine ⟨adr b,rfl,A,L,C,l17.c0,adr b,rfl,at',l17.c1,p,hp,⟨by omega,hlt⟩,r,hc,trivial,fun K24 hK24=>?_⟩;have key24:∀ z w26,(z=true->at'+2<L)->LxS base b A L C at' l w26->Fr base w w26->Own w.heap.size w26 21 1 out ol oc (runes ns)->K24 z w26:=by
  intro z w26 hz l26 f26 o26;obtain ⟨s26,l26⟩:=l26;refine hK24 z w26 ⟨fun h3=>?_,fun _=>?_⟩
  ·have h3:=hz h3;have l30:=l26.inc 3 (by omega) (by omega);have g30:=l26.fr 1 (.int .i64 (wr (at'+3)));have f30:=f26.trans g30;have o30:=o26.fr g30;obtain ⟨s,hs,hss⟩:=i_l o30;refine ⟨adr b,rfl,at',l26.c1,adr b,rfl,l26.off (j:=1) (by omega),trivial,fun K31 hK31=>?_⟩;have key31:∀ w32,LxS base b A L C (at'+3) l w32->Fr base w w32->Own w.heap.size w32 21 1 out ol oc (runes ns)->K31 w32:=by
    intro w32 l32 f32 o32;obtain ⟨t,ht,hts⟩:=i_l o32;refine hK31 w32 ⟨t,w32,ht,trivial,(i_3 t (by omega) w32).mono ?_⟩;rintro _ w36 ⟨u,rfl,x36⟩;obtain ⟨s32,l32⟩:=l32;refine ⟨u,rfl,trivial,(c_O ⟨s32,l32.ext0 x36⟩ (by omega) hl).mono ?_⟩;rintro _ w39 ⟨rfl,l39,f39⟩;exact ⟨rfl,trivial,true,at'+3,l+1,rfl,l39,(f32.trans (Fr.of0 x36)).trans f39,fun _=>⟨by omega,by omega,Nat.le_refl _⟩⟩
   have set3:∀ {w':World} (v:Bool),LxS base b A L C (at'+3) l w'->Fr base w w'->Own w.heap.size w' 21 1 out ol oc (runes ns)->K31 (w'.setCell ⟨b,3,none⟩ (.bool v)):=fun v ⟨s',l'⟩ f' o'=>key31 _ ⟨s',l'.set3 v⟩ (f'.trans (l'.fr 3 _)) (o'.fr (l'.fr 3 _));obtain ⟨sure,hsure⟩:=l30.c3;refine ⟨adr b,rfl,sure,hsure,fun _=>⟨s,_,hs,trivial,(n_6 s (by omega) _).mono ?_⟩,fun _=>⟨adr b,rfl,l30.off (j:=3) (by omega),trivial,set3 _ ⟨s26,l30⟩ f30 o30⟩⟩;rintro _ w45 ⟨z,rfl,x45⟩;have l45:=l30.ext0 x45;have f45:=f30.trans (Fr.of0 x45);have o45:=o30.kt (x45.keepT _);refine ⟨z,rfl,trivial,fun _=>?_,fun _=>⟨adr b,rfl,l45.off (j:=3) (by omega),trivial,set3 _ ⟨s26,l45⟩ f45 o45⟩⟩;refine (peek ⟨s26,l45⟩ (by omega) (by omega) (by omega) (by omega)).mono ?_;rintro _ w48 ⟨n,rfl,-, ⟨s48,l48⟩,f48,-⟩;exact ⟨n,rfl,trivial,adr b,rfl,l48.off (j:=3) (by omega),trivial,set3 _ ⟨s48,l48⟩ (f45.trans f48) (o45.fr f48)⟩
  ·intro K56 hK56;have key56:∀ z w58,(z=true->at'+3<L)->LxS base b A L C at' l w58->Fr base w w58->Own w.heap.size w58 21 1 out ol oc (runes ns)->K56 z w58:=by
    intro z w58 hz l58 f58 o58;obtain ⟨s58,l58⟩:=l58;refine hK56 z w58 ⟨fun h4=>?_,fun _=>?_⟩
    ·have h4:=hz h4;obtain ⟨A',C',w61,r61,o61,x61⟩:=f_L o58 f58.ext.size [34,34,34] (by simp) (by simp;omega);have l61:=Lx.own h l58 f58 o58 x61;have f61:=f58.own hsz o58 x61;have l65:=l61.inc 4 (by omega) (by omega);have g65:=l61.fr 1 (.int .i64 (wr (at'+4)));refine ⟨trivial,A',ol+3,C',w61,r61,trivial,adr b,rfl,at',l61.c1,adr b,rfl,l61.off (j:=1) (by omega),trivial,⟨at'+4,s58,_,by omega,by omega,by omega,l65,f61.trans g65,o61.fr g65⟩,?_⟩;show msr L b 1 (w61.setCell ⟨b,1,none⟩ (.int .i64 (wr (at'+4))))<msr L b 1 w11;rw [hm11,b_1 l65.c1];omega
    ·refine (h_w r w58).mono ?_;rintro _ w67 ⟨z,rfl,h67⟩;rw [h67];refine ⟨z,rfl,trivial,fun _=>⟨false,at',l,rfl,⟨s58,l58⟩,f58,nofun⟩,fun _=>?_⟩;obtain ⟨A',C',w71,r71,o71,x71⟩:=f_L o58 f58.ext.size [r] (by simp) (by simp;omega);have l71:=Lx.own h l58 f58 o58 x71;have f71:=f58.own hsz o58 x71;have l75:=l71.inc 1 (by omega) (by omega);have g75:=l71.fr 1 (.int .i64 (wr (at'+1)));refine ⟨trivial,A',ol+1,C',w71,r71,trivial,adr b,rfl,at',l71.c1,adr b,rfl,l71.off (j:=1) (by omega),trivial,⟨at'+1,s58,_,by omega,by omega,by omega,l75,f71.trans g75,o71.fr g75⟩,?_⟩;show msr L b 1 (w71.setCell ⟨b,1,none⟩ (.int .i64 (wr (at'+1))))<msr L b 1 w11;rw [hm11,b_1 l75.c1];omega
   refine ⟨fun _=>?_,fun _=>key56 _ _ nofun ⟨s26,l26⟩ f26 o26⟩;refine (peek ⟨s26,l26⟩ (by omega) (by omega) (by omega) (by omega)).mono ?_;rintro _ w77 ⟨n,rfl,-, l77,f77,-⟩;have g77:=f26.trans f77;have o77:=o26.fr f77;refine ⟨n,rfl,trivial,fun _=>?_,fun _=>key56 _ _ nofun l77 g77 o77⟩;refine (peek l77 (by omega) (by omega) (by omega) (by omega)).mono ?_;rintro _ w80 ⟨n,rfl,-, l80,f80,-⟩;have g80:=g77.trans f80;have o80:=o77.fr f80;refine ⟨n,rfl,trivial,fun _=>?_,fun _=>key56 _ _ nofun l80 g80 o80⟩;refine (peek l80 (by omega) (by omega) (by omega) (by omega)).mono ?_;rintro _ w83 ⟨n,rfl,hn,l83,f83,-⟩;refine ⟨n,rfl,trivial,key56 _ _ (fun hz=>?_) l83 (g80.trans f83) (o80.fr f83)⟩;have:n=34:=by simpa using hz
   exact hn (by omega)
 refine ⟨fun _=>?_,fun _=>key24 _ _ nofun ⟨s11,l17⟩ f17 ho17⟩;refine (peek ⟨s11,l17⟩ (by omega) (by omega) (by omega) (by omega)).mono ?_;rintro _ w86 ⟨n,rfl,-, l86,f86,-⟩;refine ⟨n,rfl,trivial,fun _=>?_,fun _=>key24 _ _ nofun l86 (f17.trans f86) (ho17.fr f86)⟩;refine (peek l86 (by omega) (by omega) (by omega) (by omega)).mono ?_;rintro _ w89 ⟨n,rfl,hn,l89,f89,-⟩;refine ⟨n,rfl,trivial,key24 _ _ (fun hz=>?_) l89 ((f17.trans f86).trans f89) ((ho17.fr f86).fr f89)⟩;have:n=34:=by simpa using hz
 exact hn (by omega)
abbrev Start (r:Int):Prop:=r=95∨(97<=r/\r<=122)∨(65<=r/\r<=90)
theorem h_x (r:Int)(w:World):CP 151 #[.int .i32 r] w fun e w'=>∃ z,e=.returned (.bool z)/\(z=true↔Start r)/\w'=w:=by
 refine g_w r w _ fun K hK=>?_;have k:∀ z,(z=true↔Start r)->K z w:=fun z hz=>hK z w ⟨z,rfl,hz,rfl⟩;refine ⟨fun h=>?_,fun h=>k _ ?_⟩
 ·have h:r≠95:=by simpa using h
  refine ⟨fun h1=>⟨fun h2=>⟨fun h3=>k _ ?_,fun h3=>k _ ?_⟩,fun h2=>k _ ?_⟩,fun h1=>⟨fun h3=>k _ ?_,fun h3=>k _ ?_⟩⟩<;>simp at * <;>omega
 ·have:r=95:=by simpa using h
  simp [Start,this]
theorem j_3 (r:Int)(w:World):CP 233 #[.int .i32 r] w fun e w'=>∃ z,e=.returned (.bool z)/\(32<=r->z=true)/\w'=w:=by
 refine h_R r w _ fun K hK=>?_;have k:∀ z,(32<=r->z=true)->K z w:=fun z hz=>hK z w ⟨z,rfl,hz,rfl⟩;exact ⟨fun _=>⟨fun _=>⟨fun _=>k _ fun h=>decide_eq_true h,fun _=>k _ fun _=>rfl⟩,fun _=>k _ fun _=>rfl⟩,fun _=>k _ fun _=>rfl⟩
theorem peek0 {at_ seen:Int}{w:World}(h:Lx base b A L C at_ l seen w)(h0:0<=at_)(h1:at_<L){p:Addr}{r:Int}(hp:A=some p)(hc:At w 21 (p.add (at_.toNat*1)) (.int .i32 r)):
  CP 236 #[.pointer (some (adr b)),.int .i64 0] w fun e w'=>e=.returned (.int .i32 r)/\EF w w':=by
 have hL:=h.len.1;have hw:wr (at_+0)=at_:=by rw [f_c (by omega) (by omega)];omega
 refine f_m (some (adr b)) 0 w _ fun w3 e3=>?_;have x3:EF w w3:=by rw [e3];exact (Ext.refl w).drew
 have l3:=h.ext0 x3;refine ⟨adr b,rfl,at_,l3.c1,adr b,rfl,A,L,C,l3.c0,fun hlt=>?_,fun hge=>?_⟩
 ·intro w8 e8;have x8:EF w3 w8:=by rw [e8];exact (Ext.refl w3).drew
  have l8:=l3.ext0 x8;refine ⟨adr b,rfl,A,L,C,l8.c0,adr b,rfl,at_,l8.c1,p,hp,?_⟩;rw [hw];exact ⟨⟨h0,h1⟩,r,(x8.at id (x3.at id hc)).cell,trivial,rfl,x3.then x8⟩
 ·have:=odf hge;rw [hw] at this;omega
end
section
variable {base b:Nat} {A:OA} {L C:Nat} {at_:Int} {l:Nat} {w:World}
theorem Lx.runeAt {seen:Int}(h:Lx base b A L C at_ l seen w)(h0:0<=i)(hi:i<(L:Int)):∃ p n,A=some p/\At w 21 (p.add (i.toNat*1)) (.int .i32 n):=by
 obtain ⟨p,ns,hp,hl,ht⟩:=h.text;have hp:A=some p:=hp.elim (fun e=>by omega) id;have hlt:i.toNat<ns.length:=by omega
 refine ⟨p,ns[i.toNat],hp,?_⟩;rw [Nat.mul_one];exact ht _ _ (List.getElem?_eq_getElem hlt)
theorem i_h (h:LxS base b A L C at_ l w)(h0:0<=at_)(h1:at_<L)(hl:l+1<=16777216):
  CP 229 #[.pointer (some (adr b))] w fun e w'=>TokR base b A L C at_ l w e w':=by
 obtain ⟨s0,h⟩:=h;have hL:=h.len.1;refine i_J (some (adr b)) w _ fun w2 e2=>?_;have l2:=h.drew e2;have f2:Fr base w w2:=(Fr.refl base w).drew e2;obtain ⟨p,r,hp,ha⟩:=l2.runeAt h0 h1;refine ⟨adr b,rfl,A,L,C,l2.c0,adr b,rfl,at_,l2.c1,p,hp,⟨h0,h1⟩,r,ha.cell,adr b,rfl,at_,l2.c1,⟨rfl,trivial⟩,trivial,fun K11 hK11=>?_⟩;have key11:∀ (at':Int) (l':Nat) w',at_<at'->at'<=L->l'<=l+1->LxS base b A L C at' l' w'->Fr base w w'->K11 w':=fun at' l' w' a0 a1 a2 l' f'=>hK11 w' ⟨true,at',_,rfl,l',f',fun _=>⟨a0,a1,a2⟩⟩;have tok:∀ {P:Ending->World->Prop} {w':World},LxS base b A L C at_ l w'->Fr base w w'->∀ {f:FuncId},(CP f #[.pointer (some (adr b))] w' fun e w''=>TokR base b A L C at_ l w' e w'')->CP f #[.pointer (some (adr b))] w' fun e w''=>∃ z:Bool,e=.returned (.bool z)/\True/\TokR base b A L C at_ l w (.returned (.bool z)) w'':=by
  intro P w' l' f' f hf;refine hf.mono ?_;rintro _ w'' ⟨z,at',l'',rfl,k1,k2,k3⟩;exact ⟨z,rfl,trivial,z,at',l'',rfl,k1,f'.trans k2,k3⟩
 have put:∀ {at':Int} {w':World} (k:Int) (s:BA),at_<at'->at'<=L->LxS base b A L C at' l w'->Fr base w w'->CP 234 #[.pointer (some (adr b)),.int .i64 k,.string s,.int .i64 at_] w' fun e w''=>e=.returned (.tuple #[])/\True/\K11 w'':=by
  intro at' w' k s a0 a1 l' f';refine (c_O l' (by omega) hl).mono ?_;rintro _ w'' ⟨rfl,l'',f''⟩;exact ⟨rfl,trivial,key11 at' (l+1) w'' a0 a1 (Nat.le_refl _) l'' (f'.trans f'')⟩
 have put':∀ {at':Int} {w':World} (k:Int) (s:BA),at_<at'->at'<=L->LxS base b A L C at' l w'->Fr base w w'->CP 234 #[.pointer (some (adr b)),.int .i64 k,.string s,.int .i64 at_] w' fun e w''=>e=.returned (.tuple #[])/\True/\True/\K11 w'':=by
  intro at' w' k s a0 a1 l' f';refine (put k s a0 a1 l' f').mono ?_;rintro _ w'' ⟨e,-, k⟩;exact ⟨e,trivial,trivial,k⟩
 intro K13 hK13;have key13:∀ z,K13 z w2:=by
  intro z;refine hK13 z w2 ⟨fun _ K16 hK16=>?_,fun _=>⟨fun hr35=>?_,fun _=>?_⟩⟩
  ·have key16:∀ w17,LxS base b A L C at_ l w17->Fr base w w17->K16 w17:=by
    intro w17 l17 f17;obtain ⟨s17,l17⟩:=l17;exact hK16 w17 ⟨adr b,rfl,at_,l17.c1,adr b,rfl,l17.off (j:=1) (by omega),trivial,key11 (at_+1) l _ (by omega) (by omega) (by omega) ⟨s17,l17.inc 1 (by omega) (by omega)⟩ (f17.trans (l17.fr 1 _))⟩
   intro K22 hK22;have key22:∀ z,K22 z w2:=fun z=>hK22 z w2 ⟨fun _=>⟨adr b,rfl,l2.off (j:=3) (by omega),trivial,key16 _ ⟨s0,l2.set3 false⟩ (f2.trans (l2.fr 3 _))⟩,fun _=>key16 _ ⟨s0,l2⟩ f2⟩;exact ⟨fun _=>⟨adr b,rfl,at_,l2.c1,key22 _⟩,fun _=>key22 _⟩
  ·have hr35:r=35:=by simpa using hr35
   refine ⟨fun w1=>∃ at',at_<=at'/\at'<=L/\LxS base b A L C at' l w1/\Fr base w2 w1,msr L b 1,⟨at_,Int.le_refl _,by omega,⟨s0,l2⟩,Fr.refl base w2⟩,?_⟩;rintro w31 ⟨at',a0,a1,⟨s31,l31⟩,f31⟩;intro K32 hK32;have key32:∀ z w34,(z=true->at'<L)->(z=false->at_<at')->Lx base b A L C at' l s31 w34->Fr base w2 w34->K32 z w34:=by
    intro z w34 hz hz' l34 f34;refine hK32 z w34 ⟨fun h=>?_,fun h=>?_⟩
    ·have hlt:=hz h;have l38:=l34.inc 1 (by omega) (by omega);refine ⟨adr b,rfl,at',l34.c1,adr b,rfl,l34.off (j:=1) (by omega),trivial,⟨at'+1,by omega,by omega,⟨s31,l38⟩,f34.trans (l34.fr 1 _)⟩,?_⟩;show msr L b 1 (w34.setCell ⟨b,1,none⟩ (.int .i64 (wr (at'+1))))<msr L b 1 w31;rw [b_1 l38.c1,b_1 l31.c1];omega
    ·have hgt:=hz' h;intro w39 e39;have l39:=l34.drew e39;have f39:=f34.drew e39;obtain ⟨s,hs⟩:=l39.conv h0 (Int.le_of_lt hgt) a1;exact ⟨adr b,rfl,A,L,C,l39.c0,adr b,rfl,at',l39.c1,⟨h0,Int.le_of_lt hgt,by have:=l39.len.2;omega⟩,s,w39,hs,trivial,trivial,put' 20 s hgt a1 ⟨s31,l39⟩ (f2.trans f39)⟩
   intro w48 e48;have l48:=l31.drew e48;have f48:=f31.drew e48;refine ⟨adr b,rfl,at',l48.c1,adr b,rfl,A,L,C,l48.c0,fun hlt=>?_,fun hge=>?_⟩
   ·have hlt:=odt hlt;have hru:∃ p' n,A=some p'/\w48.cell? (p'.add (at'.toNat*1))=some (.int .i32 n)/\(at'=at_->n=35):=by
     rcases (by omega:at'=at_∨at_<at') with e|e
     ·refine ⟨p,35,hp,?_,fun _=>rfl⟩;rw [e];have:=(ha.kt (f48.kt _ (by decide) (by decide))).cell;rw [hr35] at this;exact this
     ·obtain ⟨p',n,hp',hc⟩:=l48.rune (i:=at') (by omega) hlt;exact ⟨p',n,hp',hc,fun e'=>by omega⟩
    obtain ⟨p',n,hp',hc,hn⟩:=hru;have hgt:n≠35->at_<at':=fun hne=>by
     rcases (by omega:at'=at_∨at_<at') with e|e
     ·exact absurd (hn e) hne
     ·exact e
    refine ⟨adr b,rfl,A,L,C,l48.c0,adr b,rfl,at',l48.c1,p',hp',⟨by omega,hlt⟩,n,hc,fun _=>⟨adr b,rfl,A,L,C,l48.c0,adr b,rfl,at',l48.c1,p',hp',⟨by omega,hlt⟩,n,hc,fun _=>⟨adr b,rfl,A,L,C,l48.c0,adr b,rfl,at',l48.c1,p',hp',⟨by omega,hlt⟩,n,hc,?_⟩,fun h13=>key32 _ _ nofun (fun _=>hgt ?_) l48 f48⟩,fun h10=>key32 _ _ nofun (fun _=>hgt ?_) l48 f48⟩
    ·refine (j_3 n w48).mono ?_;rintro _ w72 ⟨z,rfl,hz,h72⟩;rw [h72];refine ⟨z,rfl,trivial,trivial,key32 _ _ (fun _=>hlt) (fun h=>?_) l48 f48⟩;rcases (by omega:n=35∨n≠35) with e|e
     ·rw [hz (by omega)] at h;cases h
     ·exact hgt e
    ·have:n=13:=by simpa using h13
     omega
    ·have:n=10:=by simpa using h10
     omega
   ·have:=odf hge;exact key32 _ _ nofun (fun _=>by omega) l48 f48
  ·refine (n_Q r w2).mono ?_;rintro _ w75 ⟨n,rfl,h75⟩;rw [h75];refine ⟨n,rfl,trivial,fun _=>?_,fun _=>⟨fun hdot=>?_,fun _=>?_⟩⟩
   ·refine ⟨adr b,rfl,at_,l2.c1,adr b,rfl,l2.off (j:=1) (by omega),trivial,(n_Q r _).mono ?_⟩;rintro _ w82 ⟨n2,rfl,h82⟩;rw [h82];exact ⟨n2,rfl,trivial,put n2 _ (by omega) (by omega) ⟨s0,l2.inc 1 (by omega) (by omega)⟩ (f2.trans (l2.fr 1 _))⟩
   ·intro K86 hK86;have key86:∀ z w88,(z=false->at_+2<L)->LxS base b A L C at_ l w88->Fr base w w88->K86 z w88:=by
     intro z w88 hz l88 f88;obtain ⟨s88,l88⟩:=l88;refine hK86 z w88 ⟨fun _=>⟨false,at_,l,rfl,⟨s88,l88⟩,f88,nofun⟩,fun h=>?_⟩;have:=hz h;exact ⟨adr b,rfl,at_,l88.c1,adr b,rfl,l88.off (j:=1) (by omega),trivial,put 6 _ (by omega) (by omega) ⟨s88,l88.inc 3 (by omega) (by omega)⟩ (f88.trans (l88.fr 1 _))⟩
    refine (peek ⟨s0,l2⟩ h0 (by omega) (by omega) (by omega)).mono ?_;rintro _ w96 ⟨n1,rfl,-, l96,f96,-⟩;refine ⟨n1,rfl,trivial,fun _=>?_,fun _=>key86 _ _ nofun l96 (f2.trans f96)⟩;refine (peek l96 h0 (by omega) (by omega) (by omega)).mono ?_;rintro _ w99 ⟨n2,rfl,hn2,l99,f99,-⟩;refine ⟨n2,rfl,trivial,key86 _ _ (fun hz=>?_) l99 ((f2.trans f96).trans f99)⟩;have:n2=46:=by simpa using hz
    exact hn2 (by omega)
   ·refine (h_x r w2).mono ?_;rintro _ w102 ⟨z,rfl,hz,h102⟩;rw [h102];refine ⟨z,rfl,trivial,fun hst=>?_,fun _=>?_⟩
    ·have hst:=hz.1 hst;refine ⟨fun w1=>∃ at',at_<=at'/\at'<=L/\LxS base b A L C at' l w1/\Fr base w2 w1,msr L b 1,⟨at_,Int.le_refl _,by omega,⟨s0,l2⟩,Fr.refl base w2⟩,?_⟩;rintro w106 ⟨at',a0,a1,⟨s106,l106⟩,f106⟩;intro K107 hK107;have key107:∀ z w109,(z=true->at'<L)->(z=false->at_<at')->LxS base b A L C at' l w109->Fr base w2 w109->K107 z w109:=by
      intro z w109 hz hz' l109 f109;obtain ⟨s109,l109⟩:=l109;refine hK107 z w109 ⟨fun h=>?_,fun h=>?_⟩
      ·have hlt:=hz h;have l113:=l109.inc 1 (by omega) (by omega);refine ⟨adr b,rfl,at',l109.c1,adr b,rfl,l109.off (j:=1) (by omega),trivial,⟨at'+1,by omega,by omega,⟨s109,l113⟩,f109.trans (l109.fr 1 _)⟩,?_⟩;show msr L b 1 (w109.setCell ⟨b,1,none⟩ (.int .i64 (wr (at'+1))))<msr L b 1 w106;rw [b_1 l113.c1,b_1 l106.c1];omega
      ·have hgt:=hz' h;intro w114 e114;have l114:=l109.drew e114;have f114:=f109.drew e114;obtain ⟨s,hs⟩:=l114.conv h0 (Int.le_of_lt hgt) a1;exact ⟨adr b,rfl,A,L,C,l114.c0,adr b,rfl,at',l114.c1,⟨h0,Int.le_of_lt hgt,by have:=l114.len.2;omega⟩,s,w114,hs,trivial,trivial,put' 15 s hgt a1 ⟨s109,l114⟩ (f2.trans f114)⟩
     have hpk:CP 236 #[.pointer (some (adr b)),.int .i64 0] w106 fun e w'=>∃ n,e=.returned (.int .i32 n)/\(n≠0->at'+0<L)/\(at'=at_->n=r)/\LxS base b A L C at' l w'/\Fr base w106 w':=by
      rcases (by omega:at'=at_∨at_<at') with e|e
      ·subst e;refine (peek0 l106 h0 h1 hp (ha.kt (f106.kt _ (by decide) (by decide)))).mono ?_;rintro _ w' ⟨rfl,x⟩;exact ⟨r,rfl,fun _=>by omega,fun _=>rfl,⟨s106,l106.ext0 x⟩,Fr.of0 x⟩
      ·refine (peek ⟨s106,l106⟩ (by omega) (by omega) (by omega) (by omega)).mono ?_;rintro _ w' ⟨n,rfl,hn,l',f',-⟩;exact ⟨n,rfl,hn,fun e'=>by omega,l',f'⟩
     refine hpk.mono ?_;rintro _ w124 ⟨n,rfl,hn,hnr,l124,f124⟩;have g124:=f106.trans f124;refine ⟨n,rfl,trivial,(h_x n w124).mono ?_⟩;rintro _ w127 ⟨z,rfl,hz,h127⟩;rw [h127];refine ⟨z,rfl,trivial,fun hzf=>?_,fun hzt=>key107 true _ (fun _=>by
      have:n≠0:=by
       have:=hz.1 hzt;rcases this with h|h|h<;>omega
      have:=hn this;omega) nofun l124 g124⟩
     have hgt:at_<at':=by
      rcases (by omega:at'=at_∨at_<at') with e|e
      ·rw [hz.2 (by rw [hnr e];exact hst)] at hzf;cases hzf
      ·exact e
     refine (peek l124 (by omega) (by omega) (by omega) (by omega)).mono ?_;rintro _ w130 ⟨m,rfl,hm,l130,f130,-⟩;refine ⟨m,rfl,trivial,(c_IsDigit' m w130).mono ?_⟩;rintro _ w133 ⟨z2,rfl,hz2,h133⟩;rw [h133];exact ⟨z2,rfl,trivial,key107 z2 _ (fun h=>by
      have:=hm (hz2 h);omega) (fun _=>hgt) l130 (g124.trans f130)⟩
    ·intro K135 hK135;have key135:∀ z w137,LxS base b A L C at_ l w137->Fr base w w137->K135 z w137:=by
      intro z w137 l137 f137;refine hK135 z w137 ⟨fun _=>tok (P:=fun _ _=>True) l137 f137 (g_8 l137 hL h0 (by omega) hl),fun _ K141 hK141=>?_⟩;have key141:∀ z w143,(z=true->at_+2<L)->LxS base b A L C at_ l w143->Fr base w w143->K141 z w143:=by
       intro z w143 hz l143 f143;exact hK141 z w143 ⟨fun h=>tok (P:=fun _ _=>True) l143 f143 (i_f l143 h0 (by have:=hz h;omega) hl),fun _=>⟨fun _=>tok (P:=fun _ _=>True) l143 f143 (g_9 l143 h0 h1 hl),fun _=>⟨false,at_,l,rfl,l143,f143,nofun⟩⟩⟩
      refine ⟨fun _=>?_,fun _=>key141 _ _ nofun l137 f137⟩;refine (peek l137 h0 (by omega) (by omega) (by omega)).mono ?_;rintro _ w151 ⟨n1,rfl,-, l151,f151,-⟩;refine ⟨n1,rfl,trivial,fun _=>?_,fun _=>key141 _ _ nofun l151 (f137.trans f151)⟩;refine (peek l151 h0 (by omega) (by omega) (by omega)).mono ?_;rintro _ w154 ⟨n2,rfl,hn2,l154,f154,-⟩;refine ⟨n2,rfl,trivial,key141 _ _ (fun hz=>?_) l154 ((f137.trans f151).trans f154)⟩;have:n2=34:=by simpa using hz
      exact hn2 (by omega)
     refine ⟨fun _=>?_,fun _=>key135 _ _ ⟨s0,l2⟩ f2⟩;refine (c_IsDigit' r w2).mono ?_;rintro _ w157 ⟨z,rfl,-, h157⟩;rw [h157];exact ⟨z,rfl,trivial,key135 _ _ ⟨s0,l2⟩ f2⟩
 exact ⟨fun _=>⟨fun _=>⟨fun _=>⟨fun _=>⟨fun _=>key13 _,fun _=>key13 _⟩,fun _=>key13 _⟩,fun _=>key13 _⟩,fun _=>key13 _⟩,fun _=>key13 _⟩
end
theorem l_g:∀ l:List Value,(∀ v∈l,∃ n,v=Value.int .i32 n)->∃ ns:List Int,l=runes ns
 | [],_=>⟨[],rfl⟩
 | v::l,h=>by
  obtain ⟨n,rfl⟩:=h v (by simp);obtain ⟨ns,e⟩:=l_g l fun v hv=>h v (by simp [hv]);exact ⟨n::ns,by rw [e];rfl⟩
theorem d_U (s:BA):∀ (bound i:Nat) (acc:Array Value),(∀ v∈acc.toList,∃ n,v=Value.int .i32 n)->∀ v∈(Conv.runesFrom s bound i acc).toList,∃ n,v=Value.int .i32 n
 | 0,_,acc,h=>by simpa [Conv.runesFrom] using h
 | bound+1,i,acc,h=>by
  unfold Conv.runesFrom;split
  ·refine d_U s bound _ _ fun v hv=>?_;rw [Array.toList_push] at hv;rcases ma_.1 hv with hv|hv
   ·exact h v hv
   ·exact ⟨_,List.mem_singleton.1 hv⟩
  ·exact h
theorem p_g (s:BA)(hs:s.size<=4194304)(w:World):CP 220 #[.string s] w fun e w'=>∃ (T:OA) (l c:Nat) (z sure:Bool) (tk:List Tk),e=.returned (.tuple #[.slice T l c,.bool z,.bool sure])/\EF w w'/\(z=true->Own w.heap.size w' 422 6 T l c (tk.flatMap h_4)):=by
 have hsz:=size_runesFrom s s.size 0 #[];have hr:=run_runes_of_string (P:=Tryz.prog) w 9 434 21 s (by kernel_rfl) (by kernel_rfl) (by kernel_rfl) (by simp at hsz;omega);obtain ⟨ns,hns⟩:=l_g _ (d_U s s.size 0 #[] (by simp));have hlen:(Conv.runesFrom s s.size 0 #[]).size=ns.length:=by
  rw [<- Array.length_toList,hns];simp
 have hcap:=grownCap_ge w (Conv.runesFrom s s.size 0 #[]).size 0 21;have x3:EF w (w.drew.alloc (.cells (Conv.runesFrom s s.size 0 #[]++Array.replicate (grownCap w (Conv.runesFrom s s.size 0 #[]).size 0 21-(Conv.runesFrom s s.size 0 #[]).size) (.int .i32 0)) 21)):=(Ext.refl w).drew.alloc _;have ho3:objAt (w.drew.alloc (.cells (Conv.runesFrom s s.size 0 #[]++Array.replicate (grownCap w (Conv.runesFrom s s.size 0 #[]).size 0 21-(Conv.runesFrom s s.size 0 #[]).size) (.int .i32 0)) 21)) w.heap.size=some (.cells (Conv.runesFrom s s.size 0 #[]++Array.replicate (grownCap w (Conv.runesFrom s s.size 0 #[]).size 0 21-(Conv.runesFrom s s.size 0 #[]).size) (.int .i32 0)) 21 (0,0)):=by
  rw [b_R];exact if_pos rfl
 have hz3:(w.drew.alloc (.cells (Conv.runesFrom s s.size 0 #[]++Array.replicate (grownCap w (Conv.runesFrom s s.size 0 #[]).size 0 21-(Conv.runesFrom s s.size 0 #[]).size) (.int .i32 0)) 21)).heap.size=w.heap.size+1:=by simp
 generalize hw3:(w.drew.alloc (.cells (Conv.runesFrom s s.size 0 #[]++Array.replicate (grownCap w (Conv.runesFrom s s.size 0 #[]).size 0 21-(Conv.runesFrom s s.size 0 #[]).size) (.int .i32 0)) 21))=w3 at hr x3 ho3 hz3;generalize hC:grownCap w (Conv.runesFrom s s.size 0 #[]).size 0 21=C at hr ho3 hcap;generalize hA:(Conv.runesFrom s s.size 0 #[])=R at hr ho3 hcap hlen hns hsz;have hL:R.size<=4194304:=by simp at hsz;omega
 refine p_m s w _ ⟨some ⟨w.heap.size,0,none⟩,R.size,C,w3,hr,trivial,trivial,trivial,?_⟩;have B4:=Blk.made w3 436 [.slice (some ⟨w.heap.size,0,none⟩) R.size C,.int .i64 0,.slice none 0 0,.bool true,.int .i64 0,.int .i64 1,.int .i64 0];have x4:EF w3 (w3.alloc (.cells #[.slice (some ⟨w.heap.size,0,none⟩) R.size C,.int .i64 0,.slice none 0 0,.bool true,.int .i64 0,.int .i64 1,.int .i64 0] 436)):=(Ext.refl w3).alloc _;have l4:Lx w.heap.size w3.heap.size (some ⟨w.heap.size,0,none⟩) R.size C 0 0 0 (w3.alloc (.cells #[.slice (some ⟨w.heap.size,0,none⟩) R.size C,.int .i64 0,.slice none 0 0,.bool true,.int .i64 0,.int .i64 1,.int .i64 0] 436)):=by
  refine ⟨by omega,lt_ x3.size x4.size,⟨hL,hcap⟩,⟨⟨w.heap.size,0,none⟩,ns,.inr rfl,hlen.symm,fun j n hj=>?_⟩,none,0,true,1,0,[],B4,Int.le_refl _,by omega,Own.nil ..⟩;refine x4.at id ?_;rw [show ((⟨w.heap.size,0,none⟩:Addr).add j)=⟨w.heap.size,j,none⟩ from adr_add w.heap.size j];refine ⟨_,_,ho3,rfl,?_⟩;have hj':j<R.size:=by
   rw [hlen];exact (List.getElem?_eq_some_iff.1 hj).1
  rw [Array.getElem?_append_left hj',<- Array.getElem?_toList,hns];simp [runes,hj]
 have hx4:=x3.then x4;have fin:∀ {w':World},Fr w.heap.size (w3.alloc (.cells #[.slice (some ⟨w.heap.size,0,none⟩) R.size C,.int .i64 0,.slice none 0 0,.bool true,.int .i64 0,.int .i64 1,.int .i64 0] 436)) w'->EF w w':=fun f=>hx4.trans f.ext fun k hk e=>absurd e (by omega);refine ⟨fun w1=>∃ (at_:Int) (l:Nat),0<=at_/\at_<=R.size/\(l:Int)<=at_/\LxS w.heap.size w3.heap.size (some ⟨w.heap.size,0,none⟩) R.size C at_ l w1/\Fr w.heap.size (w3.alloc (.cells #[.slice (some ⟨w.heap.size,0,none⟩) R.size C,.int .i64 0,.slice none 0 0,.bool true,.int .i64 0,.int .i64 1,.int .i64 0] 436)) w1,msr R.size w3.heap.size 1,⟨0,0,Int.le_refl _,by omega,by omega,⟨0,l4⟩,Fr.refl _ _⟩,?_⟩;rintro w7 ⟨at_,l,a0,a1,al,⟨s7,l7⟩,f7⟩;intro w8 e8;have l8:=l7.drew e8;have f8:=f7.drew e8;refine ⟨at_,l8.c1,_,_,_,l8.c0,fun hlt=>?_,fun _=>?_⟩
 ·have hlt:=odt hlt;refine (i_h ⟨s7,l8⟩ a0 hlt (by omega)).mono ?_;rintro _ w12 ⟨z,at',l',rfl,⟨s12,l12⟩,f12,hz⟩;have g12:=f8.trans f12;refine ⟨z,rfl,trivial,fun _ w14 e14=>?_,fun hzt=>?_⟩
  ·have l14:=l12.drew e14;obtain ⟨sure,hs⟩:=l14.c3;exact ⟨sure,hs,⟨rfl,trivial⟩,⟨rfl,trivial⟩,trivial,none,0,0,false,sure,[],rfl,fin (g12.drew e14),nofun⟩
  ·obtain ⟨b0,b1,b2⟩:=hz (by simpa using hzt);refine ⟨⟨at',l',by omega,b1,by omega,⟨s12,l12⟩,g12⟩,?_⟩;rw [b_1 l12.c1,b_1 l7.c1];omega
 ·intro w16 e16;have l16:=l8.drew e16;obtain ⟨T,c,sure,line,frm,tk,hb,-, -, ho⟩:=l16.blk;exact ⟨T,l,c,(hb.at (j:=2) rfl).cell,sure,(hb.at (j:=3) rfl).cell,⟨rfl,trivial⟩,⟨rfl,trivial⟩,trivial,T,l,c,true,sure,tk,rfl,fin (f8.drew e16),fun _=>ho⟩
theorem l_m {base:Nat}{w:World}{T:OA}{c:Nat}{tk:List Tk}(h:Own base w 422 6 T 1 c (tk.flatMap h_4)):∃ (p:Addr) (t:Tk),T=some p/\w.cell? (p.add ((0:Int).toNat*6))=some (.int .i64 t.k)/\w.cell? ((p.add ((0:Int).toNat*6)).add 1)=some (.string t.s):=by
 cases tk with
 | nil=>
  have:=h.len.1;simp at this
 | cons t tk=>
  obtain ⟨p,hp,h0⟩:=h.at (j:=0) (u:=.int .i64 t.k) (by simp);obtain ⟨p',hp',h1⟩:=h.at (j:=1) (u:=.string t.s) (by simp);rw [hp] at hp';cases hp';have e:p.add ((0:Int).toNat*6)=p:=by simp [Addr.add]
  have e0:p.add 0=p:=by simp [Addr.add]
  rw [e0] at h0;exact ⟨p,t,hp,by rw [e];exact h0.cell,by rw [e];exact h1.cell⟩
theorem l_u (s:BA)(hs:s.size<=4194304)(f:Bool)(w:World):CP 209 #[.string s,.bool f] w (RetB w fun _=>True):=by
 refine l_J s f w _ ((p_g s hs w).mono ?_);rintro _ w4 ⟨T,l,c,z,sure,tk,rfl,x4,ho⟩;refine ⟨T,l,c,z,sure,rfl,trivial,fun K8 hK8=>?_⟩;have key8:∀ v,(v=false->z=true/\l=1)->K8 v w4:=by
  intro v hv;refine hK8 v w4 ⟨fun _=>⟨false,rfl,x4,trivial⟩,fun h K11 hK11=>?_⟩;obtain ⟨hz,h1⟩:=hv h;subst h1;obtain ⟨p,t,hp,c0,c1⟩:=l_m (ho hz);have k11:∀ v,K11 v w4:=fun v=>hK11 v w4 ⟨v,rfl,x4,trivial⟩;exact ⟨fun _=>⟨p,hp,⟨by omega,by omega⟩,t.k,c0,fun _=>⟨fun _=>⟨p,hp,⟨by omega,by omega⟩,t.k,c0,k11 _⟩,fun _=>k11 _⟩,fun _=>k11 _⟩,fun _=>⟨fun _=>⟨p,hp,⟨by omega,by omega⟩,t.k,c0,k11 _⟩,fun _=>k11 _⟩⟩
 refine ⟨fun hz=>⟨fun h1=>?_,fun _=>key8 true nofun⟩,fun _=>key8 true nofun⟩;have hz:z=true:=by simpa using hz
 have h1:l=1:=by
  have:(l:Int)=1:=by simpa using h1
  omega
 subst h1;obtain ⟨p,t,hp,c0,c1⟩:=l_m (ho hz);exact ⟨p,hp,⟨by omega,by omega⟩,t.s,c1,key8 _ fun _=>⟨hz,rfl⟩⟩
end Go.VC
