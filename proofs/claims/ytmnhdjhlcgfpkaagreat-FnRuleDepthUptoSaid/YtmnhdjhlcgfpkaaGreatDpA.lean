/- Part of the proof of a law of a rule over documents (DpA), where what the arguments hold is of bulk at most 1048576. -/
import Derived.Test.YtmnhdjhlcgfpkaaGreatBaseB
import Derived.Test.YtmnhdjhlcgfpkaaGreatWalkA
import Derived.Test.YtmnhdjhlcgfpkaaGreatSpecD
import Derived.Test.YtmnhdjhlcgfpkaaGreatWalkB
import Derived.Test.YtmnhdjhlcgfpkaaGreatWideA
import Derived.Defers
import Derived.Test.YtmnhdjhlcgfpkaaGreatWalkD
import Derived.Test.YtmnhdjhlcgfpkaaGreatBaseC
import Derived.Test.YtmnhdjhlcgfpkaaGreatLexA
import Derived.Laws.StructEq
import Derived.Test.YtmnhdjhlcgfpkaaGreatWalkC
import Derived.Test.YtmnhdjhlcgfpkaaGreatLawA
import Derived.Test.YtmnhdjhlcgfpkaaGreatSpecE
set_option linter.unusedVariables false
set_option linter.unusedSimpArgs false
set_option linter.unusedSectionVars false
namespace Go.VC
open Go Go.Proofs
set_option maxRecDepth 100000
theorem w_T (a:BA)(w:World)(R:EW)(h:
 True/\(let b:=w.alloc (.cells #[(T9 (⟨#[102,105,101,108,100,115]⟩:BA)),(T9 (⟨#[105,110,116,101,114,102,97,99,101,115]⟩:BA)),(T9 (⟨#[112,111,115,115,105,98,108,101,84,121,112,101,115]⟩:BA)),(T9 (⟨#[105,110,112,117,116,70,105,101,108,100,115]⟩:BA))] 9);
 Cb 60 #[T9 a,(S9 (some (adr w.heap.size)) 4 4)] b (fun c d=>True/\R (R9 (.bool c)) d))):CP 196 #[T9 a] w R:=
 vcq Tryz.func196 [] [] [.l (.str a)] h
theorem w_Z (a:OA)(b c:Nat)(d:OA)(e f:Nat)(g:OA)(i j:Nat)(k:Int)(w:World)(R:EW)(h:
 True/\(let l:=w.alloc (.cells #[S9 a b c,S9 d e f] 30);
 ∃ (m:Int->World->Prop) (n:Int->World->Nat),m 0 l/\
 (∀ o:Int,∀ p:World,m o p->
 (Br (decide (o<(i:Int))) (Ix g o i fun q=>L_issslll p (q.add (o.toNat*7)) fun r s t u v x y z A B C D E=>True/\True/\(let G:=p.alloc (.cells #[N9 r,T9 s,T9 t,T9 u,S9 v x y,S9 z A B,S9 C D E] 78);
 ∀ H:Int->World->Prop,(∀ I:Int,∀ J:World,
 (∀ K:OA->Nat->Nat->World->Prop,(∀ (L:OA) (M N:Nat),∀ O:World,
 (∀ P:Bool->World->Prop,(∀ Q:Bool,∀ S:World,
 ((Br Q (R (R9 (.bool true)) S) ((m (wr (o+1)) S/\n (wr (o+1)) S<n o p))))->
 P Q S)->
 (Nr (decide (I≥3)) (Cb 160 #[(.agg #[S9 a b c,S9 d e f]),S9 L M N,N9 I] O (fun U V=>(KeepT 30 O V/\KeepT 78 O V/\True)/\P U V)) (P true O)))->
 K L M N O)->
 (Br (r==1) (CP 95 #[(.agg #[S9 a b c,S9 d e f]),T9 t] J (fun W X=>∃ Y,∃ Z,∃ aa ab ac,∃ ad ae af,∃ ag,W=R9 (.tuple #[(.agg #[T9 Y,T9 Z,S9 aa ab ac,S9 ad ae af]),.bool ag])/\(KeepT 30 J X/\KeepT 78 J X/\True)/\True/\True/\(let ai:=X.alloc (.cells #[T9 Y,T9 Z,S9 aa ab ac,S9 ad ae af] 70);
 K ad ae af ai))) (K C D E J)))->
 H I J)->
 ∀ aj:Bool->World->Prop,(∀ ak:Bool,∀ al:World,
 ((Br ak (H (wr (k+1)) al) (H k al)))->
 aj ak al)->
 (Br (r==0) (Cb 196 #[T9 t] G (fun am an=>(KeepT 30 G an/\KeepT 78 G an/\True)/\aj am an)) (aj false G)))) (R (R9 (.bool false)) p))))):CP 160 #[(.agg #[S9 a b c,S9 d e f]),S9 g i j,N9 k] w R:=
 vcq Tryz.func160 [3,8,11] [(6,⟨[(15,.int .i64)],[]⟩),(19,⟨[(9,.int .i64)],[]⟩),(20,⟨[(27,.bool)],[]⟩),(27,⟨[(10,.slice)],[]⟩),(35,⟨[(51,.bool)],[]⟩)] [.agg [.slice a b c,.slice d e f],.l (.slice g i j),.l (.int .i64 k)] h
theorem w_F (a:OA)(b c:Nat)(d:OA)(e f:Nat)(g:OA)(i j:Nat)(w:World)(R:EW)(h:
 True/\(let k:=w.alloc (.cells #[S9 a b c,S9 d e f] 30);
 ∃ (l:Int->World->Prop) (m:Int->World->Nat),l 0 k/\
 (∀ n:Int,∀ o:World,l n o->
 (Br (decide (n<(i:Int))) (Ix g n i fun p=>L_issslll o (p.add (n.toNat*7)) fun q r s t u v x y z A B C D=>True/\True/\(let F:=o.alloc (.cells #[N9 q,T9 r,T9 s,T9 t,S9 u v x,S9 y z A,S9 B C D] 78);
 ∀ G:Bool->World->Prop,(∀ H:Bool,∀ I:World,
 ((Br H (R (R9 (.bool true)) I) ((l (wr (n+1)) I/\m (wr (n+1)) I<m n o))))->
 G H I)->
 (Br (q==0) ((Nr (s.toList==(⟨#[95,95,115,99,104,101,109,97]⟩:BA).toList) ((Br (s.toList==(⟨#[95,95,116,121,112,101]⟩:BA).toList) (Cb 160 #[(.agg #[S9 a b c,S9 d e f]),S9 B C D,N9 0] F (fun J K=>(KeepT 30 F K/\KeepT 78 F K/\True)/\(Nr J (Cb 105 #[(.agg #[S9 a b c,S9 d e f]),S9 B C D] K (fun L M=>(KeepT 30 K M/\KeepT 78 K M/\True)/\G L M)) (G true K)))) (Cb 105 #[(.agg #[S9 a b c,S9 d e f]),S9 B C D] F (fun N O=>(KeepT 30 F O/\KeepT 78 F O/\True)/\G N O)))) (Cb 160 #[(.agg #[S9 a b c,S9 d e f]),S9 B C D,N9 0] F (fun P Q=>(KeepT 30 F Q/\KeepT 78 F Q/\True)/\(Nr P (Cb 105 #[(.agg #[S9 a b c,S9 d e f]),S9 B C D] Q (fun S U=>(KeepT 30 Q U/\KeepT 78 Q U/\True)/\G S U)) (G true Q)))))) (Cb 105 #[(.agg #[S9 a b c,S9 d e f]),S9 B C D] F (fun V W=>(KeepT 30 F W/\KeepT 78 F W/\True)/\G V W))))) (R (R9 (.bool false)) o))))):CP 105 #[(.agg #[S9 a b c,S9 d e f]),S9 g i j] w R:=
 vcq Tryz.func105 [2,6] [(6,⟨[(9,.int .i64)],[]⟩),(17,⟨[(37,.bool)],[]⟩)] [.agg [.slice a b c,.slice d e f],.l (.slice g i j)] h
theorem w_E (a:OA)(b c:Nat)(d:OA)(e f:Nat)(w:World)(R:EW)(h:
 True/\(let g:=w.alloc (.cells #[S9 a b c,S9 d e f] 30);
 ∃ (i:Int->World->Prop) (j:Int->World->Nat),i 0 g/\
 (∀ k:Int,∀ l:World,i k l->
 (Br (decide (k<(b:Int))) (Ix a k b fun m=>L_sslll l (m.add (k.toNat*5)) fun n o p q r s t u v x y=>True/\True/\(let A:=l.alloc (.cells #[T9 n,T9 o,S9 p q r,S9 s t u,S9 v x y] 58);
 Cb 105 #[(.agg #[S9 a b c,S9 d e f]),S9 v x y] A (fun B C=>(KeepT 30 A C/\KeepT 58 A C/\True)/\(Br B (R (R9 (.bool true)) C) ((i (wr (k+1)) C/\j (wr (k+1)) C<j k l)))))) (∃ (D:Int->World->Prop) (E:Int->World->Nat),D 0 l/\
 (∀ F:Int,∀ G:World,D F G->
 (Br (decide (F<(e:Int))) (Ix d F e fun H=>L_ssll G (H.add (F.toNat*4)) fun I J K L M N O P=>True/\True/\(let S:=G.alloc (.cells #[T9 I,T9 J,S9 K L M,S9 N O P] 70);
 Cb 105 #[(.agg #[S9 a b c,S9 d e f]),S9 N O P] S (fun U V=>(KeepT 30 S V/\KeepT 70 S V/\True)/\(Br U (R (R9 (.bool true)) V) ((D (wr (F+1)) V/\E (wr (F+1)) V<E F G)))))) (R (R9 (.bool false)) G)))))))):CP 40 #[(.agg #[S9 a b c,S9 d e f])] w R:=
 vcq Tryz.func40 [1,4,6] [(6,⟨[(10,.int .i64)],[]⟩),(29,⟨[(22,.int .i64)],[]⟩)] [.agg [.slice a b c,.slice d e f]] h
theorem w_Y (a:OA)(b c:Nat)(d:OA)(e f:Nat)(w:World)(R:EW)(h:
 True/\(let g:=w.alloc (.cells #[S9 a b c,S9 d e f] 30);
 ∃ (i:Int->Int->World->Prop) (j:Int->Int->World->Nat),i 0 0 g/\
 (∀ k:Int,∀ l:Int,∀ m:World,i k l m->
 (Br (decide (l<(b:Int))) (Ix a l b fun n=>L_sslll m (n.add (l.toNat*5)) fun o p q r s t u v x y z=>True/\True/\(let B:=m.alloc (.cells #[T9 o,T9 p,S9 q r s,S9 t u v,S9 x y z] 58);
 Ci 42 #[S9 x y z] B (fun C D=>(KeepT 30 B D/\KeepT 58 B D/\True)/\(i (wr (k+C)) (wr (l+1)) D/\j (wr (k+C)) (wr (l+1)) D<j k l m)))) (∃ (E:Int->Int->World->Prop) (F:Int->Int->World->Nat),E k 0 m/\
 (∀ G:Int,∀ H:Int,∀ I:World,E G H I->
 (Br (decide (H<(e:Int))) (Ix d H e fun J=>L_ssll I (J.add (H.toNat*4)) fun K L M N O P Q S=>True/\True/\(let V:=I.alloc (.cells #[T9 K,T9 L,S9 M N O,S9 P Q S] 70);
 Ci 42 #[S9 P Q S] V (fun W X=>(KeepT 30 V X/\KeepT 70 V X/\True)/\(E (wr (G+W)) (wr (H+1)) X/\F (wr (G+W)) (wr (H+1)) X<F G H I)))) (R (R9 (N9 G)) I)))))))):CP 35 #[(.agg #[S9 a b c,S9 d e f])] w R:=
 vcq Tryz.func35 [1,5,7] [(8,⟨[(3,.int .i64),(11,.int .i64)],[]⟩),(25,⟨[(3,.int .i64),(24,.int .i64)],[]⟩)] [.agg [.slice a b c,.slice d e f]] h
theorem w_S (w:World)(R:EW)(h:
 True/\(let a:=w.alloc (.cells #[S9 none 0 0,S9 none 0 0,S9 none 0 0,S9 none 0 0,S9 none 0 0] 26);
 CP 97 #[(T9 (⟨#[73,110,116]⟩:BA)),.bool false] a (fun b c=>∃ d,∃ e f g,∃ i,b=R9 (.agg #[T9 d,S9 e f g,.bool i])/\(KeepT 26 a c/\True)/\True/\True/\(let j:=c.alloc (.cells #[(T9 (⟨#[]⟩:BA)),(T9 (⟨#[97]⟩:BA)),S9 none 0 0,S9 none 0 0,T9 d,S9 e f g,.bool i,S9 none 0 0] 104);
 True/\True/\(let k:=j.alloc (.cells #[(T9 (⟨#[79,66,74,69,67,84]⟩:BA)),(T9 (⟨#[]⟩:BA)),(T9 (⟨#[81,117,101,114,121]⟩:BA)),S9 none 0 0,S9 none 0 0,(S9 (some (adr c.heap.size)) 1 1),S9 none 0 0,S9 none 0 0] 96);
 True/\True/\(let l:=setB k (w.heap.size) [S9 none 0 0,S9 none 0 0,S9 none 0 0,(S9 (some (adr j.heap.size)) 1 1),S9 none 0 0] 26;
 R (R9 (.agg #[S9 none 0 0,S9 none 0 0,S9 none 0 0,(S9 (some (adr j.heap.size)) 1 1),S9 none 0 0])) l)))))):CP 33 #[] w R:=
 vcq Tryz.func33 [0] [] [] h
abbrev w_L:BA:=⟨#[102,105,101,108,100,115]⟩
abbrev w_M:BA:=⟨#[105,110,116,101,114,102,97,99,101,115]⟩
abbrev bPoss:BA:=⟨#[112,111,115,115,105,98,108,101,84,121,112,101,115]⟩
abbrev w_N:BA:=⟨#[105,110,112,117,116,70,105,101,108,100,115]⟩
abbrev v_3:BA:=⟨#[95,95,115,99,104,101,109,97]⟩
abbrev v_7:BA:=⟨#[95,95,116,121,112,101]⟩
def isLi (n:BA):Prop:=n=w_L∨n=w_M∨n=bPoss∨n=w_N
open Classical in
 noncomputable def incL (n:BA) (d:Int):Int:=if isLi n then d+1 else d
inductive Dip (fr:List Frag):List Sel->Int->Prop
 | top {ks:List Sel} {d:Int} {al n on:BA} {args:List Argm} {dirs:List Dir} {kids:List Sel}: .mk 0 al n on args dirs kids∈ks->3<=incL n d->Dip fr ks d
 | fld {ks:List Sel} {d:Int} {al n on:BA} {args:List Argm} {dirs:List Dir} {kids:List Sel}: .mk 0 al n on args dirs kids∈ks->Dip fr kids (incL n d)->Dip fr ks d
 | inl {ks:List Sel} {d:Int} {k:Int} {al n on:BA} {args:List Argm} {dirs:List Dir} {kids:List Sel}: .mk k al n on args dirs kids∈ks->k≠0->k≠1->Dip fr kids d->Dip fr ks d
 | spr {ks:List Sel} {d:Int} {al n on:BA} {args:List Argm} {dirs:List Dir} {kids:List Sel} {f:Frag}: .mk 1 al n on args dirs kids∈ks->a_h Frag.name fr n=some f->Dip fr f.kids d->Dip fr ks d
def DipS (fr:List Frag)(d:Int):Sel->Prop
 | .mk k _ n _ _ _ kids=>(k=0/\(3<=incL n d∨Dip fr kids (incL n d)))∨(k=1/\∃ f,a_h Frag.name fr n=some f/\Dip fr f.kids d)∨(k≠0/\k≠1/\Dip fr kids d)
theorem w_h {fr:List Frag}{ks:List Sel}{d:Int}:Dip fr ks d↔∃ s∈ks,DipS fr d s:=by
 constructor
 ·intro h;cases h with
  | top h1 h2=>exact ⟨_,h1,.inl ⟨rfl,.inl h2⟩⟩
  | fld h1 h2=>exact ⟨_,h1,.inl ⟨rfl,.inr h2⟩⟩
  | inl h1 h2 h3 h4=>exact ⟨_,h1,.inr (.inr ⟨h2,h3,h4⟩)⟩
  | spr h1 h2 h3=>exact ⟨_,h1,.inr (.inl ⟨rfl,_,h2,h3⟩)⟩
 ·rintro ⟨⟨k,al,n,on,args,dirs,kids⟩,hm,⟨rfl,h|h⟩|⟨rfl,f,hf,h⟩|⟨h0,h1,h⟩⟩
  ·exact .top hm h
  ·exact .fld hm h
  ·exact .spr hm hf h
  ·exact .inl hm h0 h1 h
mutual
def prS (fr:List Frag):Sel->Prop
 | .mk k _ n _ _ _ kids=>(k=0/\(n=v_3∨n=v_7)/\Dip fr kids 0)∨prL fr kids
def prL (fr:List Frag):List Sel->Prop
 | []=>False
 | x::l=>prS fr x∨prL fr l
end
theorem w_t {fr:List Frag}:∀ {l:List Sel},prL fr l↔∃ x∈l,prS fr x
 | []=>by simp [prL]
 | x::l=>by simp [prL,w_t (l:=l)]
def w_i (ops:List OpD)(frags:List Frag):Prop:=(∃ x∈ops,prL frags x.kids)∨∃ x∈frags,prL frags x.kids
variable [DB]
theorem w_R (s a b c d:BA)(hs:a.size<=4194304/\b.size<=4194304/\c.size<=4194304/\d.size<=4194304)(w:World):CP 60 #[.string s,.slice (some (adr w.heap.size)) 4 4] (w.alloc (.cells #[.string a,.string b,.string c,.string d] 9)) (RetB (w.alloc (.cells #[.string a,.string b,.string c,.string d] 9)) fun z=>z=true↔s=a∨s=b∨s=c∨s=d):=by
 have hB:=Blk.made w 9 [.string a,.string b,.string c,.string d];have hf:Flat 1 RS [a,b,c,d] [.string a,.string b,.string c,.string d]:=Flat.cons (cs:=[.string a]) rfl (i_Q hs.1) rfl (Flat.cons (cs:=[.string b]) rfl (i_Q hs.2.1) rfl (Flat.cons (cs:=[.string c]) rfl (i_Q hs.2.2.1) rfl (Flat.cons (cs:=[.string d]) rfl (i_Q hs.2.2.2) rfl .nil)));refine RetB.weak (c_in s (hB.sl hf (by omega) (by simp))) fun z h=>?_;simpa using h
theorem w_P (s:BA)(w:World):CP 196 #[.string s] w (RetB w fun b=>b=true↔isLi s):=by
 refine w_T s w _ ⟨trivial,?_⟩;refine (RetB.base (w_R s _ _ _ _ (by decide) w) ((Ext.refl w).alloc _)).mono ?_;rintro _ w4 ⟨b,rfl,-, hx,hb⟩;exact ⟨b,rfl,trivial,b,rfl,hx,hb⟩
section
variable {q2:OA} {q2l q2c:Nat} {q3:OA} {q3l q3c:Nat} {frags:List Frag} {rf:BA->Nat}
abbrev w_x (q2:OA)(q2l q2c:Nat)(q3:OA)(q3l q3c:Nat)(frags:List Frag)(rf:BA->Nat)(N:Nat):Prop:=∀ (ks:List Sel) (a:OA) (l c:Nat) (d:Int) (w0 w:World),rkL rf ks<N->EF w0 w->a_X w0 q3 q3l q3c frags->RSels w0 a l c ks->a_z ks->(∀ m∈spL ks,isFr frags m=true)->0<=d->d<=2->
 CP 160 #[.agg #[.slice q2 q2l q2c,.slice q3 q3l q3c],.slice a l c,.int .i64 d] w (RetB w fun b=>b=true↔Dip frags ks d)
theorem w_r (hrf:∀ n f,a_h Frag.name frags n=some f->rkF rf f<=rf n)(ok2:∀ x∈frags,b_j x)(hfr:∀ f∈frags,∀ m∈spL f.kids,isFr frags m=true)(N:Nat)(IH:w_x q2 q2l q2c q3 q3l q3c frags rf N):w_x q2 q2l q2c q3 q3l q3c frags rf (N+1):=by
 intro ks a l c d w0 w hN hx0 hF hl hok hfs hd0 hd2;obtain ⟨e1,e3⟩:=hl.len;have x5:EF w (w.alloc (.cells #[.slice q2 q2l q2c,.slice q3 q3l q3c] 30)):=(Ext.refl w).alloc _;refine w_Z q2 q2l q2c q3 q3l q3c a l c d w _ ⟨trivial,?_⟩;refine ⟨fun i w1=>0<=i/\i<=l/\EF w w1/\∀ s∈ks.take i.toNat,¬ DipS frags d s,fun i _=>((l:Int)-i).toNat,⟨by omega,by omega,x5,by simp⟩,?_⟩;rintro i w1 ⟨h0,hi,hx,hn⟩;refine ⟨fun hlt=>?_,fun hge=>⟨false,rfl,hx,nofun,fun h=>?_⟩⟩
 ·have hlt:=odt hlt;have y1:=hx0.then hx;obtain ⟨p,x,hp,hxs,cs,hc,hv⟩:=hl.get h0 hlt;have hmem:=mg_ hxs;have hokx:=b_9.1 hok x hmem;have hrk:=m_5 (rf:=rf) hmem;have hspx:∀ m∈spS x,m∈spL ks:=fun m hm=>by
   obtain ⟨l1,l2,rfl⟩:=List.append_of_mem hmem;rw [h_X,spL];simp [hm]
  obtain ⟨k,al,n,on,args,dirs,kids⟩:=x;simp only [okSel] at hokx;obtain ⟨hk,-, -, hkids,-⟩:=hokx;simp only [rkS] at hrk;obtain ⟨a1,l1,c1,a2,l2,c2,a3,l3,c3,rfl,hv1,hv2,hv3⟩:=c_w.1 hv;obtain ⟨⟨_,_,hc0⟩,hs0,⟨_,_,hc1⟩,hs1,⟨_,_,hc2⟩,hs2,⟨_,_,hc3⟩,hs3,⟨_,_,hc4⟩,hs4,⟨_,_,hc5⟩,hs5,⟨_,_,hc6⟩,-⟩:=hc;refine ⟨p,hp,⟨h0,hlt⟩,_,y1.cell hc0 id,_,y1.cell hc1 id,_,y1.cell hc2 id,_,y1.cell hc3 id,_,_,_,y1.cell hc4 id,_,_,_,y1.cell hc5 id,_,_,_,y1.cell hc6 id,trivial,trivial,?_⟩;intro w19 K20 hK20 K41 hK41;have x19:EF w1 w19:=(Ext.refl w1).alloc _;clear_value w19;have fin:∀ (b:Bool) (w':World),EF w1 w'->(b=true↔DipS frags d (.mk k al n on args dirs kids))->(b=true->(Ending.returned (.bool true))=.returned (.bool true)/\EF w w'/\Dip frags ks d)/\(b=false->0<=i+1/\i+1<=l/\EF w w'/\∀ s∈ks.take (i+1).toNat,¬ DipS frags d s):=fun b w' x' hb=>
   ⟨fun h=>⟨rfl,hx.then x',w_h.2 ⟨_,hmem,hb.1 h⟩⟩,fun h=>⟨by omega,by omega,hx.then x',a_g h0 hn hxs fun k=>by rw [hb.2 k] at h;cases h⟩⟩
  have main:∀ (k':Int) (w':World),EF w1 w'->0<=k'->k'<=3->(k=0->k'=incL n d)->(k≠0->k'=d)->K20 k' w':=by
   intro k' w' x' hk0 hk3 hkf hkn;refine hK20 k' w' fun K23 hK23=>?_;have key:∀ (A:OA) (L C:Nat) (us:List Sel) (w2:World),EF w1 w2->RSels w0 A L C us->a_z us->(∀ m∈spL us,isFr frags m=true)->rkL rf us<N->((3<=k'∨Dip frags us k')↔DipS frags d (.mk k al n on args dirs kids))->K23 A L C w2:=by
    intro A L C us w2 x2 hus oku hfu hru hiff;refine hK23 A L C w2 fun K26 hK26=>?_;have out:∀ (b:Bool) (w3:World),EF w1 w3->(b=true↔DipS frags d (.mk k al n on args dirs kids))->K26 b w3:=fun b w3 x3 hb=>hK26 b w3 ⟨fun h=>⟨true,rfl,((fin b w3 x3 hb).1 h).2.1,fun _=>((fin b w3 x3 hb).1 h).2.2,fun _=>rfl⟩,fun h=>by
     obtain ⟨f1,f2,f3,f4⟩:=(fin b w3 x3 hb).2 h;rw [a_a h0 (by omega)];exact next h0 hlt ⟨f3,f4⟩⟩
    refine ⟨fun hlt3=>?_,fun hge3=>out true w2 x2 ⟨fun _=>hiff.1 (.inl (odt hge3)),fun _=>rfl⟩⟩;have h3:¬ 3<=k':=odf hlt3;refine (IH us A L C k' w0 w2 hru (y1.then x2) hF hus oku hfu hk0 (by omega)).mono ?_;rintro _ w30 ⟨b,rfl,x30,hb⟩;exact ⟨b,rfl,⟨x30.keepT _,x30.keepT _,trivial⟩,out b w30 (x2.then x30) (hb.trans (by rw [<- hiff];simp [h3]))⟩
   refine ⟨fun h1=>?_,fun h1=>?_⟩
   ·have h1:k=1:=by simpa using h1
    have hk':k'=d:=hkn (by omega);refine (n_R n (y1.then x') hF).mono ?_;rintro _ w33 ⟨s1,s2,a4,l4,c4,a5,l5,c5,b38,rfl,x33,hb38,hfd,-⟩;have x40:=(x'.then x33).alloc (.cells #[.string s1,.string s2,.slice a4 l4 c4,.slice a5 l5 c5] 70);obtain ⟨f,hf⟩:∃ f,a_h Frag.name frags n=some f:=Option.isSome_iff_exists.1 (hfs n (hspx n (by simp [spS,h1])));obtain ⟨hfm,hfn⟩:=a_U hf;have hbt:b38=true:=hb38.2 ⟨f,hfm,hfn⟩;obtain ⟨f',hf',-, -, -, hvk⟩:=hfd hbt;obtain rfl:f=f':=Option.some.inj (hf.symm.trans hf');have h2:=hrf n f hf;rw [if_neg (by omega),if_pos h1] at hrk;simp only [rkF] at h2;refine ⟨s1,s2,a4,l4,c4,a5,l5,c5,b38,rfl,⟨x33.keepT _,x33.keepT _,trivial⟩,trivial,trivial,key a5 l5 c5 f.kids _ x40 hvk (ok2 f hfm).2.1 (hfr f hfm) (by omega) ?_⟩;simp only [DipS,hf];constructor
    ·rintro (h|h)
     ·omega
     ·exact .inr (.inl ⟨h1,f,rfl,hk'▸h⟩)
    ·rintro (⟨h,-⟩|⟨-, g,hg,h⟩|⟨-, h,-⟩)
     ·omega
     ·cases hg;exact .inr (hk'▸h)
     ·exact absurd h1 h
   ·have h1:k≠1:=fun e=>by simp [e] at h1
    refine key a3 l3 c3 kids w' x' hv3 hkids (fun m hm=>hfs m (hspx m (by simp [spS,h1,hm]))) (by rw [if_neg h1] at hrk;split at hrk<;>omega) ?_;simp only [DipS];by_cases h00:k=0
    ·rw [hkf h00];constructor
     ·exact fun h=>.inl ⟨h00,h⟩
     ·rintro (⟨-, h⟩|⟨h,-⟩|⟨h,-⟩)
      ·exact h
      ·exact absurd h h1
      ·exact absurd h00 h
    ·rw [hkn h00];constructor
     ·rintro (h|h)
      ·omega
      ·exact .inr (.inr ⟨h00,h1,h⟩)
     ·rintro (⟨h,-⟩|⟨h,-⟩|⟨-, -, h⟩)
      ·exact absurd h h00
      ·exact absurd h h1
      ·exact .inr h
  have k41:∀ (b:Bool) (w':World),EF w1 w'->(b=true↔k=0/\isLi n)->K41 b w':=fun b w' x' hb=>hK41 b w' ⟨fun h=>by
   obtain ⟨h1,h2⟩:=hb.1 h;rw [a_a hd0 (by omega)];exact main (d+1) w' x' (by omega) (by omega) (fun _=>by rw [incL,if_pos h2]) fun e=>absurd h1 e,fun h=>main d w' x' hd0 (by omega) (fun h1=>by
    rw [incL,if_neg fun h2=>by rw [hb.2 ⟨h1,h2⟩] at h;cases h]) fun _=>rfl⟩
  refine ⟨fun h=>?_,fun h=>k41 false w19 x19 ⟨nofun,fun hh=>by simp [hh.1] at h⟩⟩;have h:k=0:=by simpa using h
  refine (w_P n w19).mono ?_;rintro _ w45 ⟨b,rfl,x45,hb⟩;exact ⟨b,rfl,⟨x45.keepT _,x45.keepT _,trivial⟩,k41 b w45 (x19.then x45) ⟨fun z=>⟨h,hb.1 z⟩,fun z=>hb.2 z.2⟩⟩
 ·obtain ⟨s,hs,h⟩:=w_h.1 h;exact absurd h (a_o e1 hge hn s hs)
theorem w_H (hrf:∀ n f,a_h Frag.name frags n=some f->rkF rf f<=rf n)(ok2:∀ x∈frags,b_j x)(hfr:∀ f∈frags,∀ m∈spL f.kids,isFr frags m=true):∀ N,w_x q2 q2l q2c q3 q3l q3c frags rf N
 | 0=>fun ks a l c d w0 w hN=>absurd hN (by omega)
 | N+1=>w_r hrf ok2 hfr N (w_H hrf ok2 hfr N)
abbrev w_f (q2:OA)(q2l q2c:Nat)(q3:OA)(q3l q3c:Nat)(frags:List Frag)(ks:List Sel):Prop:=∀ (a:OA) (l c:Nat) (w0 w:World),EF w0 w->a_X w0 q3 q3l q3c frags->RSels w0 a l c ks->a_z ks->(∀ m∈spL ks,isFr frags m=true)->
 CP 105 #[.agg #[.slice q2 q2l q2c,.slice q3 q3l q3c],.slice a l c] w (RetB w fun b=>b=true↔prL frags ks)
theorem w_s (hrf:∀ n f,a_h Frag.name frags n=some f->rkF rf f<=rf n)(ok2:∀ x∈frags,b_j x)(hfr:∀ f∈frags,∀ m∈spL f.kids,isFr frags m=true){ks:List Sel}(IH:∀ k al n on args dirs kids,Sel.mk k al n on args dirs kids∈ks->w_f q2 q2l q2c q3 q3l q3c frags kids):w_f q2 q2l q2c q3 q3l q3c frags ks:=by
 intro a l c w0 w hx0 hF hl hok hfs;obtain ⟨e1,e3⟩:=hl.len;have x5:EF w (w.alloc (.cells #[.slice q2 q2l q2c,.slice q3 q3l q3c] 30)):=(Ext.refl w).alloc _;refine w_F q2 q2l q2c q3 q3l q3c a l c w _ ⟨trivial,?_⟩;refine ⟨fun i w1=>0<=i/\i<=l/\EF w w1/\∀ s∈ks.take i.toNat,¬ prS frags s,fun i _=>((l:Int)-i).toNat,⟨by omega,by omega,x5,by simp⟩,?_⟩;rintro i w1 ⟨h0,hi,hx,hn⟩;refine ⟨fun hlt=>?_,fun hge=>⟨false,rfl,hx,nofun,fun h=>?_⟩⟩
 ·have hlt:=odt hlt;have y1:=hx0.then hx;obtain ⟨p,x,hp,hxs,cs,hc,hv⟩:=hl.get h0 hlt;have hmem:=mg_ hxs;have hokx:=b_9.1 hok x hmem;have hspx:∀ m∈spS x,m∈spL ks:=fun m hm=>by
   obtain ⟨l1,l2,rfl⟩:=List.append_of_mem hmem;rw [h_X,spL];simp [hm]
  obtain ⟨k,al,n,on,args,dirs,kids⟩:=x;have IHk:=IH k al n on args dirs kids hmem;simp only [okSel] at hokx;obtain ⟨hk,-, -, hkids,hk1,-⟩:=hokx;have hfk:∀ m∈spL kids,isFr frags m=true:=fun m hm=>by
   by_cases h1:k=1
   ·rw [(hk1 h1).2] at hm;simp [spL] at hm
   ·exact hfs m (hspx m (by simp [spS,h1,hm]))
  obtain ⟨a1,l1,c1,a2,l2,c2,a3,l3,c3,rfl,hv1,hv2,hv3⟩:=c_w.1 hv;obtain ⟨⟨_,_,hc0⟩,hs0,⟨_,_,hc1⟩,hs1,⟨_,_,hc2⟩,hs2,⟨_,_,hc3⟩,hs3,⟨_,_,hc4⟩,hs4,⟨_,_,hc5⟩,hs5,⟨_,_,hc6⟩,-⟩:=hc;refine ⟨p,hp,⟨h0,hlt⟩,_,y1.cell hc0 id,_,y1.cell hc1 id,_,y1.cell hc2 id,_,y1.cell hc3 id,_,_,_,y1.cell hc4 id,_,_,_,y1.cell hc5 id,_,_,_,y1.cell hc6 id,trivial,trivial,?_⟩;intro w18 K19 hK19;have x18:EF w1 w18:=(Ext.refl w1).alloc _;clear_value w18;have out:∀ (b:Bool) (w3:World),EF w1 w3->(b=true↔prS frags (.mk k al n on args dirs kids))->K19 b w3:=fun b w3 x3 hb=>hK19 b w3 ⟨fun h=>⟨true,rfl,hx.then x3,fun _=>w_t.2 ⟨_,hmem,hb.1 h⟩,fun _=>rfl⟩,fun h=>by
   rw [a_a h0 (by omega)];exact next h0 hlt ⟨hx.then x3,a_g h0 hn hxs fun k=>by rw [hb.2 k] at h;cases h⟩⟩
  have sub:∀ w2,EF w1 w2->¬ (k=0/\(n=v_3∨n=v_7)/\Dip frags kids 0)->CP 105 #[.agg #[.slice q2 q2l q2c,.slice q3 q3l q3c],.slice a3 l3 c3] w2 fun e w'=>∃ b,e=.returned (.bool b)/\(KeepT 30 w2 w'/\KeepT 78 w2 w'/\True)/\K19 b w':=fun w2 x2 hno=>by
   refine (IHk a3 l3 c3 w0 w2 (y1.then x2) hF hv3 hkids hfk).mono ?_;rintro _ w' ⟨b,rfl,x',hb⟩;refine ⟨b,rfl,⟨x'.keepT _,x'.keepT _,trivial⟩,out b w' (x2.then x') (hb.trans ?_)⟩;rw [prS];exact ⟨.inr,fun h=>h.resolve_left hno⟩
  have dip:k=0->(n=v_3∨n=v_7)->CP 160 #[.agg #[.slice q2 q2l q2c,.slice q3 q3l q3c],.slice a3 l3 c3,.int .i64 0] w18 fun e w'=>∃ b,e=.returned (.bool b)/\(KeepT 30 w18 w'/\KeepT 78 w18 w'/\True)/\((b=false->CP 105 #[.agg #[.slice q2 q2l q2c,.slice q3 q3l q3c],.slice a3 l3 c3] w' fun e w''=>∃ b,e=.returned (.bool b)/\(KeepT 30 w' w''/\KeepT 78 w' w''/\True)/\K19 b w'')/\(b=true->K19 true w')):=fun hk0 hnm=>by
   refine (w_H hrf ok2 hfr (rkL rf kids+1) kids a3 l3 c3 0 w0 w18 (Nat.lt_succ_self _) (y1.then x18) hF hv3 hkids hfk (by decide) (by decide)).mono ?_;rintro _ w' ⟨b,rfl,x',hb⟩;exact ⟨b,rfl,⟨x'.keepT _,x'.keepT _,trivial⟩,fun h=>sub w' (x18.then x') fun hh=>(by rw [hb.2 hh.2.2] at h;cases h),fun h=>out true w' (x18.then x') ⟨fun _=>.inl ⟨hk0,hnm,hb.1 h⟩,fun _=>rfl⟩⟩
  refine ⟨fun h=>?_,fun h=>sub w18 x18 fun hh=>by simp [hh.1] at h⟩;have hk0:k=0:=by simpa using h
  refine ⟨fun h1=>⟨fun h2=>dip hk0 (.inr (a_b.1 h2)),fun h2=>sub w18 x18 fun hh=>?_⟩,fun h1=>dip hk0 (.inl (a_b.1 h1))⟩;rcases hh.2.1 with e|e
  ·exact a_f.1 h1 e
  ·exact a_f.1 h2 e
 ·obtain ⟨s,hs,h⟩:=w_t.1 h;exact absurd h (a_o e1 hge hn s hs)
theorem v_4 (hrf:∀ n f,a_h Frag.name frags n=some f->rkF rf f<=rf n)(ok2:∀ x∈frags,b_j x)(hfr:∀ f∈frags,∀ m∈spL f.kids,isFr frags m=true):∀ (d:Nat) (ks:List Sel),SizeOf.sizeOf ks<d->w_f q2 q2l q2c q3 q3l q3c frags ks
 | 0,_,h=>by omega
 | d+1,ks,h=>w_s hrf ok2 hfr fun k al n on args dirs kids hm=>v_4 hrf ok2 hfr d kids (by
   have:=List.sizeOf_lt_of_mem hm;simp only [Sel.mk.sizeOf_spec] at this;omega)
end
theorem w_C {a:OA}{l c:Nat}{a':OA}{l' c':Nat}{ops:List OpD}{frags:List Frag}{w:World}(hl:ROps w a l c ops)(hl':a_X w a' l' c' frags)(ok1:∀ x∈ops,okOp x)(ok2:∀ x∈frags,b_j x){rf:BA->Nat}(hrf:∀ n f,a_h Frag.name frags n=some f->rkF rf f<=rf n)(hsp:∀ n∈spAll ops frags,isFr frags n=true):
  CP 40 #[.agg #[.slice a l c,.slice a' l' c']] w (RetB w fun b=>b=true↔w_i ops frags):=by
 obtain ⟨e1,e3⟩:=hl.len;obtain ⟨e1',e3'⟩:=hl'.len;have hfo:∀ o∈ops,∀ m∈spL o.kids,isFr frags m=true:=fun o ho m hm=>hsp m (ma_.2 (.inl (mf_.2 ⟨o,ho,hm⟩)));have hfr:∀ f∈frags,∀ m∈spL f.kids,isFr frags m=true:=fun f hf m hm=>hsp m (ma_.2 (.inr (mf_.2 ⟨f,hf,hm⟩)));have hx0:=(Ext.refl (X:=fun _=>False) w).alloc (.cells #[.slice a l c,.slice a' l' c'] 30);refine w_E a l c a' l' c' w _ ⟨trivial,?_⟩;refine ⟨fun i w1=>0<=i/\i<=l/\EF w w1/\∀ x∈ops.take i.toNat,¬ prL frags x.kids,fun i _=>((l:Int)-i).toNat,⟨by omega,by omega,hx0,by simp⟩,?_⟩;rintro i w1 ⟨h0,hi,hx,hn⟩;refine ⟨fun hlt=>?_,fun hge=>?_⟩
 ·have hlt:=odt hlt;obtain ⟨p,x,hp,hxs,cs,hc,a1,l1,c1,a2,l2,c2,a3,l3,c3,rfl,hv1,hv2,hv3⟩:=hl.get h0 hlt;obtain ⟨⟨_,_,hc0⟩,hs0,⟨_,_,hc1⟩,hs1,⟨_,_,hc2⟩,hs2,⟨_,_,hc3⟩,hs3,⟨_,_,hc4⟩,-⟩:=hc;have hmem:=mg_ hxs;have x18:=hx.alloc (.cells #[.string x.kind,.string x.name,.slice a1 l1 c1,.slice a2 l2 c2,.slice a3 l3 c3] 58);refine ⟨p,hp,⟨h0,hlt⟩,_,hx.cell hc0 id,_,hx.cell hc1 id,_,_,_,hx.cell hc2 id,_,_,_,hx.cell hc3 id,_,_,_,hx.cell hc4 id,trivial,trivial,?_⟩;refine (v_4 hrf ok2 hfr _ x.kids (Nat.lt_succ_self _) a3 l3 c3 w _ x18 hl' hv3 (ok1 x hmem).2.2.2 (hfo x hmem)).mono ?_;rintro _ w2 ⟨b,rfl,x2,hb⟩;refine ⟨b,rfl,⟨x2.keepT _,x2.keepT _,trivial⟩,fun h=>⟨true,rfl,x18.then x2,fun _=>.inl ⟨x,hmem,hb.1 h⟩,fun _=>rfl⟩,fun h=>?_⟩;rw [a_a h0 (by omega)];exact next h0 hlt ⟨x18.then x2,a_g h0 hn hxs fun k=>by rw [hb.2 k] at h;cases h⟩
 ·have hn1:=a_o e1 hge hn;refine ⟨fun i w1=>0<=i/\i<=l'/\EF w w1/\∀ x∈frags.take i.toNat,¬ prL frags x.kids,fun i _=>((l':Int)-i).toNat,⟨by omega,by omega,hx,by simp⟩,?_⟩;clear hn hx h0 hi hge;rintro i w1 ⟨h0,hi,hx,hn⟩;refine ⟨fun hlt=>?_,fun hge=>⟨false,rfl,hx,nofun,fun h=>?_⟩⟩
  ·have hlt:=odt hlt;obtain ⟨p,x,hp,hxs,cs,hc,a2,l2,c2,a3,l3,c3,rfl,hv2,hv3⟩:=hl'.get h0 hlt;obtain ⟨⟨_,_,hc0⟩,hs0,⟨_,_,hc1⟩,hs1,⟨_,_,hc2⟩,hs2,⟨_,_,hc3⟩,-⟩:=hc;have hmem:=mg_ hxs;have x18:=hx.alloc (.cells #[.string x.name,.string x.on,.slice a2 l2 c2,.slice a3 l3 c3] 70);refine ⟨p,hp,⟨h0,hlt⟩,_,hx.cell hc0 id,_,hx.cell hc1 id,_,_,_,hx.cell hc2 id,_,_,_,hx.cell hc3 id,trivial,trivial,?_⟩;refine (v_4 hrf ok2 hfr _ x.kids (Nat.lt_succ_self _) a3 l3 c3 w _ x18 hl' hv3 (ok2 x hmem).2.1 (hfr x hmem)).mono ?_;rintro _ w2 ⟨b,rfl,x2,hb⟩;refine ⟨b,rfl,⟨x2.keepT _,x2.keepT _,trivial⟩,fun h=>⟨true,rfl,x18.then x2,fun _=>.inr ⟨x,hmem,hb.1 h⟩,fun _=>rfl⟩,fun h=>?_⟩;rw [a_a h0 (by omega)];exact next h0 hlt ⟨x18.then x2,a_g h0 hn hxs fun k=>by rw [hb.2 k] at h;cases h⟩
  ·have hn2:=a_o e1' hge hn;rcases h with ⟨x,hm,h⟩|⟨x,hm,h⟩
   ·exact absurd h (hn1 x hm)
   ·exact absurd h (hn2 x hm)
theorem w_V {a:OA}{l c:Nat}{a':OA}{l' c':Nat}{ops:List OpD}{frags:List Frag}{w:World}(hl:ROps w a l c ops)(hl':a_X w a' l' c' frags):
  CP 35 #[.agg #[.slice a l c,.slice a' l' c']] w fun e w'=>∃ n:Int,e=.returned (.int .i64 n)/\EF w w':=by
 obtain ⟨e1,e3⟩:=hl.len;obtain ⟨e1',e3'⟩:=hl'.len;have hx0:=(Ext.refl (X:=fun _=>False) w).alloc (.cells #[.slice a l c,.slice a' l' c'] 30);refine w_Y a l c a' l' c' w _ ⟨trivial,?_⟩;refine ⟨fun _ i w1=>0<=i/\i<=l/\EF w w1,fun _ i _=>((l:Int)-i).toNat,⟨by omega,by omega,hx0⟩,?_⟩;rintro m i w1 ⟨h0,hi,hx⟩;refine ⟨fun hlt=>?_,fun hge=>?_⟩
 ·have hlt:=odt hlt;obtain ⟨p,x,hp,hxs,cs,hc,a1,l1,c1,a2,l2,c2,a3,l3,c3,rfl,hv1,hv2,hv3⟩:=hl.get h0 hlt;obtain ⟨⟨_,_,hc0⟩,hs0,⟨_,_,hc1⟩,hs1,⟨_,_,hc2⟩,hs2,⟨_,_,hc3⟩,hs3,⟨_,_,hc4⟩,-⟩:=hc;have x18:=hx.alloc (.cells #[.string x.kind,.string x.name,.slice a1 l1 c1,.slice a2 l2 c2,.slice a3 l3 c3] 58);refine ⟨p,hp,⟨h0,hlt⟩,_,hx.cell hc0 id,_,hx.cell hc1 id,_,_,_,hx.cell hc2 id,_,_,_,hx.cell hc3 id,_,_,_,hx.cell hc4 id,trivial,trivial,?_⟩;refine (n_S (hv3.keep x18.keep)).mono ?_;rintro _ w2 ⟨n,rfl,x2⟩;refine ⟨n,rfl,⟨x2.keepT _,x2.keepT _,trivial⟩,?_⟩;rw [a_a h0 (by omega)];exact next h0 hlt (x18.then x2)
 ·refine ⟨fun _ i w1=>0<=i/\i<=l'/\EF w w1,fun _ i _=>((l':Int)-i).toNat,⟨by omega,by omega,hx⟩,?_⟩;clear hx h0 hi hge;rintro m i w1 ⟨h0,hi,hx⟩;refine ⟨fun hlt=>?_,fun hge=>⟨m,rfl,hx⟩⟩;have hlt:=odt hlt;obtain ⟨p,x,hp,hxs,cs,hc,a2,l2,c2,a3,l3,c3,rfl,hv2,hv3⟩:=hl'.get h0 hlt;obtain ⟨⟨_,_,hc0⟩,hs0,⟨_,_,hc1⟩,hs1,⟨_,_,hc2⟩,hs2,⟨_,_,hc3⟩,-⟩:=hc;have x18:=hx.alloc (.cells #[.string x.name,.string x.on,.slice a2 l2 c2,.slice a3 l3 c3] 70);refine ⟨p,hp,⟨h0,hlt⟩,_,hx.cell hc0 id,_,hx.cell hc1 id,_,_,_,hx.cell hc2 id,_,_,_,hx.cell hc3 id,trivial,trivial,?_⟩;refine (n_S (hv3.keep x18.keep)).mono ?_;rintro _ w2 ⟨n,rfl,x2⟩;refine ⟨n,rfl,⟨x2.keepT _,x2.keepT _,trivial⟩,?_⟩;rw [a_a h0 (by omega)];exact next h0 hlt (x18.then x2)
def w_I:Fld:=⟨E0,⟨#[97]⟩,[],[],.mk ⟨#[73,110,116]⟩ [] false,[]⟩
def w_J:Def:=⟨⟨#[79,66,74,69,67,84]⟩,E0,⟨#[81,117,101,114,121]⟩,[],[],[w_I],[],[]⟩
theorem nilS {α:Type}{T n:Nat}{R:α->List Value->Prop}(w:World):SlL w T n R none 0 0 []:=⟨rfl,by omega,by omega,fun i x h=>by simp at h⟩
theorem w_O (w:World):CP 33 #[] w fun e w'=>∃ t,e=.returned (.agg #[.slice none 0 0,.slice none 0 0,.slice none 0 0,.slice (some (adr t)) 1 1,.slice none 0 0])/\EF w w'/\RDefs w' (some (adr t)) 1 1 [w_J]:=by
 have x1:EF w (w.alloc (.cells #[.slice none 0 0,.slice none 0 0,.slice none 0 0,.slice none 0 0,.slice none 0 0] 26)):=(Ext.refl w).alloc _;refine w_S w _ ⟨trivial,?_⟩;refine (i_i _ false _).mono ?_;rintro _ w3 ⟨rfl,x3⟩;have y3:=x1.then x3;have x7:EF w3 (w3.alloc (.cells #[.string E0,.string ⟨#[97]⟩,.slice none 0 0,.slice none 0 0,.string ⟨#[73,110,116]⟩,.slice none 0 0,.bool false,.slice none 0 0] 104)):=(Ext.refl w3).alloc _;have B7:=Blk.made w3 104 [.string E0,.string ⟨#[97]⟩,.slice none 0 0,.slice none 0 0,.string ⟨#[73,110,116]⟩,.slice none 0 0,.bool false,.slice none 0 0];refine ⟨_,_,_,_,_,rfl,⟨x3.keepT _,trivial⟩,trivial,trivial,?_⟩;generalize hw7:w3.alloc (.cells #[.string E0,.string ⟨#[97]⟩,.slice none 0 0,.slice none 0 0,.string ⟨#[73,110,116]⟩,.slice none 0 0,.bool false,.slice none 0 0] 104)=w7 at x7 B7;have x8:EF w7 (w7.alloc (.cells #[.string ⟨#[79,66,74,69,67,84]⟩,.string E0,.string ⟨#[81,117,101,114,121]⟩,.slice none 0 0,.slice none 0 0,.slice (some (adr w3.heap.size)) 1 1,.slice none 0 0,.slice none 0 0] 96)):=(Ext.refl w7).alloc _;have B8:=Blk.made w7 96 [.string ⟨#[79,66,74,69,67,84]⟩,.string E0,.string ⟨#[81,117,101,114,121]⟩,.slice none 0 0,.slice none 0 0,.slice (some (adr w3.heap.size)) 1 1,.slice none 0 0,.slice none 0 0];have y8:=(y3.then x7).then x8;have z:Ext (fun k=>k=w.heap.size) (w7.alloc (.cells #[.string ⟨#[79,66,74,69,67,84]⟩,.string E0,.string ⟨#[81,117,101,114,121]⟩,.slice none 0 0,.slice none 0 0,.slice (some (adr w3.heap.size)) 1 1,.slice none 0 0,.slice none 0 0] 96)) (setB (w7.alloc (.cells #[.string ⟨#[79,66,74,69,67,84]⟩,.string E0,.string ⟨#[81,117,101,114,121]⟩,.slice none 0 0,.slice none 0 0,.slice (some (adr w3.heap.size)) 1 1,.slice none 0 0,.slice none 0 0] 96)) w.heap.size [.slice none 0 0,.slice none 0 0,.slice none 0 0,.slice (some (adr w7.heap.size)) 1 1,.slice none 0 0] 26):=(Ext.refl (X:=fun k=>k=w.heap.size) _).setB (.inl (Eq.refl w.heap.size)) _ _;have hz3:w.heap.size<w3.heap.size:=by
  have:=x3.size;simp at this;omega
 have hz7:=x7.size;have B7':=(B7.ext x8 id).ext z (by show ¬ w3.heap.size=w.heap.size;omega);have B8':=B8.ext z (by show ¬ w7.heap.size=w.heap.size;omega);refine ⟨trivial,trivial,trivial,trivial,w7.heap.size,rfl,y8.trans z fun b hb e=>?_,B8'.sl (n:=8) (xs:=[w_J]) ?_ (by omega) (by decide)⟩
 ·have e:b=w.heap.size:=e;omega
 ·refine Flat.cons (cells:=[]) (cs:=[.string ⟨#[79,66,74,69,67,84]⟩,.string E0,.string ⟨#[81,117,101,114,121]⟩,.slice none 0 0,.slice none 0 0,.slice (some (adr w3.heap.size)) 1 1,.slice none 0 0,.slice none 0 0]) rfl (fun v hv=>?_) ⟨none,0,0,none,0,0,_,_,_,none,0,0,none,0,0,rfl,nilS _,nilS _,B7'.sl (n:=8) (xs:=[w_I]) (Flat.cons (cells:=[]) (cs:=[.string E0,.string ⟨#[97]⟩,.slice none 0 0,.slice none 0 0,.string ⟨#[73,110,116]⟩,.slice none 0 0,.bool false,.slice none 0 0]) rfl (fun v hv=>?_) ⟨none,0,0,none,0,0,_,none,0,0,false,none,0,0,rfl,nilS _,nilS _,b_M.2 ⟨rfl,rfl,nilS _⟩,nilS _⟩ .nil) (by omega) (by decide),nilS _,nilS _⟩ .nil
  ·simp only [mc_,nn_,or_false] at hv;rcases hv with rfl|rfl|rfl|rfl|rfl|rfl|rfl|rfl<;>first|rfl|(show _<=4194304;decide)
  ·simp only [mc_,nn_,or_false] at hv;rcases hv with rfl|rfl|rfl|rfl|rfl|rfl|rfl|rfl<;>first|rfl|(show _<=4194304;decide)
end Go.VC
namespace Go.VC
open Go
def defOf:Code->Option (Array Oper × List Oper × Oper × Builtin × Array Operand × Array TypeId)
 | .region _ ops false=>match ops.toList.reverse with
  | o::r=>match o.op with
   | .defer ⟨.builtin b,args,ats⟩=>bif o.guard.isNone then some (ops,r.reverse,o,b,args,ats) else none
   | _=>none
  | []=>none
 | _=>none
def tvs (E:Nat->SV):List Operand->Option (List TV)
 | []=>some []
 | x::l=>match evalO E x,tvs E l with
  | .v y,some ys=>some (y::ys)
  | _,_=>none
def defC (args:Array Operand):Array Bool:=args.map fun | .const _=>true|_=>false
def w_p (E:Nat->SV):List ResultVar->(List TV->Prop)->Prop
 | [],K=>K []
 | .tmp t::l,K=>match E t with
  | .v x=>w_p E l fun xs=>K (x::xs)
  | _=>False
 | _,_=>False
def w_d (P:Program)(cfg:Cfg)(fn:Func)(R:Ending->World->Prop):Ann->Code->(Nat->SV)->List LB->World->Prop
 | .seq a b,.seq x y,E,L,w=>match defOf x with
  | some (ops,pre,o,bi,args,ats)=>e_T P cfg ops pre (fun E' L' _ w'=>match tvs E' args.toList with
   | some vs=>b_L P cfg b y (fun e E'' _ w''=>match e with
    | .ret=>w_p E'' fn.results.toList fun xs=>∃ (v:Value) (w3:World),(Go.builtin bi ats o.type (defC args) (tdens vs).toArray).run P w''=.ok (.value v) w3/\R (.returned (retV xs)) w3
    | _=>False) (putE cfg.N E' o.dst .undef) L' w'
   | none=>False) E L none w
  | none=>b_L P cfg a x (fun e E' L' w'=>match e with
   | .normal=>w_d P cfg fn R b y E' L' w'
   | .ret=>vcRes P E' L' w' fn.results.toList fun xs=>R (.returned (retV xs)) w'
   | _=>False) E L w
 | _,_,_,_,_=>False
def vcFnD (P:Program)(fn:Func)(loc:List Nat)(ann:Ann)(args:List TV)(w:World)(R:Ending->World->Prop):Prop:=
 match fn.body with
 | some c=>bif Nat.ble args.length fn.ntmps then w_d P ⟨fn.ntmps,loc⟩ fn R ann c (argE args) [] w else False
 | none=>False
def PostB (P:Program)(fn:Func)(R:Ending->World->Prop):Exit->Act->World->Prop
 | .ret,a,w=>(a.defers=[]/\∃ v,(results fn a.tmps).run P w=.ok v w/\R (.returned v) w)∨
  ∃ (b:Builtin) (ats:Array TypeId) (ty:TypeId) (cs:Array Bool) (args:Array Value) (r:Value) (w3:World) (v:Value),a.defers=[⟨.builtin b ats ty cs,args⟩]/\(Go.builtin b ats ty cs args).run P w=.ok (.value r) w3/\(results fn a.tmps).run P w3=.ok v w3/\R (.returned v) w3
 | _,_,_=>False
section
variable {P:Program}
theorem w_v {fr:Frame}{cs:List Frame}{w w':World}{ds:List Deferred}{b:Builtin}{ats:Array TypeId}{ty:TypeId}{con:Array Bool}{args:Array Value}{v:Value}(hm:fr.mode=.returning)(hd:fr.defers=⟨.builtin b ats ty con,args⟩::ds)
  (hi:(Go.builtin b ats ty con args).run P w=.ok (.value v) w'):step P (lone fr cs w)=.next (lone { fr with defers:=ds} cs w'):=by
 refine step_lone_go ?_;simp [stepG,unwind,callDeferred,invoke,hm,hd,hi]
theorem w_m {f:FuncId}{fn:Func}{c:Code}{args:Array Value}{w:World}{R:Ending->World->Prop}
  (hf:P.funcs[f]? =some fn) (hb:fn.body=some c)
  (h:c.wp P (PostB P fn R) { tmps:=args++Array.replicate (fn.ntmps-args.size) undef,defers:=[]} w):Calls P f args w R:=by
 intro cs;let b:Frame:={ (default:Frame) with fn:=f,kind:=.normal};have henter:Frame.enter P f args .normal=
   b.at { tmps:=args++Array.replicate (fn.ntmps-args.size) undef,defers:=[]} [.code c]:=by
  simp [Frame.enter,Frame.at,hf,hb,b]
 obtain ⟨e,a',w',hq,harr⟩:=h b [] cs;rw [<- henter] at harr;cases e with
 | ret=>
  obtain ⟨todo,hs⟩:=harr;rcases hq with ⟨hd,v,hr,hR⟩|⟨bi,ats,ty,con,az,r,w3,v,hd,hi,hr,hR⟩
  ·exact ⟨.returned v,w',_,hR,hs,rfl,rfl,hd,rfl,fn,hf,hr⟩
  ·have h1:=w_v (P:=P) (fr:={ b.at a' todo with mode:=.returning}) (cs:=cs) (w:=w') rfl hd hi;exact ⟨.returned v,w3,_,hR,Steps.trans hs (.one h1),rfl,rfl,rfl,rfl,fn,hf,hr⟩
 | _=>exact hq.elim
theorem w_K {E:Nat->SV}{L:List LB}{a:Act}(he:EnvOk E L a):∀ {l:List Operand} {vs:List TV},tvs E l=some vs->l.map a.eval=tdens vs
 | [],vs,h=>by
  simp only [tvs,Option.some.injEq] at h;subst h;rfl
 | x::l,vs,h=>by
  simp only [tvs] at h;split at h
  ·rename_i y ys h1 h2;simp only [Option.some.injEq] at h;subst h;rw [List.map_cons,w_K he h2,a_d he h1];rfl
  ·cases h
theorem w_q {E:Nat->SV}{L:List LB}{a:Act}(he:EnvOk E L a):∀ {l:List ResultVar} {K:List TV->Prop},w_p E l K->∃ xs,K xs/\∀ w:World,(l.mapM (j_P a.tmps)).run P w=.ok (tdens xs) w
 | [],K,h=>⟨[],h,fun w=>rfl⟩
 | .tmp t::l,K,h=>by
  simp only [w_p] at h;split at h
  ·rename_i x hx;obtain ⟨xs,hk,hr⟩:=w_q he h;have:=he t;rw [hx] at this;have e:a.tmps.getD t undef=x.den:=this;exact ⟨x::xs,hk,fun w=>by simp [List.mapM_cons,j_P,e,Sem.run_bind,hr w,tdens]⟩
  ·exact h.elim
 | .cell _ _::_,_,h=>h.elim
theorem w_u {fn:Func}{E:Nat->SV}{L:List LB}{a:Act}{K:List TV->Prop}(he:EnvOk E L a)(h:w_p E fn.results.toList K):
  ∃ xs,K xs/\∀ w:World,(results fn a.tmps).run P w=.ok (retV xs) w:=by
 obtain ⟨xs,hk,hr⟩:=w_q (P:=P) he h;refine ⟨xs,hk,fun w=>?_⟩;rw [l_T];simp only [Array.mapM_eq_mapM_toList,Sem.run_bind,Sem.run_map];rw [hr w];simp only [Result.andThen_ok,Sem.run_pure];cases xs with
 | nil=>simp [tdens,retV]
 | cons x xs=>
  cases xs with
  | nil=>simp [tdens,retV]
  | cons y ys=>simp [tdens,retV]
theorem w_D {x:Code}{ops:Array Oper}{pre:List Oper}{o:Oper}{bi:Builtin}{args:Array Operand}{ats:Array TypeId}(h:defOf x=some (ops,pre,o,bi,args,ats)):∃ id,x=.region id ops false/\ops.toList=pre++[o]/\o.op=.defer ⟨.builtin bi,args,ats⟩/\o.guard=none:=by
 unfold defOf at h;split at h
 ·rename_i id ops';split at h
  ·rename_i o' r hr;split at h
   ·rename_i b az ts ho;cases hg:o'.guard with
    | none=>
     rw [hg] at h;simp only [Option.isNone_none,cond_true,Option.some.injEq,Prod.mk.injEq] at h;obtain ⟨rfl,rfl,rfl,rfl,rfl,rfl⟩:=h;have:=congrArg List.reverse hr;simp only [List.reverse_reverse,List.reverse_cons] at this;exact ⟨id,rfl,this,ho,hg⟩
    | some g=>
     rw [hg] at h;simp at h
   ·cases h
  ·cases h
 ·cases h
theorem w_k {cfg:Cfg}{fn:Func}{R:Ending->World->Prop}(hmix:P.follows .mixedOrders=true):∀ (ann:Ann) (c:Code) (E:Nat->SV) (L:List LB) (w:World) (a:Act),
  w_d P cfg fn R ann c E L w->Agr [] cfg.N E L a w->c.wp P (PostB P fn R) a w:=by
 intro ann;induction ann with
 | seq ax ay ihx ihy=>
  intro c E L w a h ha;cases c<;>simp only [w_d] at h;rename_i cx cy;split at h
  ·rename_i ops pre o bi args ats hdef;obtain ⟨id,rfl,hops,hop,hgu⟩:=w_D hdef;refine wp_seq (wp_region_list ?_);rw [hops];refine w_e (D:=[]) (cfg:=cfg) (dsts ops.toList) L a _ (fun E' L' a' w' h1 h2 h3 h4=>?_) pre E L none w a h ha (PreOk.none _ _) (LExt.refl L) (fun _ _=>rfl) fun o' ho d hd=>k_U (by rw [hops];exact ma_.2 (.inl ho)) hd;have hw:Region.wanted o (yielded ops a'.tmps)=true:=by simp [Region.wanted,hgu]
   split at h1
   ·rename_i vs hvs;have ea:=w_K h2.env hvs;have ex:(execOp a'.eval o).run P w'=.ok (.defer ⟨.builtin bi ats o.type (defC args),(tdens vs).toArray⟩) w':=by
     have e2:args.map a'.eval=(tdens vs).toArray:=by
      rw [<- ea];simp [<- Array.toList_map]
     have e3:resolve a'.eval ⟨.builtin bi,args,ats⟩ o.type=(pure ⟨.builtin bi ats o.type (defC args),args.map a'.eval⟩:Sem Deferred):=rfl;unfold execOp;simp only [hop];rw [e3,e2];rfl
    simp only [wpList,hw,if_true];refine .inl ?_;rw [Oper.wp,ex,Oper.upon_defer];have hag:Agr [⟨.builtin bi ats o.type (defC args),(tdens vs).toArray⟩] cfg.N E' L' { a' with defers:=⟨.builtin bi ats o.type (defC args),(tdens vs).toArray⟩::a'.defers} w':=⟨h2.size,by rw [h2.defers],h2.env,h2.loc⟩;refine wp_mono (j_V hmix ay cy _ _ L' w' _ h1 (hag.put (s:=.undef) (v:=undef) rfl h2.loc (LExt.refl L') o.dst)) ?_;rintro e a'' w'' ⟨E'',L'',k1,k2,-, -⟩;cases e with
    | ret=>
     obtain ⟨xs,⟨v,w3,k3,k4⟩,k5⟩:=w_u (P:=P) k2.env k1;exact .inr ⟨bi,ats,o.type,defC args,_,v,w3,_,k2.defers,k3,k5 w3,k4⟩
    | _=>exact k1.elim
   ·exact h1.elim
  ·refine wp_seq (wp_mono (j_V hmix ax cx _ E L w a h ha) ?_);rintro e a' w' ⟨E',L',h1,h2,h3,h4⟩;cases e with
   | normal=>exact ihy cy E' L' w' a' h1 h2
   | ret=>
    obtain ⟨xs,hR,hr⟩:=h_T h2.env h2.loc h1;exact .inl ⟨h2.defers,_,hr,hR⟩
   | _=>exact h1.elim
 | _=>intro c E L w a h;exact absurd h (by cases c<;>simp [w_d])
theorem w_A (hmix:P.follows .mixedOrders=true){f:FuncId}{fn:Func}(hf:P.funcs[f]? =some fn)(loc:List Nat)(ann:Ann)(args:List TV)(w:World)(R:Ending->World->Prop)
  (h:vcFnD P fn loc ann args w R):Calls P f (tdens args).toArray w R:=by
 unfold vcFnD at h;split at h
 ·rename_i c hb;cases hn:Nat.ble args.length fn.ntmps with
  | false=>rw [hn] at h;exact h.elim
  | true=>
   rw [hn] at h;simp only [cond_true] at h;have hn:=Nat.le_of_ble_eq_true hn;have ha:Agr [] fn.ntmps (argE args) [] { tmps:=(tdens args).toArray++Array.replicate (fn.ntmps-(tdens args).toArray.size) undef,defers:=[]} w:=by
    refine ⟨?_,rfl,n_4 args fn.ntmps hn,⟨fun i lb h=>by simp [getLB] at h,fun i j x y h=>by simp [getLB] at h⟩⟩;simp [f_l];omega
   exact w_m hf hb (w_k (cfg:=⟨fn.ntmps,loc⟩) hmix ann c _ _ w _ h ha)
 ·exact h.elim
end
theorem vcqD {f:FuncId}{fn:Func}(hf:Proofs.Tryz.prog.funcs[f]? =some fn)(loc:List Nat)(js:List (Nat × Jn))(args:List TV){w:World}{R:Ending->World->Prop}{B:Prop}(h:B)
  (e:vcFnD Proofs.Tryz.prog fn loc (match fn.body with |some c=>(fill js c 0).1|none=>.leaf) args w R=B:=by kernel_rfl):Calls Proofs.Tryz.prog f (tdens args).toArray w R:=
 w_A mixed hf loc _ args w R (Eq.mpr e h)
end Go.VC
namespace Go.VC
open Go Go.Proofs
set_option maxRecDepth 100000
theorem v_1 (a:OA)(b:Value)(w:World)(R:EW)(h:
 (b.oneCell'=true/\True)/\(let c:=w.alloc (.cells #[b] 223);
 let d:=c.alloc (.map #[] 0);
 let e:=d.alloc (.map #[] 0);
 True/\True/\(let f:=e.alloc (.cells #[(.map (some c.heap.size)),(.map (some d.heap.size))] 322);
 True/\(let g:=f.alloc (.cells #[P9 none] 318);
 Off g (adr f.heap.size) 1 []/\True/\(let i:=(g.setCell (adr f.heap.size) (P9 (some (adr e.heap.size))));
 C0 81 #[P9 a,(.func (.func 158) #[] #[(P9 (some (adr f.heap.size))),(P9 (some (adr w.heap.size)))])] i (fun j=>True/\R (R9 (.tuple #[])) j)))))):CP 104 #[P9 a,b] w R:=
 vcq Tryz.func104 [] [] [.l (.optr a),.l (.val b)] h
theorem v_Y (a:OA)(b:OA)(c:Addr)(d:Addr)(w:World)(R:EW)(h:
 ∀ e:Bool->World->Prop,(∀ f:Bool,∀ g:World,
 ((Br f (∀ i:World->Prop,(∀ j:World,
 (R (R9 (.tuple #[])) j)->
 i j)->
 Lp g c fun k=>Cb 159 #[P9 k,P9 b,N9 0] g (fun l m=>True/\(Br l (∀ n,n=m.drew->Lv n d fun o=>Pt b fun p=>Lp n (p.add 5) fun q=>CP 123 #[(T9 (⟨#[77,97,120,105,109,117,109,32,105,110,116,114,111,115,112,101,99,116,105,111,110,32,100,101,112,116,104,32,101,120,99,101,101,100,101,100]⟩:BA)),S9 none 0 0] n (fun r s=>∃ t:Value,r=R9 t/\True/\((s.cell? (p.add 5)=n.cell? (p.add 5))/\(s.cell? d=n.cell? d)/\True)/\CP 124 #[P9 q] s (fun u v=>∃ x:Value,u=R9 x/\True/\((v.cell? d=s.cell? d)/\True)/\(t.oneCell'=true/\x.oneCell'=true/\True)/\(let y:=v.alloc (.cells #[t,x] 241);
 ((y.cell? d=v.cell? d)/\True)/\∃ z A,o=.func (.func z) #[] A.toArray/\∃ B,Tryz.prog.funcs[z]? =some B/\(B.name== "runtime.NumGoroutine" ||B.body.isNone)=false/\CP z ([(S9 (some (adr v.heap.size)) 2 2)]++A).toArray y (fun C D=>C=R9 (.tuple #[])/\True/\True/\i D))))) (i m)))) (R (R9 (.tuple #[])) g)))->
 e f g)->
 Pt b fun E=>Ls w (E.add 1) fun F=>(Nr (F.toList==(⟨#[95,95,115,99,104,101,109,97]⟩:BA).toList) (Pt b fun G=>Ls w (G.add 1) fun H=>e (H.toList==(⟨#[95,95,116,121,112,101]⟩:BA).toList) w) (e true w))):CP 158 #[P9 a,P9 b,(P9 (some c)),(P9 (some d))] w R:=
 vcq Tryz.func158 [] [(0,⟨[(17,.bool)],[]⟩),(3,⟨[],[]⟩)] [.l (.optr a),.l (.optr b),.l (.ptr c),.l (.ptr d)] h
theorem v_X (a:OA)(b:OA)(c:Int)(w:World)(R:EW)(h:
 ∀ d:Int->World->Prop,(∀ e:Int,∀ f:World,
 (Pt b fun g=>Ll f (g.add 4) fun i j k=>Cb 195 #[P9 a,S9 i j k,N9 e] f (fun l m=>True/\R (R9 (.bool l)) m))->
 d e f)->
 ∀ n:Bool->World->Prop,(∀ o:Bool,∀ p:World,
 ((Br o ((Br (decide ((wr (c+1))≥3)) (R (R9 (.bool true)) p) (d (wr (c+1)) p))) (d c p)))->
 n o p)->
 Pt b fun q=>Ls w (q.add 1) fun r=>(Nr (r.toList==(⟨#[102,105,101,108,100,115]⟩:BA).toList) (Pt b fun s=>Ls w (s.add 1) fun t=>(Nr (t.toList==(⟨#[105,110,116,101,114,102,97,99,101,115]⟩:BA).toList) (Pt b fun u=>Ls w (u.add 1) fun v=>(Nr (v.toList==(⟨#[112,111,115,115,105,98,108,101,84,121,112,101,115]⟩:BA).toList) (Pt b fun x=>Ls w (x.add 1) fun y=>n (y.toList==(⟨#[105,110,112,117,116,70,105,101,108,100,115]⟩:BA).toList) w) (n true w))) (n true w))) (n true w))):CP 159 #[P9 a,P9 b,N9 c] w R:=
 vcq Tryz.func159 [] [(2,⟨[(2,.int .i64)],[]⟩),(3,⟨[(32,.bool)],[]⟩)] [.l (.optr a),.l (.optr b),.l (.int .i64 c)] h
theorem v_W (a:OA)(b:OA)(c d:Nat)(e:Int)(w:World)(R:EW)(h:
 ∃ (f:Int->World->Prop) (g:Int->World->Nat),f 0 w/\
 (∀ i:Int,∀ j:World,f i j->
 (Br (decide (i<(c:Int))) (∀ k:World->Prop,(∀ l:World,
 ((f (wr (i+1)) l/\g (wr (i+1)) l<g i j))->
 k l)->
 Ix b i c fun m=>Lo j (m.add (i.toNat*1)) fun n=>∀ o:World->Prop,(∀ p:World,
 (∀ q:World->Prop,(∀ r:World,
 (∀ s:OA->Bool->World->Prop,(∀ t:OA,∀ u:Bool,∀ v:World,
 ((Br u (Pt t fun x=>Ll v (x.add 2) fun y z A=>Cb 195 #[P9 a,S9 y z A,N9 e] v (fun B C=>True/\(Br B (R (R9 (.bool true)) C) (k C)))) (k v)))->
 s t u v)->
 ((∀ D,n=some (190,D)->∃ F,D=(P9 F)/\s F true r)/\((∀ E,n≠some (190,E))->s none false r)))->
 q r)->
 ∀ G:OA->Bool->World->Prop,(∀ H:OA,∀ I:Bool,∀ J:World,
 ((Br I (Cb 211 #[P9 a,P9 H,N9 e] J (fun K L=>True/\(Br K (R (R9 (.bool true)) L) (q L)))) (q J)))->
 G H I J)->
 ((∀ M,n=some (180,M)->∃ O,M=(P9 O)/\G O true p)/\((∀ N,n≠some (180,N))->G none false p)))->
 o p)->
 ∀ P:OA->Bool->World->Prop,(∀ Q:OA,∀ S:Bool,∀ U:World,
 ((Br S (Cb 159 #[P9 a,P9 Q,N9 e] U (fun V W=>True/\(Br V (R (R9 (.bool true)) W) (o W)))) (o U)))->
 P Q S U)->
 ((∀ X,n=some (155,X)->∃ Z,X=(P9 Z)/\P Z true j)/\((∀ Y,n≠some (155,Y))->P none false j))) (R (R9 (.bool false)) j)))):CP 195 #[P9 a,S9 b c d,N9 e] w R:=
 vcq Tryz.func195 [] [(6,⟨[(17,.int .i64)],[]⟩),(13,⟨[],[]⟩),(17,⟨[],[]⟩),(18,⟨[(9,.ptr),(10,.bool)],[]⟩),(31,⟨[],[]⟩),(32,⟨[(11,.ptr),(12,.bool)],[]⟩),(45,⟨[(13,.ptr),(14,.bool)],[]⟩)] [.l (.optr a),.l (.slice b c d),.l (.int .i64 e)] h
theorem v_V (a:OA)(b:OA)(c:Int)(w:World)(R:EW)(h:
 Pt b fun d=>Ls w d fun e=>Pt a fun f=>Lm w f fun g=>∃ i,∃ j,(Instr.lookup 319 (.map g) (.string e) true).run Tryz.prog w=.ok (.tuple #[.int .i64 i,.bool j]) w/\(Br j (R (.returned (.bool (decide (c>i)))) w) (Pt b fun k=>Lp w (k.add 3) fun l=>(Br (l.isNone) (R (.returned (.bool false)) w) (True/\True/\(let m:=w.alloc (.cells #[(.string (⟨#[]⟩:BA)),.int .i64 0] 424);
 True/\(let n:=w.alloc (.cells #[.string e,.int .i64 c] 424);
 ∀ o,o=n.drew->Pt a fun p=>Lm o (p.add 1) fun q=>∃ r,∃ s,(Instr.lookup 320 (.map q) (.agg #[.string e,.int .i64 c]) true).run Tryz.prog o=.ok (.tuple #[.bool r,.bool s]) o/\True/\True/\True/\(Br s (R (.returned (.bool r)) o) (Pt a fun t=>Lm o t fun u=>∃ v,(Instr.mapUpdate 319 (.map u) (.string e) (.int .i64 c)).run Tryz.prog o=.ok () v/\(KeepT 424 o v/\True)/\Pt a fun x=>Lm v x fun y=>Pt l fun z=>Ll v (z.add 5) fun A B C=>Cb 195 #[.pointer a,.slice A B C,.int .i64 c] v (fun D E=>(KeepT 424 v E/\True)/\∀ F,F=E.drew->Pt a fun G=>Lm F (G.add 1) fun H=>∃ I,(Instr.mapUpdate 320 (.map H) (.agg #[.string e,.int .i64 c]) (.bool D)).run Tryz.prog F=.ok () I/\(KeepT 424 F I/\True)/\True/\∃ (J:Value) (K:World),(Go.builtin Builtin.delete #[319,9] 0 #[false,false] #[.map y,.string e]).run Tryz.prog I=.ok (.value J) K/\R (.returned (.bool D)) K)))))))))):CP 211 #[.pointer a,.pointer b,.int .i64 c] w R:=
 vcqD Tryz.func211 [11] [] [.l (.optr a),.l (.optr b),.l (.int .i64 c)] h
theorem v_0 (a:OA)(b c:Nat)(d:OA)(e f:Nat)(g:BA)(i:BA)(j:BA)(k:OA)(l m:Nat)(n:OA)(o p:Nat)(q:OA)(r s:Nat)(t:OA)(u v:Nat)(w:World)(R:EW)(h:
 True/\(let x:=w.alloc (.cells #[S9 a b c,S9 d e f,T9 g,T9 i,T9 j,S9 k l m,S9 n o p] 40);
 True/\(let y:=x.alloc (.cells #[S9 q r s,S9 t u v] 30);
 CP 54 #[(.agg #[S9 a b c,S9 d e f,T9 g,T9 i,T9 j,S9 k l m,S9 n o p]),(.agg #[S9 q r s,S9 t u v]),(.func (.func 104) #[] #[])] y (fun z A=>∃ B,∃ C,z=R9 (.tuple #[N9 B,.bool C])/\(KeepT 40 y A/\KeepT 30 y A/\True)/\R (R9 (.tuple #[N9 B,.bool C])) A)))):CP 39 #[(.agg #[S9 a b c,S9 d e f,T9 g,T9 i,T9 j,S9 k l m,S9 n o p]),(.agg #[S9 q r s,S9 t u v])] w R:=
 vcq Tryz.func39 [2,3] [] [.agg [.slice a b c,.slice d e f,.str g,.str i,.str j,.slice k l m,.slice n o p],.agg [.slice q r s,.slice t u v]] h
theorem v_6 (a:OA)(b c:Nat)(d:OA)(e f:Nat)(w:World)(R:EW)(h:
 True/\(let g:=w.alloc (.cells #[S9 a b c,S9 d e f] 30);
 Cb 9 #[(.agg #[S9 a b c,S9 d e f])] g (fun i j=>(KeepT 30 g j/\True)/\(Br (!i) (R (R9 (.bool true)) j) (CP 33 #[] j (fun k l=>∃ m n o,∃ p q r,∃ s t u,∃ v x y,∃ z A B,k=R9 (.agg #[S9 m n o,S9 p q r,S9 s t u,S9 v x y,S9 z A B])/\(KeepT 30 j l/\True)/\CP 10 #[(.agg #[S9 m n o,S9 p q r,S9 s t u,S9 v x y,S9 z A B])] l (fun C D=>∃ E,∃ F,C=R9 (.tuple #[P9 E,.bool F])/\(KeepT 30 l D/\True)/\∀ G:Bool->World->Prop,(∀ H:Bool,∀ I:World,
 ((Br H (R (R9 (.bool true)) I) (∀ J,J=I.drew->CP 15 #[P9 E] J (fun K L=>∃ M N O,∃ P Q S,∃ U,∃ V,∃ W,∃ X Y Z,∃ aa ab ac,K=R9 (.agg #[S9 M N O,S9 P Q S,T9 U,T9 V,T9 W,S9 X Y Z,S9 aa ab ac])/\(KeepT 30 J L/\True)/\((0=0)/\True)/\CP 39 #[(.agg #[S9 M N O,S9 P Q S,T9 U,T9 V,T9 W,S9 X Y Z,S9 aa ab ac]),(.agg #[S9 a b c,S9 d e f])] L (fun ad ae=>∃ af,∃ ag,ad=R9 (.tuple #[N9 af,.bool ag])/\(KeepT 30 L ae/\True)/\True/\True/\True/\Cb 40 #[(.agg #[S9 a b c,S9 d e f])] ae (fun ah ai=>(KeepT 30 ae ai/\True)/\Cb 16 #[N9 af,.bool ag,.bool ah] ai (fun aj ak=>(KeepT 30 ai ak/\True)/\R (R9 (.bool aj)) ak)))))))->
 G H I)->
 (Nr (!F) (Cb 34 #[(.agg #[S9 a b c,S9 d e f]),N9 12] D (fun al am=>(KeepT 30 D am/\True)/\(Nr (!al) (Ci 35 #[(.agg #[S9 a b c,S9 d e f])] am (fun an ao=>(KeepT 30 am ao/\True)/\(Nr (decide (an>60)) ((Nr (decide ((e:Int)>4)) (Cb 36 #[(.agg #[S9 a b c,S9 d e f])] ao (fun ap aq=>(KeepT 30 ao aq/\True)/\(Nr ap (Cb 37 #[(.agg #[S9 a b c,S9 d e f])] aq (fun ar au=>(KeepT 30 aq au/\True)/\(Nr ar (Cb 38 #[(.agg #[S9 a b c,S9 d e f])] au (fun av ax=>(KeepT 30 au ax/\True)/\G av ax)) (G true au)))) (G true aq)))) (G true ao))) (G true ao)))) (G true am)))) (G true D))))))))):CP 7 #[(.agg #[S9 a b c,S9 d e f])] w R:=
 vcq Tryz.func7 [1] [(13,⟨[(44,.bool)],[]⟩)] [.agg [.slice a b c,.slice d e f]] h
set_option maxRecDepth 100000
theorem d_t (a:OA)(b:Value)(w:World)(R:EW)(h:
 Pt a fun c=>Ll w (c.add 1) fun d e f=>(b.oneCell'=true/\True)/\(let g:=w.alloc (.cells #[b] 178);
 ∃ i j k,∃ l,(Go.builtin .append #[143,143] 143 #[false,false] #[S9 d e f,(S9 (some (adr w.heap.size)) 1 1)]).run Tryz.prog g=.ok (.value (S9 i j k)) l/\True/\Pt a fun m=>Off l (m.add 1) 1 []/\True/\(let n:=(l.setCell (m.add 1) (S9 i j k));
 R (R9 (.tuple #[])) n))):CP 81 #[P9 a,b] w R:=
 vcq Tryz.func81 [] [] [.l (.optr a),.l (.val b)] h
variable [DB]
theorem c_9 {eb:Nat}{f:Value}{evs:List Value}{w:World}(hf:a_v f)(hB:Blk w eb 152 evs)(hj:evs[1]? =some (.slice none 0 0)):
  CP 81 #[.pointer (some (adr eb)),f] w fun e w'=>e=.returned (.tuple #[])/\∃ (p:Addr) (C:Nat),Blk w' eb 152 (evs.set 1 (.slice (some p) 1 C))/\At w' 178 p f/\w.heap.size<=p.block/\Ext (fun b=>b=eb) w w':=by
 obtain ⟨p,C,w7,r7,ha,hp,hx,-⟩:=m_z 143 178 Tryz.t178 _ _ (by kernel_rfl) (by kernel_rfl) rfl (by kernel_rfl) rfl (by kernel_rfl) (by decide) (w:=w) hf 143 #[false,false];have hB7:=hB.ext hx id;have hlt:=hB.lt;have hl:1+1<=evs.length:=(List.getElem?_eq_some_iff.1 hj).1;have hs:Ext (fun b=>b=eb) w7 (w7.setCell ⟨eb,1,none⟩ (.slice (some p) 1 C)):=Ext.setCell (X:=fun b=>b=eb) (Ext.refl _) (a:=⟨eb,1,none⟩) (.inl rfl) _;refine d_t (some (adr eb)) f w _ ⟨adr eb,rfl,none,0,0,(hB.at (j:=1) hj).cell,⟨hf.one,trivial⟩,some p,1,C,w7,r7,trivial,adr eb,rfl,hB7.off (j:=1) (n:=1) (q:=fun _=>false) hl rfl,trivial,rfl,p,C,hB7.set 1 _,hs.at (by show ¬ p.block=eb;omega) ha,hp,(hx.toM _).trans hs fun _ _ e=>e⟩
theorem v_5 {t:TypeId}{d:TypeDesc}{xs:Array Value}{off:Nat}{v:Value}{w:World}(hu:Tryz.prog.underlying t=some d)(hd:(match d with | .struct _=>false| .array _ _=>false|_=>true)=true)(h:xs[off]? =some v):(part t xs off).run Tryz.prog w=.ok v w:=by
 cases d<;>first|(cases hd;done)|simp [part,isAgg,a_l hu,h]
theorem w_a:∃ fpk,(Tryz.prog.fieldsOf 424).toList=[⟨("name"),9,0,false, "",fpk,0⟩,⟨("depth"),3,1,false, "",fpk,16⟩]:=⟨(match (Tryz.prog.fieldsOf 424).toList with |f::_=>f.pkgPath|[]=> ""),by kernel_rfl⟩
theorem w_j:Tryz.prog.underlying 424=some (.struct (Tryz.prog.fieldsOf 424)):=by kernel_rfl
theorem v_9:Tryz.prog.underlying 9=some .string:=by kernel_rfl
theorem v_8:Tryz.prog.underlying 3=some (.int .i64):=by kernel_rfl
abbrev fkey (s:BA)(a:Int):Value:=.agg #[.string s,.int .i64 a]
theorem w_Q (s s':BA)(a a':Int):∃ z:Bool,(z=true->s=s'/\a=a')/\(z=false->¬ (s=s'/\a=a'))/\∀ w,(Op.equal 424 (fkey s a) (fkey s' a')).run Tryz.prog w=.ok z w:=by
 have hp:Tryz.prog.stoodInHeld 424=false:=by kernel_rfl
 refine ⟨(s.toList==s'.toList)&&(a==a'),fun h=>?_,fun h=>?_,fun w=>?_⟩
 ·simp only [Bool.and_eq_true] at h;exact ⟨a_b.1 h.1,by simpa using h.2⟩
 ·rintro ⟨rfl,rfl⟩;simp at h
 show (Op.equalIn (9998+1+1) _ _ _).run Tryz.prog w=_;obtain ⟨fpk,hfk⟩:=w_a;rw [run_equalIn_agg w (9998+1) 424 _ _ w_j hp,hfk];have e1:=fun (v:Value) (xs:Array Value) (off:Nat) (h:xs[off]? =some v)=>v_5 (w:=w) v_9 rfl h;have e2:=fun (v:Value) (xs:Array Value) (off:Nat) (h:xs[off]? =some v)=>v_5 (w:=w) v_8 rfl h;have n1:("name" :String)≠ "_" :=by decide
 have n2:("depth" :String)≠ "_" :=by decide
 simp only [Op.eqFields,if_pos n1,if_pos n2,Sem.run_bind,e1 (.string s) #[.string s,.int .i64 a] 0 rfl,e1 (.string s') #[.string s',.int .i64 a'] 0 rfl,Result.andThen_ok,run_equalIn_string w 9998 9 s s' v_9];cases (s.toList==s'.toList)
 ·simp
 ·simp only [Bool.not_true,Bool.false_eq_true,if_false,Sem.run_bind,e2 (.int .i64 a) #[.string s,.int .i64 a] 1 rfl,e2 (.int .i64 a') #[.string s',.int .i64 a'] 1 rfl,Result.andThen_ok,run_equalIn_int w 9998 3 .i64 .i64 a a' v_8];cases (a==a')<;>simp
theorem v_2 (b:Bool)(s:BA)(a:Int)(w:World):(Instr.checkKey b 10000 424 (fkey s a)).run Tryz.prog w=.ok () w:=by
 show (Instr.checkKey b (9998+1+1) _ _).run Tryz.prog w=_;have e1:=fun (v:Value) (xs:Array Value) (off:Nat) (h:xs[off]? =some v)=>v_5 (w:=w) v_9 rfl h;have e2:=fun (v:Value) (xs:Array Value) (off:Nat) (h:xs[off]? =some v)=>v_5 (w:=w) v_8 rfl h;have n1:("name" :String)≠ "_" :=by decide
 have n2:("depth" :String)≠ "_" :=by decide
 have c9:∀ (v:Value),(Instr.checkKey b (9998+1) 9 v).run Tryz.prog w=.ok () w:=fun v=>by
  generalize 9998=d;simp only [Instr.checkKey,Sem.run_bind,a_l v_9,Result.andThen_ok]
  try rfl
 have c3:∀ (v:Value),(Instr.checkKey b (9998+1) 3 v).run Tryz.prog w=.ok () w:=fun v=>by
  generalize 9998=d;simp only [Instr.checkKey,Sem.run_bind,a_l v_8,Result.andThen_ok]
  try rfl
 generalize hd:9998+1=d at *;simp only [Instr.checkKey,Sem.run_bind,a_l w_j,Result.andThen_ok];obtain ⟨fpk,hfk⟩:=w_a;rw [<- Array.forIn_toList,hfk];simp [Sem.run_bind,e1 (.string s) #[.string s,.int .i64 a] 0 rfl,e2 (.int .i64 a) #[.string s,.int .i64 a] 1 rfl,c9,c3]
def FEnt (Pr:BA->Int->Bool->Prop)(es:List MapEntry):Prop:=∀ e∈es,∃ s d v,e.key=fkey s d/\e.val=.bool v/\Pr s d v
theorem w_n {Pr:BA->Int->Bool->Prop}(s:BA)(a:Int):∀ (es:List MapEntry) (i:Nat),FEnt Pr es->(∀ w,(Instr.findAsking 424 (fkey s a) es i).run Tryz.prog w=.ok none w)∨∃ k v e,i<=k/\es[k-i]? =some e/\e.key=fkey s a/\e.val=.bool v/\Pr s a v/\∀ w,(Instr.findAsking 424 (fkey s a) es i).run Tryz.prog w=.ok (some (k,.bool v)) w
 | [],i,_=>.inl fun w=>by simp [Instr.findAsking]
 | e::es,i,h=>by
  obtain ⟨s',a',v,hk,hv,hp⟩:=h e (by simp);obtain ⟨z,hz1,hz2,hz⟩:=w_Q s s' a a';rw [Instr.findAsking];simp only [Sem.run_bind,hk,hz,Result.andThen_ok];cases z with
  | true=>
   obtain ⟨rfl,rfl⟩:=hz1 rfl;exact .inr ⟨i,v,e,Nat.le_refl _,by simp,hk,hv,hp,fun w=>by simp [hv]⟩
  | false=>
   rcases w_n s a es (i+1) (fun e he=>h e (by simp [he])) with h1|⟨k,v',e',g1,g2,g3,g4,g5,g6⟩
   ·exact .inl fun w=>by simp [h1]
   ·refine .inr ⟨k,v',e',by omega,?_,g3,g4,g5,fun w=>by simp [g6]⟩;rw [show k-i=(k-(i+1))+1 by omega];simpa using g2
theorem w_o {Pr:BA->Int->Bool->Prop}(s:BA)(a:Int)(es:List MapEntry)(h:FEnt Pr es):(∀ w,(Instr.findKey 424 (fkey s a) es).run Tryz.prog w=.ok none w)∨∃ k v e,es[k]? =some e/\e.key=fkey s a/\e.val=.bool v/\Pr s a v/\∀ w,(Instr.findKey 424 (fkey s a) es).run Tryz.prog w=.ok (some (k,.bool v)) w:=by
 have e:∀ w,(Instr.findKey 424 (fkey s a) es).run Tryz.prog w=(Instr.findAsking 424 (fkey s a) es 0).run Tryz.prog w:=fun w=>by
  unfold Instr.findKey;simp only [Sem.run_bind,a_l w_j,Result.andThen_ok];cases es with
  | nil=>simp [Instr.findNow,Instr.findAsking]
  | cons e es=>
   obtain ⟨s',a',v,hk,-⟩:=h e (by simp);simp [Instr.findNow,Instr.sameNow]
 simp only [e];rcases w_n s a es 0 h with h1|⟨k,v,e,-, g2,g⟩
 ·exact .inl h1
 ·exact .inr ⟨k,v,e,by simpa using g2,g⟩
def PMap (w:World)(b:Nat)(Pr:BA->Int->Bool->Prop):Prop:=∃ (ents:Array MapEntry) (cl:Nat),objAt w b=some (.map ents cl)/\FEnt Pr ents.toList
theorem PMap.made (w:World)(Pr:BA->Int->Bool->Prop):PMap (w.alloc (.map #[] 0)) w.heap.size Pr:=⟨#[],0,by rw [b_R,if_pos rfl],fun e he=>by simp at he⟩
theorem PMap.ext {w w':World}{b:Nat}{Pr:BA->Int->Bool->Prop}{X:Nat->Prop}(h:PMap w b Pr)(hx:Ext X w w')(hb:¬ X b):PMap w' b Pr:=by
 obtain ⟨ents,cl,h1,h2⟩:=h;exact ⟨ents,cl,hx.old b _ hb h1,h2⟩
theorem PMap.lt {w:World}{b:Nat}{Pr:BA->Int->Bool->Prop}(h:PMap w b Pr):b<w.heap.size:=by
 obtain ⟨ents,cl,h1,-⟩:=h;exact a_3 h1
theorem PMap.look {w:World}{b:Nat}{Pr:BA->Int->Bool->Prop}(h:PMap w b Pr)(s:BA)(a:Int):∃ v z:Bool,(Instr.lookup 320 (.map (some b)) (fkey s a) true).run Tryz.prog w=.ok (.tuple #[.bool v,.bool z]) w/\(z=true->Pr s a v):=by
 obtain ⟨ents,cl,h1,h2⟩:=h;have hu:Tryz.prog.underlying 320=some (.map 424 4):=by kernel_rfl
 have hi:Tryz.prog.info? 4=some Tryz.t4:=by kernel_rfl
 have hz:∀ w,(zeroValue 4).run Tryz.prog w=.ok (.bool false) w:=fun w=>by
  have:Tryz.t4.zero=some (.bool false):=rfl;simp [zeroValue,typeInfo,Sem.run_bind,hi,this]
 have hb:w.heap[b]? =some (.map ents cl):=h1;have hg:(getObj b).run Tryz.prog w=.ok (.map ents cl) w:=by simp [getObj,Sem.run,hb]
 rcases w_o s a ents.toList h2 with hk|⟨k,v,e,-, -, -, hp,hk⟩
 ·refine ⟨false,false,?_,nofun⟩;unfold Instr.lookup;simp only [Sem.run_bind,a_l hu,Result.andThen_ok,hg,Sem.run_pure,v_2,hk,hz];rfl
 ·refine ⟨v,true,?_,fun _=>hp⟩;unfold Instr.lookup;simp only [Sem.run_bind,a_l hu,Result.andThen_ok,hg,Sem.run_pure,v_2,hk];rfl
theorem PMap.put {w:World}{b:Nat}{Pr:BA->Int->Bool->Prop}(h:PMap w b Pr){s:BA}{a:Int}{v:Bool}(hp:Pr s a v):∃ w',(Instr.mapUpdate 320 (.map (some b)) (fkey s a) (.bool v)).run Tryz.prog w=.ok () w'/\PMap w' b Pr/\Ext (fun k=>k=b) w w':=by
 obtain ⟨ents,cl,h1,h2⟩:=h;have hu:Tryz.prog.underlying 320=some (.map 424 4):=by kernel_rfl
 have hb:w.heap[b]? =some (.map ents cl):=h1;have hlt:b<w.heap.size:=a_3 hb;have hset:∀ o:Obj,Ext (fun k=>k=b) w { w with heap:=w.heap.setIfInBounds b o}:=fun o=>
  ⟨fun k o' hk ho=>by simp only [objAt,Array.getElem?_setIfInBounds];rw [if_neg (fun e=>hk e.symm)];exact ho,by simp,rfl,rfl⟩
 have hat:∀ o:Obj,objAt { w with heap:=w.heap.setIfInBounds b o} b=some o:=fun o=>by simp [objAt,hlt]
 rcases w_o s a ents.toList h2 with hk|⟨k,v0,e,he,hke,-, -, hk⟩
 ·refine ⟨{ w with heap:=w.heap.setIfInBounds b (.map (ents.push { key:=fkey s a,val:=.bool v,born:=cl}) (cl+1))},?_,⟨_,_,hat _,fun e he=>?_⟩,hset _⟩
  ·simp [Instr.mapUpdate,Sem.run_bind,a_l hu,getObj,setObj,Sem.run,hb,v_2,hk]
  ·rw [Array.toList_push,ma_,List.mem_singleton] at he;rcases he with he|rfl
   ·exact h2 e he
   ·exact ⟨s,a,v,rfl,rfl,hp⟩
 ·have hek:ents[k]? =some e:=by simpa using he
  have hs:(Instr.keyThatStays (fkey s a) (fkey s a)).run Tryz.prog w=.ok (fkey s a) w:=by
   have:Instr.sameBits 10000 (fkey s a) (fkey s a)=true:=by
    simp [Instr.sameBits,h_v.2 rfl]
   simp [Instr.keyThatStays,this]
  refine ⟨{ w with heap:=w.heap.setIfInBounds b (.map (ents.modify k fun e=>{ e with key:=fkey s a,val:=.bool v}) cl)},?_,⟨_,_,hat _,fun e' he'=>?_⟩,hset _⟩
  ·simp only [Instr.mapUpdate,Sem.run_bind,a_l hu,Result.andThen_ok,v_2,hk,hek,Option.map_some,Option.getD_some,hke,hs];simp [getObj,setObj,Sem.run,hb,a_l hu,v_2,hk,hek,hke,hs]
  ·obtain ⟨j,hj⟩:=List.mem_iff_getElem?.1 he';rw [Array.getElem?_toList,Array.getElem?_modify] at hj;split at hj
   ·cases hx:ents[j]? with
    | none=>rw [hx] at hj;simp at hj
    | some e0=>
     rw [hx] at hj;simp only [Option.map_some,Option.some.injEq] at hj;subst hj;exact ⟨s,a,v,rfl,rfl,hp⟩
   ·exact h2 e' (mg_ (by rw [Array.getElem?_toList];exact hj))
theorem t_P {t kt e:TypeId}{b:Nat}{m:List (BA × Value)}{u:BA}{v:Value}{w:World}(hu:Tryz.prog.underlying t=some (.map kt e))(hkt:Tryz.prog.underlying kt=some .string)(hm:SMap w b (m++[(u,v)]))(hno:∀ x∈m,x.1≠u)(ty:TypeId)(fs:Array Bool):
  ∃ r w',(Go.builtin .delete #[t,kt] ty fs #[.map (some b),.string u]).run Tryz.prog w=.ok (.value r) w'/\SMap w' b m/\Ext (fun k=>k=b) w w':=by
 obtain ⟨ents,cl,h1,h2⟩:=hm;obtain ⟨r,g1,g2,g3,g4⟩:=i_P (u:=u) ents.toList (m++[(u,v)]) 0 h2;have hk:=(c_Q (P:=Tryz.prog) (w:=w) hkt u ents.toList).2 r g1;have hb:w.heap[b]? =some (.map ents cl):=h1;have hlt:b<w.heap.size:=a_3 h1;cases r with
 | none=>
  have:=g3 rfl (u,v) (by simp);rw [h_v.2 rfl] at this;cases this
 | some kv=>
  obtain ⟨k,v0⟩:=kv;obtain ⟨-, x,q1,q2,q3⟩:=g4 k v0 rfl;rw [Nat.sub_zero] at q1 q3;have hux:=h_v.1 q2;have hkm:k=m.length:=by
   have hlt:k<(m++[(u,v)]).length:=(List.getElem?_eq_some_iff.1 q1).1;rw [la_] at hlt;simp only [List.length_cons,List.length_nil] at hlt;rcases Nat.lt_or_ge k m.length with h|h
   ·rw [List.getElem?_append_left h] at q1;exact absurd hux.symm (hno x (mg_ q1))
   ·omega
  refine ⟨.tuple #[],{ w with heap:=w.heap.setIfInBounds b (.map (ents.eraseIdxIfInBounds k) cl)},?_,⟨ents.eraseIdxIfInBounds k,cl,by simp [objAt,hlt],?_⟩,⟨fun k' o' hk' ho=>by simp only [objAt,Array.getElem?_setIfInBounds];rw [if_neg (fun e=>hk' e.symm)];exact ho,by simp,rfl,rfl⟩⟩
  ·simp [Go.builtin,Builtin.delete_,Sem.run_bind,a_l hu,getObj,setObj,Sem.run,hb,b_s hkt,hk]
  ·have hlen:ents.size=m.length+1:=by
    have:=congrArg List.length h2;simpa using this
   have he:(ents.eraseIdxIfInBounds k).toList=ents.toList.eraseIdx k:=by
    unfold Array.eraseIdxIfInBounds;rw [dif_pos (by omega),Array.toList_eraseIdx]
   rw [he,List.eraseIdx_eq_take_drop_succ,List.map_append,List.map_take,List.map_drop,h2,hkm,List.map_append,List.take_left' (by simp),List.drop_of_length_le (by simp)];simp
def PrD (fr:List Frag)(s:BA)(d:Int)(b:Bool):Prop:=∃ f,a_h Frag.name fr s=some f/\(b=true↔Dip fr f.kids d)
structure DS (c:WCtx) (wB:World) (m1 m2:Nat) (VV:List (BA × Value)) (w:World):Prop where
 ext:Ext (fun k=>k=m1∨k=m2) wB w
 vis:SMap w m1 VV
 memo:PMap w m2 (PrD c.frags)
theorem DS.ext0 {c:WCtx}{wB w w':World}{m1 m2:Nat}{VV:List (BA × Value)}(h:DS c wB m1 m2 VV w)(hx:EF w w'):DS c wB m1 m2 VV w':=⟨h.ext.trans hx fun _ _ e=>e.elim,h.vis.ext hx id,h.memo.ext hx id⟩
theorem w_c {w w':World}{X:Nat->Prop}(hx:Ext X w w')(h:∀ b,X b->∃ es n,objAt w b=some (.map es n))(T:TypeId):KeepT T w w':=fun k cs fr hk=>hx.old k _ (fun e=>by
 obtain ⟨es,n,h1⟩:=h k e;rw [h1] at hk;cases hk) hk
theorem SMap.obj {w:World}{b:Nat}{m:List (BA × Value)}(h:SMap w b m):∃ es n,objAt w b=some (.map es n):=by
 obtain ⟨es,n,h1,-⟩:=h;exact ⟨es,n,h1⟩
theorem PMap.obj {w:World}{b:Nat}{Pr:BA->Int->Bool->Prop}(h:PMap w b Pr):∃ es n,objAt w b=some (.map es n):=by
 obtain ⟨es,n,h1,-⟩:=h;exact ⟨es,n,h1⟩
theorem Rch.mono {fs:List Frag}{ks ks':List Sel}(h:∀ n∈spL ks,n∈spL ks'){n:BA}(k:Rch fs ks n):Rch fs ks' n:=by
 induction k with
 | base h1 h2=>exact .base (h _ h1) h2
 | step _ hf h1 h2 ih=>exact .step ih hf h1 h2
theorem w_z:∀ a b:List Sel,spL (a++b)=spL a++spL b
 | [],b=>rfl
 | s::a,b=>by simp [spL,w_z a b]
section
variable {c:WCtx} {wB:World} {db m1 m2:Nat}
abbrev CkOf (c:WCtx)(wB:World)(db m1 m2:Nat)(N:Nat):Prop:=∀ (ks:List Sel) (A:OA) (L C:Nat) (VV:List (BA × Value)) (d:Int) (w:World),rkL c.rf ks<N->PSels c.M c.w0 A L C ks->SpL c wB A L->(∀ m,Rch c.frags ks m->SpF c wB m)->DS c wB m1 m2 VV w->(∀ x∈VV,rkL c.rf ks<=c.rf x.1)->0<=d->d<=2->
 CP 195 #[.pointer (some (adr db)),.slice A L C,.int .i64 d] w fun e w'=>∃ b,e=.returned (.bool b)/\(b=true↔Dip c.frags ks d)/\DS c wB m1 m2 VV w'/\Ext (fun k=>k=m1∨k=m2) w w'
theorem w_l (hwk:Wk c c.w0 wB)(hM:∀ b,c.M b->b≠m1/\b≠m2){N:Nat}(IH:CkOf c wB db m1 m2 N){b:Nat}{al nm on:BA}{args:List Argm}{dirs:List Dir}{kids:List Sel}(hp:PSel c.M c.w0 (.mk 0 al nm on args dirs kids) (.iface 155 (.pointer (some (adr b))))){VV:List (BA × Value)}{d:Int}{w:World}(hN:rkL c.rf kids<N)(hsp:∀ A L C,At c.w0 167 ⟨b,4,none⟩ (.slice A L C)->SpL c wB A L)(hspf:∀ m,Rch c.frags kids m->SpF c wB m)(S:DS c wB m1 m2 VV w)(hV:∀ x∈VV,rkL c.rf kids<=c.rf x.1)(h0:0<=d)(h2:d<=2):
  CP 159 #[.pointer (some (adr db)),.pointer (some (adr b)),.int .i64 d] w fun e w'=>∃ z,e=.returned (.bool z)/\(z=true↔3<=incL nm d∨Dip c.frags kids (incL nm d))/\DS c wB m1 m2 VV w'/\Ext (fun k=>k=m1∨k=m2) w w':=by
 simp only [PSel] at hp;rcases hp with ⟨-, b',A1,L1,C1,A2,L2,C2,A3,L3,C3,pos,he,hMb,hBb,-, -, hL3,hC3,hs3,hkids⟩|⟨h,-⟩|⟨h,-⟩
 rotate_left
 ·exact absurd h (by decide)
 ·exact absurd h (by decide)
 have he:=Value.iface.inj he;simp only [Value.pointer.injEq,Option.some.injEq,true_and] at he;obtain rfl:b=b':=congrArg Addr.block he;have hkids:=PSels'_iff.1 ⟨hL3,hC3,hs3,hkids⟩;have kw:Wk c c.w0 w:=hwk.trans (Wk.ofExt S.ext fun b hb e=>e.elim (hM b hb).1 (hM b hb).2);have c1:w.cell? ((adr b).add 1)=some (.string nm):=kw.nd hMb hBb (j:=1) rfl rfl;refine v_X (some (adr db)) (some (adr b)) d w _ fun K4 hK4 K12 hK12=>?_;have key4:∀ d':Int,0<=d'->d'<=2->d'=incL nm d->K4 d' w:=fun d' g0 g2 gd=>hK4 d' w ⟨adr b,rfl,A3,L3,C3,kw.nd hMb hBb (j:=4) rfl rfl,(IH kids A3 L3 C3 VV d' w hN hkids (hsp A3 L3 C3 (hBb.at (j:=4) rfl)) hspf S hV g0 g2).mono fun e w' ⟨z,hz,hz2,S',x'⟩=>⟨z,hz,trivial,z,rfl,hz2.trans (by rw [<- gd];exact ⟨.inr,fun h=>h.resolve_left (by omega)⟩),S',x'⟩⟩;have key12:∀ z:Bool,(z=true↔isLi nm)->K12 z w:=fun z hz=>hK12 z w ⟨fun h=>by
  have hl:=hz.1 h;have hi:incL nm d=d+1:=by rw [incL,if_pos hl]
  rw [a_a h0 (by omega)];exact ⟨fun h3=>⟨true,rfl,⟨fun _=>.inl (by rw [hi];exact odt h3),fun _=>rfl⟩,S,Ext.refl w⟩,fun h3=>key4 (d+1) (by omega) (by have:=odf h3;omega) hi.symm⟩,fun h=>by
  have hl:¬ isLi nm:=fun k=>by rw [hz.2 k] at h;cases h
  exact key4 d h0 h2 (by rw [incL,if_neg hl])⟩
 refine ⟨adr b,rfl,nm,c1,fun n1=>⟨adr b,rfl,nm,c1,fun n2=>⟨adr b,rfl,nm,c1,fun n3=>⟨adr b,rfl,nm,c1,key12 _ ?_⟩,fun n3=>key12 true ⟨fun _=>.inr (.inr (.inl (a_b.1 n3))),fun _=>rfl⟩⟩,fun n2=>key12 true ⟨fun _=>.inr (.inl (a_b.1 n2)),fun _=>rfl⟩⟩,fun n1=>key12 true ⟨fun _=>.inl (a_b.1 n1),fun _=>rfl⟩⟩;constructor
 ·exact fun h=>.inr (.inr (.inr (a_b.1 h)))
 ·rintro (h|h|h|h)
  ·exact absurd h (a_f.1 n1)
  ·exact absurd h (a_f.1 n2)
  ·exact absurd h (a_f.1 n3)
  ·exact a_b.2 h
theorem w_w (hwk:Wk c c.w0 wB)(hM:∀ b,c.M b->b≠m1/\b≠m2)(hdb:Blk wB db 322 [.map (some m1),.map (some m2)])(hdm:db≠m1/\db≠m2/\m1≠m2)(hrf:∀ n f,a_h Frag.name c.frags n=some f->rkF c.rf f<=c.rf n){N:Nat}(IH:CkOf c wB db m1 m2 N){b:Nat}{nm:BA}{cs:List Value}(hMb:c.M b)(hBb:Blk c.w0 b 183 (.string nm::cs))(hns:NS c wB b){f:Frag}(hf:a_h Frag.name c.frags nm=some f)(hN:rkF c.rf f<=N)(hspn:SpF c wB nm)(hspf:∀ m,Rch c.frags f.kids m->SpF c wB m){VV:List (BA × Value)}{d:Int}{w:World}(S:DS c wB m1 m2 VV w)(hV:∀ x∈VV,c.rf nm<c.rf x.1)(h0:0<=d)(h2:d<=2):
  CP 211 #[.pointer (some (adr db)),.pointer (some (adr b)),.int .i64 d] w fun e w'=>∃ z,e=.returned (.bool z)/\(z=true↔Dip c.frags f.kids d)/\DS c wB m1 m2 VV w'/\Ext (fun k=>k=m1∨k=m2) w w':=by
 have kw:∀ {w':World},Ext (fun k=>k=m1∨k=m2) wB w'->Wk c c.w0 w':=fun h=>hwk.trans (Wk.ofExt h fun b hb e=>e.elim (hM b hb).1 (hM b hb).2);have kd:∀ {w':World},Ext (fun k=>k=m1∨k=m2) wB w'->Blk w' db 322 [.map (some m1),.map (some m2)]:=fun h=>hdb.ext h fun e=>e.elim hdm.1 hdm.2.1;obtain ⟨-, q,hq,hqf⟩:=hns;have hqf:=hqf nm _ hBb;obtain ⟨hfm,hfn⟩:=a_U hf;rw [hf] at hqf;obtain ⟨fb,rfl,⟨F2,FL2,FC2,F3,FL3,FC3,fpos,hMf,hBf,-, hfk⟩,hfat⟩:=hqf;rw [hfn] at hfat;have hbm:∀ {w':World},Ext (fun k=>k=m1∨k=m2) wB w'->w'.cell? ((adr b).add 3)=some (.pointer (some (adr fb))):=fun h=>(h.at (fun e=>e.elim (hM b hMb).1 (hM b hMb).2) hq).cell;have hnk:∀ x∈VV,x.1≠nm:=fun x hx e=>by
  have:=hV x hx;rw [e] at this;omega
 have hnk':∀ x∈VV,(nm==x.1)=false:=fun x hx=>by
  cases hh:(nm==x.1) with
  | false=>rfl
  | true=>exact absurd (h_v.1 hh).symm (hnk x hx)
 have hg:mget VV nm=none:=by
  unfold mget;rw [List.find?_eq_none.2 fun x hx=>by simp [hnk' x hx]];rfl
 have hl:=a_W (t:=319) (kt:=9) (e:=3) (u:=nm) (z:=.int .i64 0) (i:=Tryz.t3) (by kernel_rfl) (by kernel_rfl) (by kernel_rfl) rfl S.vis true;rw [hg] at hl;refine v_V (some (adr db)) (some (adr b)) d w _ ⟨adr b,rfl,nm,(kw S.ext).nd hMb hBb (j:=0) rfl rfl,adr db,rfl,some m1,((kd S.ext).at (j:=0) rfl).cell,0,false,hl,fun h=>(by cases h),fun _=>⟨adr b,rfl,some (adr fb),hbm S.ext,fun h=>(by cases h),fun _=>⟨trivial,trivial,trivial,fun w14 e14=>?_⟩⟩⟩;have x14:EF w w14:=by rw [e14];exact ((Ext.refl w).alloc _).drew
 clear e14;have S14:=S.ext0 x14;obtain ⟨v,z,rz,hz⟩:=S14.memo.look nm d;refine ⟨adr db,rfl,some m2,((kd S14.ext).at (j:=1) rfl).cell,v,z,rz,trivial,trivial,trivial,fun h=>?_,fun h=>?_⟩
 ·obtain ⟨f',hf',hv⟩:=hz h;obtain rfl:f=f':=Option.some.inj (hf.symm.trans hf');exact ⟨v,rfl,hv,S14,x14.toM _⟩
 obtain ⟨w21,r21,V21,x21⟩:=b_T (t:=319) (kt:=9) (e:=3) (u:=nm) (v:=.int .i64 d) (by kernel_rfl) (by kernel_rfl) S14.vis;rw [m_u hnk'] at V21;have S21:DS c wB m1 m2 (VV++[(nm,.int .i64 d)]) w21:=⟨S14.ext.trans x21 fun b hb e=>.inl e,V21,S14.memo.ext x21 fun e=>hdm.2.2 e.symm⟩;have hrk:=hrf nm f hf;simp only [rkF] at hrk hN;refine ⟨adr db,rfl,some m1,((kd S14.ext).at (j:=0) rfl).cell,w21,r21,⟨w_c x21 (fun b e=>e▸S14.vis.obj) _,trivial⟩,adr db,rfl,some m1,((kd S21.ext).at (j:=0) rfl).cell,adr fb,rfl,F3,FL3,FC3,(kw S21.ext).nd hMf hBf (j:=5) rfl rfl,?_⟩;refine (IH f.kids F3 FL3 FC3 (VV++[(nm,.int .i64 d)]) d w21 (by omega) hfk (hspn fb F3 FL3 FC3 hfat (hBf.at (j:=5) rfl)) hspf S21 (fun x hx=>?_) h0 h2).mono ?_
 ·rcases ma_.1 hx with hx|hx
  ·have:=hV x hx;omega
  ·rw [List.mem_singleton.1 hx];show rkL c.rf f.kids<=c.rf nm;omega
 rintro _ w27 ⟨b28,rfl,hb28,S27,x27⟩;refine ⟨b28,rfl,⟨w_c x27 (fun k e=>by
  rcases e with rfl|rfl
  ·exact S21.vis.obj
  ·exact S21.memo.obj) _,trivial⟩,fun w29 e29=>?_⟩
 have x29:EF w27 w29:=by rw [e29];exact (Ext.refl w27).drew
 clear e29;have S29:=S27.ext0 x29;obtain ⟨w32,r32,P32,x32⟩:=S29.memo.put (s:=nm) (a:=d) (v:=b28) ⟨f,hf,hb28⟩;have V32:=S29.vis.ext x32 hdm.2.2;obtain ⟨r,w34,r34,V34,x34⟩:=t_P (t:=319) (kt:=9) (e:=3) (by kernel_rfl) (by kernel_rfl) V32 hnk 0 #[false,false];refine ⟨adr db,rfl,some m2,((kd S29.ext).at (j:=1) rfl).cell,w32,r32,⟨w_c x32 (fun k e=>e▸S29.memo.obj) _,trivial⟩,trivial,r,w34,r34,b28,rfl,hb28,⟨((S29.ext.trans x32 fun b hb e=>.inr e).trans x34 fun b hb e=>.inl e),V34,P32.ext x34 fun e=>hdm.2.2 e.symm⟩,?_⟩;exact ((((((x14.toM _).trans x21 fun b hb e=>.inl e).trans x27 fun b hb e=>e).then x29).trans x32 fun b hb e=>.inr e).trans x34 fun b hb e=>.inl e)
theorem w_B (hwk:Wk c c.w0 wB)(hM:∀ b,c.M b->b≠m1/\b≠m2)(hdb:Blk wB db 322 [.map (some m1),.map (some m2)])(hdm:db≠m1/\db≠m2/\m1≠m2){b:Nat}{nm:BA}{cs:List Value}(hMb:c.M b)(hBb:Blk c.w0 b 183 (.string nm::cs))(hns:NS c wB b)(hf:a_h Frag.name c.frags nm=none){VV:List (BA × Value)}{d:Int}{w:World}(S:DS c wB m1 m2 VV w)(hV:∀ x∈VV,c.rf nm<c.rf x.1):
  CP 211 #[.pointer (some (adr db)),.pointer (some (adr b)),.int .i64 d] w fun e w'=>e=.returned (.bool false)/\w'=w:=by
 have kw:Wk c c.w0 w:=hwk.trans (Wk.ofExt S.ext fun b hb e=>e.elim (hM b hb).1 (hM b hb).2);obtain ⟨-, q,hq,hqf⟩:=hns;have hqf:=hqf nm _ hBb;rw [hf] at hqf;obtain rfl:q=none:=hqf;have hnk':∀ x∈VV,(nm==x.1)=false:=fun x hx=>by
  cases hh:(nm==x.1) with
  | false=>rfl
  | true=>
   have:=hV x hx;rw [h_v.1 hh] at this;omega
 have hg:mget VV nm=none:=by
  unfold mget;rw [List.find?_eq_none.2 fun x hx=>by simp [hnk' x hx]];rfl
 have hl:=a_W (t:=319) (kt:=9) (e:=3) (u:=nm) (z:=.int .i64 0) (i:=Tryz.t3) (by kernel_rfl) (by kernel_rfl) (by kernel_rfl) rfl S.vis true;rw [hg] at hl;exact v_V (some (adr db)) (some (adr b)) d w _ ⟨adr b,rfl,nm,kw.nd hMb hBb (j:=0) rfl rfl,adr db,rfl,some m1,((hdb.ext S.ext fun e=>e.elim hdm.1 hdm.2.1).at (j:=0) rfl).cell,0,false,hl,fun h=>(by cases h),fun _=>⟨adr b,rfl,none,(S.ext.at (fun e=>e.elim (hM b hMb).1 (hM b hMb).2) hq).cell,fun _=>⟨rfl,rfl⟩,fun h=>(by cases h)⟩⟩
theorem w_y (hwk:Wk c c.w0 wB)(hM:∀ b,c.M b->b≠m1/\b≠m2)(hdb:Blk wB db 322 [.map (some m1),.map (some m2)])(hdm:db≠m1/\db≠m2/\m1≠m2)(hrf:∀ n f,a_h Frag.name c.frags n=some f->rkF c.rf f<=c.rf n){N:Nat}(IH:CkOf c wB db m1 m2 N):CkOf c wB db m1 m2 (N+1):=by
 intro ks A L C VV d w hN hp hsp hspf S hV h0d h2d;have e1:=hp.1;have e3:=hp.2.2.1;have kw:∀ {w':World},Ext (fun k=>k=m1∨k=m2) wB w'->Wk c c.w0 w':=fun h=>hwk.trans (Wk.ofExt h fun b hb e=>e.elim (hM b hb).1 (hM b hb).2);refine v_W (some (adr db)) A L C d w _ ⟨fun i w1=>0<=i/\i<=L/\DS c wB m1 m2 VV w1/\Ext (fun k=>k=m1∨k=m2) w w1/\∀ s∈ks.take i.toNat,¬ DipS c.frags d s,fun i _=>((L:Int)-i).toNat,⟨by omega,by omega,S,Ext.refl w,by simp⟩,?_⟩;rintro i w1 ⟨h0,hi,S1,y1,hn⟩;refine ⟨fun hlt=>?_,fun hge=>⟨false,rfl,⟨nofun,fun h=>?_⟩,S1,y1⟩⟩
 ·have hlt:=odt hlt;obtain ⟨p,x,v,hpp,hx,hMp,hat,hps⟩:=hp.get h0 hlt;have hmem:=mg_ hx;have hc:=((kw S1.ext).at (by rw [b_x];exact hMp) hat rfl).cell;have hspo:SpO c wB v:=hsp p i.toNat v hpp (by omega) (by simpa using hat);have hrk:=m_5 (rf:=c.rf) hmem;have hspx:∀ m∈spS x,m∈spL ks:=fun m hm=>by
   obtain ⟨l1,l2,rfl⟩:=List.append_of_mem hmem;rw [w_z,spL];simp [hm]
  obtain ⟨k,al,nm,on,args,dirs,kids⟩:=x;have hps':=hps;simp only [rkS] at hrk;intro K8 hK8;have good:∀ w',DS c wB m1 m2 VV w'->Ext (fun k=>k=m1∨k=m2) w w'->¬ DipS c.frags d (.mk k al nm on args dirs kids)->K8 w':=fun w' S' y' hno=>by
   refine hK8 w' ?_;rw [a_a h0 (by omega)];exact next h0 hlt ⟨S',y',a_g h0 hn hx hno⟩
  have badR:∀ w',DS c wB m1 m2 VV w'->Ext (fun k=>k=m1∨k=m2) w w'->DipS c.frags d (.mk k al nm on args dirs kids)->∃ b,(Ending.returned (.bool true))=.returned (.bool b)/\(b=true↔Dip c.frags ks d)/\DS c wB m1 m2 VV w'/\Ext (fun k=>k=m1∨k=m2) w w':=fun w' S' y' hb=>⟨true,rfl,⟨fun _=>w_h.2 ⟨_,hmem,hb⟩,fun _=>rfl⟩,S',y'⟩;simp only [PSel] at hps;rcases hps with ⟨rfl,b,B1,M1,D1,B2,M2,D2,B3,M3,D3,pos,rfl,hMb,hBb,-⟩|⟨rfl,b,B2,M2,D2,pos,rfl,hMb,hBb,-⟩|⟨rfl,b,B2,M2,D2,B3,M3,D3,pos,rfl,hMb,hBb,-, hL3,hC3,hs3,hkids⟩
  ·refine ⟨p,hpp,⟨h0,hlt⟩,some (155,.pointer (some (adr b))),hc,fun K12 hK12 K38 hK38=>⟨fun u hu=>⟨some (adr b),by cases hu;rfl,hK38 _ true w1 ⟨fun _=>?_,nofun⟩⟩,fun hn=>absurd rfl (hn _)⟩⟩;rw [if_pos rfl] at hrk;refine (w_l hwk hM IH hps' (d:=d) (by omega) (fun A' L' C' ha q j v' hq hj hv' kk hu=>hspo kk (.fld (by rw [<- hq];exact ha) hj hv' hu)) (fun m hm=>hspf m (hm.mono fun n hn=>hspx n (by simp [spS,hn]))) S1 (fun x hx=>by have:=hV x hx;omega) h0d h2d).mono ?_;rintro _ w43 ⟨z,rfl,hz,S43,x43⟩;have y43:=y1.trans x43 fun _ _ e=>e;refine ⟨z,rfl,trivial,fun h=>badR w43 S43 y43 (.inl ⟨rfl,hz.1 h⟩),fun h=>hK12 w43 fun K14 hK14 K28 hK28=>⟨fun u hu=>absurd hu (by simp),fun _=>hK28 none false w43 ⟨nofun,fun _=>hK14 w43 fun K16 hK16=>⟨fun u hu=>absurd hu (by simp),fun _=>hK16 none false w43 ⟨nofun,fun _=>good w43 S43 y43 ?_⟩⟩⟩⟩⟩;rintro (⟨-, hh⟩|⟨hh,-⟩|⟨hh,-⟩)
   ·rw [hz.2 hh] at h;cases h
   ·exact absurd hh (by decide)
   ·exact absurd rfl hh
  ·refine ⟨p,hpp,⟨h0,hlt⟩,some (180,.pointer (some (adr b))),hc,fun K12 hK12 K38 hK38=>⟨fun u hu=>absurd hu (by simp),fun _=>hK38 none false w1 ⟨nofun,fun _=>hK12 w1 fun K14 hK14 K28 hK28=>⟨fun u hu=>⟨some (adr b),by cases hu;rfl,hK28 _ true w1 ⟨fun _=>?_,nofun⟩⟩,fun hn=>absurd rfl (hn _)⟩⟩⟩⟩;have hnm:nm∈spL ks:=hspx nm (by simp [spS]);rw [if_neg (by decide),if_pos rfl] at hrk;cases hf:a_h Frag.name c.frags nm with
   | none=>
    refine (w_B hwk hM hdb hdm hMb hBb (hspo b .here) hf S1 (fun x hx=>by have:=hV x hx;omega)).mono ?_;rintro _ w33 ⟨rfl,rfl⟩;refine ⟨false,rfl,trivial,nofun,fun h=>hK14 w33 fun K16 hK16=>⟨fun u hu=>absurd hu (by simp),fun _=>hK16 none false w33 ⟨nofun,fun _=>good w33 S1 y1 ?_⟩⟩⟩;rintro (⟨hh,-⟩|⟨-, g,hg,-⟩|⟨-, hh,-⟩)
    ·exact absurd hh (by decide)
    ·rw [hf] at hg;cases hg
    ·exact absurd rfl hh
   | some f=>
   have hrn:Rch c.frags ks nm:=.base hnm (by show (a_h Frag.name c.frags nm).isSome=true;rw [hf];rfl);have hrf1:=hrf nm f hf;refine (w_w hwk hM hdb hdm hrf IH hMb hBb (hspo b .here) hf (by omega) (hspf nm hrn) (fun m hm=>hspf m (hrn.trans hf hm)) S1 (fun x hx=>by have:=hV x hx;omega) h0d h2d).mono ?_;rintro _ w33 ⟨z,rfl,hz,S33,x33⟩;have y33:=y1.trans x33 fun _ _ e=>e;refine ⟨z,rfl,trivial,fun h=>badR w33 S33 y33 (.inr (.inl ⟨rfl,f,hf,hz.1 h⟩)),fun h=>hK14 w33 fun K16 hK16=>⟨fun u hu=>absurd hu (by simp),fun _=>hK16 none false w33 ⟨nofun,fun _=>good w33 S33 y33 ?_⟩⟩⟩;rintro (⟨hh,-⟩|⟨-, g,hg,hh⟩|⟨-, hh,-⟩)
   ·exact absurd hh (by decide)
   ·obtain rfl:f=g:=Option.some.inj (hf.symm.trans hg);rw [hz.2 hh] at h;cases h
   ·exact absurd rfl hh
  ·have hkids:=PSels'_iff.1 ⟨hL3,hC3,hs3,hkids⟩;refine ⟨p,hpp,⟨h0,hlt⟩,some (190,.pointer (some (adr b))),hc,fun K12 hK12 K38 hK38=>⟨fun u hu=>absurd hu (by simp),fun _=>hK38 none false w1 ⟨nofun,fun _=>hK12 w1 fun K14 hK14 K28 hK28=>⟨fun u hu=>absurd hu (by simp),fun _=>hK28 none false w1 ⟨nofun,fun _=>hK14 w1 fun K16 hK16=>⟨fun u hu=>⟨some (adr b),by cases hu;rfl,hK16 _ true w1 ⟨fun _=>?_,nofun⟩⟩,fun hn=>absurd rfl (hn _)⟩⟩⟩⟩⟩⟩;rw [if_neg (by decide),if_neg (by decide)] at hrk;refine ⟨adr b,rfl,B3,M3,D3,(kw S1.ext).nd hMb hBb (j:=2) rfl rfl,?_⟩;refine (IH kids B3 M3 D3 VV d w1 (by omega) hkids (fun q j v' hq hj hv' kk hu=>hspo kk (.inl (by rw [<- hq];exact hBb.at (j:=2) rfl) hj hv' hu)) (fun m hm=>hspf m (hm.mono fun n hn=>hspx n (by simp [spS,hn]))) S1 (fun x hx=>by have:=hV x hx;omega) h0d h2d).mono ?_;rintro _ w23 ⟨z,rfl,hz,S23,x23⟩;have y23:=y1.trans x23 fun _ _ e=>e;refine ⟨z,rfl,trivial,fun h=>badR w23 S23 y23 (.inr (.inr ⟨by decide,by decide,hz.1 h⟩)),fun h=>good w23 S23 y23 ?_⟩;rintro (⟨hh,-⟩|⟨hh,-⟩|⟨-, -, hh⟩)
   ·exact absurd hh (by decide)
   ·exact absurd hh (by decide)
   ·rw [hz.2 hh] at h;cases h
 ·obtain ⟨s,hs,h⟩:=w_h.1 h;exact absurd h (a_o e1 hge hn s hs)
theorem c_Ck (hwk:Wk c c.w0 wB)(hM:∀ b,c.M b->b≠m1/\b≠m2)(hdb:Blk wB db 322 [.map (some m1),.map (some m2)])(hdm:db≠m1/\db≠m2/\m1≠m2)(hrf:∀ n f,a_h Frag.name c.frags n=some f->rkF c.rf f<=c.rf n):∀ N,CkOf c wB db m1 m2 N
 | 0=>fun ks A L C VV d w hN=>absurd hN (by omega)
 | N+1=>w_y hwk hM hdb hdm hrf (c_Ck hwk hM hdb hdm hrf N)
end
def badDp (fr:List Frag):Ev->Prop
 | .fld s _=>(o_J s=v_3∨o_J s=v_7)/\Dip fr (v_K s) 0
 | _=>False
def StD (fr:List Frag)(ae cnt vb db m1 m2:Nat)(l:List Ev)(w:World):Prop:=Cnt ae cnt l.length (∃ e∈l,badDp fr e) w/\Blk w vb 318 [.pointer (some (adr db))]/\Blk w db 322 [.map (some m1),.map (some m2)]/\SMap w m1 []/\PMap w m2 (PrD fr)
theorem StD.ext {fr:List Frag}{ae cnt vb db m1 m2:Nat}{l:List Ev}{w w':World}{X:Nat->Prop}(h:StD fr ae cnt vb db m1 m2 l w)(hx:Ext X w w')(hX:∀ b,b=cnt∨b=ae∨b=vb∨b=db∨b=m1∨b=m2->¬ X b):StD fr ae cnt vb db m1 m2 l w':=
 ⟨h.1.ext hx (hX _ (by simp)) (hX _ (by simp)),h.2.1.ext hx (hX _ (by simp)),h.2.2.1.ext hx (hX _ (by simp)),h.2.2.2.1.ext hx (hX _ (by simp)),h.2.2.2.2.ext hx (hX _ (by simp))⟩
section
variable {c:WCtx} {ae cnt vb db m1 m2:Nat} {l:List Ev} {w:World} {cx:Option OpD} {co:OA} {vm:Nat} {evs:List Value} {node:Value} {ev:Ev}
theorem w_U (hM:∀ b,c.M b->b≠m1/\b≠m2)(hd:cnt≠m1/\cnt≠m2/\ae≠m1/\ae≠m2/\vb≠m1/\vb≠m2/\db≠m1/\db≠m2/\m1≠m2)(hne:ae≠cnt)(ho:vb≠cnt/\vb≠ae/\db≠cnt/\db≠ae)(hrf:∀ n f,a_h Frag.name c.frags n=some f->rkF c.rf f<=c.rf n)(hc:StD c.frags ae cnt vb db m1 m2 l w)(hw:Wst c cx co vm evs w)(hk:slot ev=1)(hn:f_i c cx w node ev):
  CP 158 #[.pointer (some (adr c.wb)),node,.pointer (some (adr vb)),.pointer (some (adr ae))] w fun e w'=>e=.returned (.tuple #[])/\Ext (fun b=>b=cnt∨b=ae∨b=m1∨b=m2) w w'/\StD c.frags ae cnt vb db m1 m2 (l++[ev]) w':=by
 obtain ⟨d1,d2,d3,d4,d5,d6,d7,d8,d9⟩:=hd;obtain ⟨o1,o2,o3,o4⟩:=ho;cases ev with
 | fld s pd=>
  obtain ⟨b,q,q8,rfl,hp,-, -, -, -, -, hsd⟩:=hn;obtain ⟨k,al,n,on,args,dirs,kids⟩:=s;have hk0:k=0:=by
   have hp':=hp;simp only [PSel] at hp';rcases hp' with ⟨h,-⟩|⟨-, b',_,_,_,pos,he,-⟩|⟨-, b',_,_,_,_,_,_,pos,he,-⟩
   ·exact h
   ·simp at he
   ·simp at he
  subst hk0;have hp':=hp;simp only [PSel] at hp';rcases hp' with ⟨-, b',A1,L1,C1,A2,L2,C2,A3,L3,C3,pos,he,hMb,hBb,-⟩|⟨h,-⟩|⟨h,-⟩
  rotate_left
  ·exact absurd h (by decide)
  ·exact absurd h (by decide)
  have he:=Value.iface.inj he;simp only [Value.pointer.injEq,Option.some.injEq,true_and] at he;obtain rfl:b=b':=congrArg Addr.block he;obtain ⟨hcn,hvb,hdb,hm1,hm2⟩:=id hc;have hB1:badDp c.frags (.fld (.mk 0 al n on args dirs kids) pd)↔(n=v_3∨n=v_7)/\Dip c.frags kids 0:=Iff.rfl;have skip:∀ w',Ext (fun k=>k=m1∨k=m2) w w'->SMap w' m1 []->PMap w' m2 (PrD c.frags)->¬ badDp c.frags (.fld (.mk 0 al n on args dirs kids) pd)->(Ending.returned (.tuple #[]))=.returned (.tuple #[])/\Ext (fun b=>b=cnt∨b=ae∨b=m1∨b=m2) w w'/\StD c.frags ae cnt vb db m1 m2 (l++[.fld (.mk 0 al n on args dirs kids) pd]) w':=fun w' x' s1 s2 hno=>
   ⟨rfl,x'.mono fun _ _ e=>.inr (.inr e),Cnt.skip (hcn.ext x' (fun e=>e.elim d3 d4) (fun e=>e.elim d1 d2)) (by simp) ⟨fun ⟨e,h1,h2⟩=>⟨e,by simp [h1],h2⟩,fun ⟨e,h1,h2⟩=>by
    rcases ma_.1 h1 with h1|h1
    ·exact ⟨e,h1,h2⟩
    ·rw [List.mem_singleton.1 h1] at h2;exact absurd h2 hno⟩,hvb.ext x' (fun e=>e.elim d5 d6),hdb.ext x' (fun e=>e.elim d7 d8),s1,s2⟩
  have c1:w.cell? ((adr b).add 1)=some (.string n):=hw.wk.nd hMb hBb (j:=1) rfl rfl;refine v_Y (some (adr c.wb)) (some (adr b)) (adr vb) (adr ae) w _ fun K5 hK5=>?_;have no5:¬ (n=v_3∨n=v_7)->K5 false w:=fun h=>hK5 false w ⟨nofun,fun _=>skip w (Ext.refl w) hm1 hm2 fun hh=>h (hB1.1 hh).1⟩;have yes5:(n=v_3∨n=v_7)->K5 true w:=fun hnm=>by
   refine hK5 true w ⟨fun _=>fun K8 hK8=>⟨some (adr db),(hvb.at (j:=0) rfl).cell,?_⟩,nofun⟩;have hli:¬ isLi n:=by
    rintro (h|h|h|h)<;>rcases hnm with e|e<;>rw [e] at h<;>exact absurd h (by decide)
   have hinc:incL n 0=0:=by rw [incL,if_neg hli]
   refine (w_l (db:=db) (VV:=[]) (d:=0) hw.wk hM (c_Ck hw.wk hM hdb ⟨d7,d8,d9⟩ hrf (rkL c.rf kids+1)) hp (Nat.lt_succ_self _) hsd.1 hsd.2 ⟨Ext.refl w,hm1,hm2⟩ (fun x hx=>by simp at hx) (by decide) (by decide)).mono ?_;rintro _ w12 ⟨z,rfl,hz,S12,x12⟩;rw [hinc] at hz;refine ⟨z,rfl,trivial,fun h=>fun w14 e14=>?_,fun h=>hK8 w12 (skip w12 x12 S12.vis S12.memo fun hh=>by rw [hz.2 (.inr (hB1.1 hh).2)] at h;cases h)⟩;have hbad:badDp c.frags (.fld (.mk 0 al n on args dirs kids) pd):=hB1.2 ⟨hnm,(hz.1 h).resolve_left (by decide)⟩;have x14:EF w12 w14:=by rw [e14];exact (Ext.refl w12).drew
   clear e14;have y14:Ext (fun k=>k=m1∨k=m2) w w14:=x12.then x14;have c14:=hcn.ext y14 (fun e=>e.elim d3 d4) (fun e=>e.elim d1 d2);have k14:=hw.wk.trans (Wk.ofExt y14 fun b hb e=>e.elim (hM b hb).1 (hM b hb).2);have a14:=k14.at (a:=⟨b,5,none⟩) hMb (hBb.at (j:=5) rfl) rfl;refine ⟨_,(c14.1.at (j:=0) rfl).cell,adr b,rfl,pos,a14.cell,?_⟩;refine tell0 c14 a14 hne rfl fun w' x' c'=>hK8 w' ⟨rfl,(y14.mono fun _ _ e=>.inr (.inr e)).trans x' fun _ _ e=>e.elim .inl fun e=>.inr (.inl e),Cnt.skip c' (by simp) ⟨fun _=>⟨_,by simp,hbad⟩,fun _=>trivial⟩,?_,?_,?_,?_⟩
   ·exact (hvb.ext y14 (fun e=>e.elim d5 d6)).ext x' fun e=>e.elim o1 o2
   ·exact (hdb.ext y14 (fun e=>e.elim d7 d8)).ext x' fun e=>e.elim o3 o4
   ·exact (S12.vis.ext x14 id).ext x' fun e=>e.elim (fun e=>d1 e.symm) fun e=>d3 e.symm
   ·exact (S12.memo.ext x14 id).ext x' fun e=>e.elim (fun e=>d2 e.symm) fun e=>d4 e.symm
  refine ⟨adr b,rfl,n,c1,fun n1=>⟨adr b,rfl,n,c1,?_⟩,fun n1=>yes5 (.inl (a_b.1 n1))⟩;rcases Bool.eq_false_or_eq_true (n.toList==(v_7:BA).toList) with h2|h2
  ·exact Eq.mpr (congrArg (fun z=>K5 z w) h2) (yes5 (.inr (a_b.1 h2)))
  ·exact Eq.mpr (congrArg (fun z=>K5 z w) h2) (no5 fun h=>h.elim (a_f.1 n1) (a_f.1 h2))
 | _=>cases hk
end
theorem w_b {tys:List Def}{fs:List Frag}{cx:Option OpD}{fr:List Frag}:∀ (ks:List Sel) (pd:Option Def),a_z ks->((∃ e∈evL tys fs cx pd ks,badDp fr e)↔prL fr ks)
 | [],pd,_=>by simp [evL,prL]
 | .mk k al n on args dirs kids::l,pd,ok=>by
  simp only [a_z,okSel] at ok;obtain ⟨⟨hk,-, -, hkids,hk1,-⟩,hl⟩:=ok;have ih:=w_b (tys:=tys) (fs:=fs) (cx:=cx) (fr:=fr) l pd hl;have noS:∀ e,badDp fr e->slot e=1:=fun e h=>by
   cases e<;>first|rfl|exact h.elim
  have noA:¬ ∃ e∈b_B cx args,badDp fr e:=fun ⟨e,h1,h2⟩=>by
   have:=d_8 e h1;have:=noS e h2;omega
  have noD:∀ loc,¬ ∃ e∈evDs cx loc dirs,badDp fr e:=fun loc ⟨e,h1,h2⟩=>by
   have:=b_C e h1;have:=noS e h2;omega
  have exA:∀ (a b:List Ev),(∃ e∈a++b,badDp fr e)↔(∃ e∈a,badDp fr e)∨∃ e∈b,badDp fr e:=fun a b=>by
   simp only [ma_];constructor
   ·rintro ⟨e,h|h,hb⟩
    ·exact .inl ⟨e,h,hb⟩
    ·exact .inr ⟨e,h,hb⟩
   ·rintro (⟨e,h,hb⟩|⟨e,h,hb⟩)
    ·exact ⟨e,.inl h,hb⟩
    ·exact ⟨e,.inr h,hb⟩
  have ex1:∀ e:Ev,(∃ e'∈[e],badDp fr e')↔badDp fr e:=fun e=>by simp
  rw [evL,exA,prL,ih];refine or_congr ?_ Iff.rfl;rw [prS,evS];by_cases h0:k=0
  ·have ihk:=w_b (tys:=tys) (fs:=fs) (cx:=cx) (fr:=fr) kids (nextD tys pd n) hkids;rw [if_pos h0,exA,exA,exA,ex1,ihk];simp only [noA,noD,false_or];rw [or_comm];exact or_congr ⟨fun h=>⟨h0,h⟩,fun h=>h.2⟩ Iff.rfl
  ·rw [if_neg h0];by_cases h1:k=1
   ·rw [if_pos h1,exA,ex1,(hk1 h1).2];simp only [noD,h0,prL,false_and,or_false,false_or];exact ⟨fun h=>False.elim h,fun h=>False.elim h⟩
   ·have ihk:=w_b (tys:=tys) (fs:=fs) (cx:=cx) (fr:=fr) kids (inlD tys pd on) hkids;rw [if_neg h1,exA,exA,ex1,ihk];simp only [noD,h0,false_and,or_false,false_or];exact ⟨fun h=>h.elim id (fun h=>False.elim h),.inl⟩
theorem w_X {c:WCtx}(ok1:∀ x∈c.ops,okOp x)(ok2:∀ x∈c.frags,b_j x):(∃ e,DocEv c e/\badDp c.frags e)↔w_i c.ops c.frags:=by
 have noS:∀ e,badDp c.frags e->slot e=1:=fun e h=>by
  cases e<;>first|rfl|exact h.elim
 have inF:∀ (cx:Option OpD) (f:Frag),f∈c.frags->∀ e,e∈evFr c.types c.frags cx f->badDp c.frags e->w_i c.ops c.frags:=fun cx f hf e he hb=>by
  rcases ma_.1 he with he|he
  ·have:=b_C e he;have:=noS e hb;omega
  ·exact .inr ⟨f,hf,(w_b f.kids _ (ok2 f hf).2.1).1 ⟨e,he,hb⟩⟩
 constructor
 ·rintro ⟨e,⟨x,hx,he|⟨n,f,-, hf,he⟩⟩|⟨f,hf,(he|⟨n,g,-, hg,he⟩)|rfl⟩,hb⟩
  ·simp only [evOp,ma_] at he;rcases he with he|he|he|he
   ·have:=g_e e he;have:=noS e hb;omega
   ·have:=b_C e he;have:=noS e hb;omega
   ·exact .inl ⟨x,hx,(w_b x.kids _ (ok1 x hx).2.2.2).1 ⟨e,he,hb⟩⟩
   ·rw [List.mem_singleton.1 he] at hb;exact hb.elim
  ·exact inF _ f (a_U hf).1 e he hb
  ·exact inF _ f hf e he hb
  ·exact inF _ g (a_U hg).1 e he hb
  ·exact hb.elim
 ·rintro (⟨x,hx,h⟩|⟨f,hf,h⟩)
  ·obtain ⟨e,he,hb⟩:=(w_b (tys:=c.types) (fs:=c.frags) (cx:=some x) x.kids (rootT c x.kind) (ok1 x hx).2.2.2).2 h;exact ⟨e,.inl ⟨x,hx,.inl (by simp [evOp,he])⟩,hb⟩
  ·obtain ⟨e,he,hb⟩:=(w_b (tys:=c.types) (fs:=c.frags) (cx:=none) f.kids (lastN Def.name c.types f.on) (ok2 f hf).2.1).2 h;exact ⟨e,.inr ⟨f,hf,.inl (.inl (ma_.2 (.inr he)))⟩,hb⟩
theorem w_G {c:WCtx}{ob:Obs}(h2:c.frags.length<=12)(hs:docW c.ops c.frags<=2097152):spN c ob c.ops c.frags<=17592186044416:=by
 have hp:∀ cx,ptN c ob cx<=2*(c.frags.map fragW).sum:=fun cx=>by
  unfold ptN;rw [<- i_U fragW];exact c_0 fun f _=>lt_ (k_d _ _) (k_V f)
 have h1:c.ops.length<=(c.ops.map opW).sum:=f_I fun x _=>by simp only [opW];omega
 unfold docW at hs;have hpt:∀ cx,ptN c ob cx<=4194304:=fun cx=>by
  have:=hp cx;omega
 have ho:(c.ops.map fun x=>cntE ob (evOp c x)+ptN c ob (some x)).sum<=2*(c.ops.map opW).sum+c.ops.length*4194304:=by
  rw [<- i_U opW,<- f_N (fun x:OpD=>2*opW x) 4194304];exact c_0 fun x hx=>Nat.add_le_add (lt_ (k_d _ _) (n_r c x)) (hpt _)
 have hf:(c.frags.map fun x=>cntE ob (evFr c.types c.frags none x)+1+ptN c ob none).sum<=2*(c.frags.map fragW).sum+c.frags.length*4194305:=by
  rw [<- i_U fragW,<- f_N (fun x:Frag=>2*fragW x) 4194305];exact c_0 fun x hx=>by
   have k1:=lt_ (k_d ob _) (k_V (cx:=none) (tys:=c.types) (fs:=c.frags) x);have k2:=hpt none;omega
 have k1:=Nat.mul_le_mul_right 4194304 (show c.ops.length<=2097152 by omega);have k2:=Nat.mul_le_mul_right 4194305 h2;unfold spN;omega
theorem w_W (wd:WorldD)(ops:List OpD)(frags:List Frag)(h12':frags.length<=12)(ok1:∀ x∈ops,okOp x)(ok2:∀ x∈frags,b_j x)(hs:docW ops frags<=2097152)(hac:∀ f∈frags,¬ Rch frags f.kids f.name):
  RuleOK 104 wd ops frags fun n=>0<=n/\(n>0↔w_i ops frags):=by
 refine ⟨⟨_,Tryz.func104,by kernel_rfl⟩,?_⟩;intro c cnt hops hfrags hwd hb hB hcnt hne hMc hMe;subst hops;subst hfrags;obtain ⟨rf,hrf⟩:=l_q hac;have hlc:=hcnt.lt;have hle:=hB.lt;refine v_1 (some (adr c.eb)) _ c.w0 _ ⟨⟨rfl,trivial⟩,?_⟩;intro w3;have x3:EF c.w0 w3:=(Ext.refl c.w0).alloc _;have Bae:Blk w3 c.w0.heap.size 223 [.func (.func 119) #[] #[.pointer (some (adr cnt))]]:=Blk.made c.w0 _ _;have s3:w3.heap.size=c.w0.heap.size+1:=by simp [w3]
 clear_value w3;intro w4;have x4:EF w3 w4:=(Ext.refl w3).alloc _;have M4:SMap w4 (c.w0.heap.size+1) []:=s3▸SMap.made w3;have s4:w4.heap.size=c.w0.heap.size+2:=by simp [w4,s3]
 clear_value w4;intro w5;have x5:EF w4 w5:=(Ext.refl w4).alloc _;have P5:PMap w5 (c.w0.heap.size+2) (PrD c.frags):=s4▸PMap.made w4 (PrD c.frags);have s5:w5.heap.size=c.w0.heap.size+3:=by simp [w5,s4]
 clear_value w5;rw [s3,s4,s5];refine ⟨trivial,trivial,?_⟩;intro w6;have x6:EF w5 w6:=(Ext.refl w5).alloc _;have B6:Blk w6 (c.w0.heap.size+3) 322 [.map (some (c.w0.heap.size+1)),.map (some (c.w0.heap.size+2))]:=s5▸Blk.made w5 322 [.map (some (c.w0.heap.size+1)),.map (some (c.w0.heap.size+2))];have s6:w6.heap.size=c.w0.heap.size+4:=by simp [w6,s5]
 clear_value w6;rw [s6];refine ⟨trivial,?_⟩;intro w7;have x7:EF w6 w7:=(Ext.refl w6).alloc _;have B7:Blk w7 (c.w0.heap.size+4) 318 [.pointer none]:=s6▸Blk.made w6 318 [.pointer none];have s7:w7.heap.size=c.w0.heap.size+5:=by simp [w7,s6]
 clear_value w7;refine ⟨B7.off (j:=0) (n:=1) (q:=fun _=>false) (by simp) rfl,trivial,?_⟩;intro w8;have x8:Ext (fun k=>k=c.w0.heap.size+4) w7 w8:=Ext.setCell (X:=fun k=>k=c.w0.heap.size+4) (Ext.refl w7) (a:=⟨c.w0.heap.size+4,0,none⟩) (.inl rfl) _;have B8:Blk w8 (c.w0.heap.size+4) 318 [.pointer (some (adr (c.w0.heap.size+3)))]:=B7.set 0 _;have s8:w8.heap.size=c.w0.heap.size+5:=by simp [w8,s7]
 clear_value w8;have y47:EF w5 w7:=x6.then x7;have y37:EF w3 w7:=(x4.then x5).then y47;have y8:EF c.w0 w8:=((x3.then y37).trans x8 fun b hb e=>by
  have e:b=c.w0.heap.size+4:=e;omega)
 have Bae8:=(Bae.ext y37 id).ext x8 (by show ¬ c.w0.heap.size=c.w0.heap.size+4;omega);have M8:=(M4.ext (x5.then y47) id).ext x8 (by show ¬ c.w0.heap.size+1=c.w0.heap.size+4;omega);have P8:=(P5.ext y47 id).ext x8 (by show ¬ c.w0.heap.size+2=c.w0.heap.size+4;omega);have D8:=(B6.ext x7 id).ext x8 (by show ¬ c.w0.heap.size+3=c.w0.heap.size+4;omega);refine (c_9 (f:=.func (.func 158) #[] #[.pointer (some (adr (c.w0.heap.size+4))),.pointer (some (adr c.w0.heap.size))]) rfl (hB.ext y8 id) rfl).mono ?_;rintro _ w9 ⟨rfl,p,C,B9,ap,hpb,x9⟩;have y9:Ext (fun b=>b=c.eb) c.w0 w9:=(y8.toM _).trans x9 fun _ _ e=>e;have hz9:=x9.size;have ne:∀ k,¬ c.w0.heap.size+k=c.eb:=fun k=>by omega
 have hV:∀ b,(b=cnt∨(c.w0.heap.size<=b/\b<c.w0.heap.size+5))->¬ c.M b:=fun b hV hM=>by
  have:=hb.m b hM;rcases hV with rfl|hV
  ·exact hMc hM
  ·omega
 have S9:StD c.frags c.w0.heap.size cnt (c.w0.heap.size+4) (c.w0.heap.size+3) (c.w0.heap.size+1) (c.w0.heap.size+2) [] w9:=⟨Cnt.zero (Bae8.ext x9 (ne 0)) ((hcnt.ext y8 id).ext x9 hne) (by simp),B8.ext x9 (ne 4),D8.ext x9 (ne 3),M8.ext x9 (ne 1),P8.ext x9 (ne 2)⟩;refine ⟨rfl,trivial,rfl,y9,fun b=>b=cnt∨(c.w0.heap.size<=b/\b<c.w0.heap.size+5),StD c.frags c.w0.heap.size cnt (c.w0.heap.size+4) (c.w0.heap.size+3) (c.w0.heap.size+1) (c.w0.heap.size+2),obL [(1,p,C)],rf,?_,fun b hb'=>?_,fun b hb' T cs fr ho=>?_,fun l w'' hl ht=>?_⟩
 ·refine n_H hb hrf hMe y9 (fun b hb'=>hb'.imp id fun e=>by omega) hlc hne hMc hle (fun l w w'' h hx=>h.ext hx fun b hb' e=>e (by omega)) S9 B9 fun b5 wb fm fl j=>o_M (fun x hx=>?_) j;simp only [mc_,nn_,or_false] at hx;subst hx;refine ⟨_,_,[.pointer (some (adr (c.w0.heap.size+4))),.pointer (some (adr c.w0.heap.size))],_,ap,fun h=>?_,fun h=>?_,Tryz.func158,by kernel_rfl,fun l w1 cx co vm evs node ev hl hw hk hn=>?_⟩
  ·have:p.block<c.w0.heap.size:=hb.m _ h;omega
  ·have:p.block=cnt∨(c.w0.heap.size<=p.block/\p.block<c.w0.heap.size+5):=h;omega
  ·refine (w_U (l:=l) (cnt:=cnt) (db:=c.w0.heap.size+3) (m1:=c.w0.heap.size+1) (m2:=c.w0.heap.size+2) (fun b hb'=>?_) (by omega) (by omega) (by omega) ?_ ?_ hw hk hn).mono ?_
   ·have:b<c.w0.heap.size:=hb.m _ hb';omega
   ·exact hrf
   ·exact hl
   ·rintro e w' ⟨h1,h2,h3⟩;exact ⟨h1,h2.mono fun b _ e=>by
     show b=cnt∨(c.w0.heap.size<=b/\b<c.w0.heap.size+5);omega,h3⟩
 ·rcases hb' with rfl|hb'
  ·exact .inr (Nat.le_refl _)
  ·exact .inr (by omega)
 ·obtain ⟨⟨q1,n,q2,-⟩,q3,q4,q5,q6⟩:=S9;rcases hb' with rfl|hb'
  ·rw [q2.type ho];decide
  ·have hcase:b=c.w0.heap.size∨b=c.w0.heap.size+1∨b=c.w0.heap.size+2∨b=c.w0.heap.size+3∨b=c.w0.heap.size+4:=by omega
   rcases hcase with rfl|rfl|rfl|rfl|rfl
   ·rw [q1.type ho];decide
   ·obtain ⟨es,m,hm⟩:=q5.obj;rw [hm] at ho;cases ho
   ·obtain ⟨es,m,hm⟩:=q6.obj;rw [hm] at ho;cases ho
   ·rw [q4.type ho];decide
   ·rw [q3.type ho];decide
 ·obtain ⟨⟨-, n,hn,hk⟩,-⟩:=hl;have hsm:=w_G (c:={ c with V:=fun b=>b=cnt∨(c.w0.heap.size<=b/\b<c.w0.heap.size+5),St:=StD c.frags c.w0.heap.size cnt (c.w0.heap.size+4) (c.w0.heap.size+3) (c.w0.heap.size+1) (c.w0.heap.size+2),w0:=w9,rf:=rf}) (ob:=obL [(1,p,C)]) h12' hs;obtain ⟨k1,k2,k3⟩:=hk (lt_ (lt_ ht.few hsm) (by decide));refine ⟨n,hn,k1,k3.trans ((ht.bad fun e hbad=>?_).trans (w_X ok1 ok2))⟩;cases e with
  | fld s=>rfl
  | _=>cases hbad
theorem v_Z {P:Int->Prop}{wd:WorldD}{a1:OA}{l1 c1:Nat}{a2:OA}{l2 c2:Nat}{a6:OA}{l6 c6:Nat}{a7:OA}{l7 c7:Nat}{q8:OA}{q8l q8c:Nat}{q9:OA}{q9l q9c:Nat}{ops:List OpD}{frags:List Frag}{w:World}
  (hw:c_6 w wd [.slice a1 l1 c1,.slice a2 l2 c2,.string wd.query,.string wd.mutation,.string wd.subscription,.slice a6 l6 c6,.slice a7 l7 c7]) (ok3:∀ x∈wd.dirs,∀ y∈x.args,a_s y) (ok4:∀ x∈wd.types,okDef x)
  (few6:(pushD wd.types wd.possible).length<=4194304) (few7:(pushD wd.types wd.implements).length<=4194304) (hl1:ROps w q8 q8l q8c ops) (hl2:a_X w q9 q9l q9c frags) (ok1:∀ x∈ops,okOp x) (ok2:∀ x∈frags,b_j x) (hr:RuleOK 104 wd ops frags P) (hB0:DB.B<=w.heap.size):
  CP 39 #[.agg #[.slice a1 l1 c1,.slice a2 l2 c2,.string wd.query,.string wd.mutation,.string wd.subscription,.slice a6 l6 c6,.slice a7 l7 c7],.agg #[.slice q8 q8l q8c,.slice q9 q9l q9c]] w fun e w'=>
   ∃ n,e=.returned (.tuple #[.int .i64 n,.bool true])/\P n/\EF w w':=by
 have x11:EF w (w.alloc (.cells #[.slice a1 l1 c1,.slice a2 l2 c2,.string wd.query,.string wd.mutation,.string wd.subscription,.slice a6 l6 c6,.slice a7 l7 c7] 40)):=(Ext.refl w).alloc _;have x12:=x11.alloc (.cells #[.slice q8 q8l q8c,.slice q9 q9l q9c] 30);refine v_0 a1 l1 c1 a2 l2 c2 wd.query wd.mutation wd.subscription a6 l6 c6 a7 l7 c7 q8 q8l q8c q9 q9l q9c w _ ⟨trivial,trivial,?_⟩;refine (j_d (c_6.keep x12.keep hw) ok3 ok4 few6 few7 (hl1.keep x12.keep) (hl2.keep x12.keep) ok1 ok2 hr (lt_ hB0 x12.size)).mono ?_;rintro _ w' ⟨n,rfl,hp,hx⟩;exact ⟨n,true,rfl,⟨hx.keepT _,hx.keepT _,trivial⟩,n,rfl,hp,x12.then hx⟩
theorem w_g {q1:OA}{q1l q1c:Nat}{q2:OA}{q2l q2c:Nat}{ops:List OpD}{frags:List Frag}{w:World}
  (hsp:docW ops frags<=2097152) (h6:ROps w q1 q1l q1c ops) (h7:a_X w q2 q2l q2c frags) (hB0:DB.B<=w.heap.size):
  CP 7 #[.agg #[.slice q1 q1l q1c,.slice q2 q2l q2c]] w fun e w'=>e=.returned (.bool true)/\EF w w':=by
 have x3:EF w (w.alloc (.cells #[.slice q1 q1l q1c,.slice q2 q2l q2c] 30)):=(Ext.refl w).alloc _;refine v_6 q1 q1l q1c q2 q2l q2c w _ ⟨trivial,?_⟩;refine (f_5 q1 q1l q1c q2 q2l q2c _).mono ?_;rintro _ w5 ⟨b6,rfl,x5,-⟩;have y5:=x3.then x5;refine ⟨b6,rfl,⟨x5.keepT _,trivial⟩,fun _=>⟨rfl,y5⟩,fun _=>?_⟩;refine (w_O w5).mono ?_;rintro _ w8 ⟨t,rfl,x8,hT8⟩;have y8:=y5.then x8;refine ⟨none,0,0,none,0,0,none,0,0,some (adr t),1,1,none,0,0,rfl,⟨x8.keepT _,trivial⟩,?_⟩;refine (n_5 (nilS w8:a_p w8 none 0 0 []) (nilS w8:a_p w8 none 0 0 []) (nilS w8:a_Y w8 none 0 0 []) hT8 (nilS w8:RDefs w8 none 0 0 []) (by omega) (lt_ hB0 y8.size)).mono ?_;rintro _ w15 ⟨q16,b17,rfl,x15,hok⟩;have y15:=y8.then x15;refine ⟨q16,b17,rfl,⟨x15.keepT _,trivial⟩,fun K18 hK18=>?_⟩;have key:∀ b w',EF w15 w'->(b=false->b17=true/\frags.length<=4/\(∀ x∈ops,okOp x)/\(∀ x∈frags,b_j x)/\(∀ n∈spAll ops frags,isFr frags n=true)/\∀ f∈frags,¬ Rch frags f.kids f.name)->K18 b w':=by
  intro b w20 x20' hb;have y20':=y15.then x20';refine hK18 b w20 ⟨fun _=>⟨rfl,y20'⟩,fun hbf=>?_⟩;obtain ⟨hb17,n2,ok1,ok2,hfr,hac⟩:=hb hbf;obtain ⟨k,rfl,A,L,C,hB,hR,hO⟩:=hok hb17;intro w21 e21;have x21:EF w20 w21:=by rw [e21];exact (Ext.refl w20).drew
  have y21:=y20'.then x21;have z21:=x20'.then x21;have v21:=x15.then z21;refine (i_8 (hB.ext z21 id) (hT8.keep v21.keep) (hR.keep z21.keep) (nilS w21:a_Y w21 none 0 0 []) hO.few.1 (fun t ht=>by have:=hO.small t ht;omega) hO.few.2 (lt_ hB0 y21.size)).mono ?_;rintro _ w23 ⟨cs,rfl,hW,x23⟩;obtain ⟨ok3,ok4,few6,few7⟩:=k_I hO;have hW':=hW;obtain ⟨a1,l1,c1,a2,l2,c2,a6,l6,c6,a7,l7,c7,rfl,-⟩:=hW';have y23:=y21.then x23;refine ⟨a1,l1,c1,a2,l2,c2,_,_,_,a6,l6,c6,a7,l7,c7,rfl,⟨x23.keepT _,trivial⟩,⟨rfl,trivial⟩,?_⟩;refine (v_Z hW ok3 ok4 few6 few7 (h6.keep y23.keep) (h7.keep y23.keep) ok1 ok2 (w_W _ ops frags (by omega) ok1 ok2 hsp hac) (lt_ hB0 y23.size)).mono ?_;rintro _ w32 ⟨n,rfl,⟨hn0,hn⟩,x32⟩;have y32:=y23.then x32;refine ⟨n,true,rfl,⟨x32.keepT _,trivial⟩,trivial,trivial,trivial,?_⟩;obtain ⟨rf,hrf⟩:=l_q hac;refine (w_C (h6.keep y32.keep) (h7.keep y32.keep) ok1 ok2 hrf hfr).mono ?_;rintro _ w36 ⟨b37,rfl,x36,hb37⟩;have y36:=y32.then x36;refine ⟨b37,rfl,⟨x36.keepT _,trivial⟩,?_⟩;refine (j_9 n true b37 w36).mono ?_;rintro _ w39 ⟨rfl,rfl⟩;refine ⟨_,rfl,⟨(Ext.refl _).keepT _,trivial⟩,?_,y36⟩;rw [n_f hn0 (hn.trans hb37.symm)]
 have no:∀ w',EF w15 w'->K18 true w':=fun w' h=>key true w' h nofun;refine ⟨fun g17=>?_,fun _=>no w15 (Ext.refl w15)⟩;have hs':=n_O ops frags;have hs2:=n_K ops frags;have hsf:(frags.map fun f=>(spL f.kids).length).sum<=spTot ops frags:=Nat.le_add_left _ _;obtain ⟨e2,-⟩:=h7.len;refine (j_1 12 (h6.keep y15.keep) (h7.keep y15.keep)).mono ?_;rintro _ w42 ⟨b43,rfl,x42,h43⟩;have y42:=y15.then x42;refine ⟨b43,rfl,⟨x42.keepT _,trivial⟩,fun g43=>?_,fun _=>no w42 x42⟩;obtain ⟨ok1,ok2⟩:=h43 (by simpa using g43);refine (w_V (h6.keep y42.keep) (h7.keep y42.keep)).mono ?_;rintro _ w45 ⟨n46,rfl,x45⟩;have y45:=y42.then x45;have z45:=x42.then x45;refine ⟨n46,rfl,⟨x45.keepT _,trivial⟩,fun _=>⟨fun g4=>?_,fun _=>no w45 z45⟩,fun _=>no w45 z45⟩;have n4:frags.length<=4:=by
  have:=odf g4;omega
 refine (i_6 (h6.keep y45.keep) (h7.keep y45.keep)).mono ?_;rintro _ w48 ⟨b49,rfl,x48,-⟩;have y48:=y45.then x48;have z48:=z45.then x48;refine ⟨b49,rfl,⟨x48.keepT _,trivial⟩,fun _=>?_,fun _=>no w48 z48⟩;refine (j_2 (h7.keep y48.keep) ok2 (by omega) (by omega)).mono ?_;rintro _ w51 ⟨b52,rfl,x51,h52⟩;have y51:=y48.then x51;have z51:=z48.then x51;refine ⟨b52,rfl,⟨x51.keepT _,trivial⟩,fun g52=>?_,fun _=>no w51 z51⟩;refine (n_o (h6.keep y51.keep) (h7.keep y51.keep) ok1 ok2 (by omega)).mono ?_;rintro _ w54 ⟨b55,rfl,x54,h55⟩;refine ⟨b55,rfl,⟨x54.keepT _,trivial⟩,key b55 w54 (z51.then x54) fun g55=>⟨by simpa using g17,n4,ok1,ok2,fun n hn=>o_e (Classical.byContradiction fun hc=>?_),fun f hf hr=>?_⟩⟩
 ·rw [h55.2 ⟨n,hn,fun f hf he=>hc ⟨f,hf,he⟩⟩] at g55;cases g55
 ·rw [h52.2 ⟨f,hf,hr⟩] at g52;cases g52
end Go.VC
