/- Part of the proof of a law of a rule over documents (TextC), where what the arguments hold is of bulk at most 1048576. -/
import Derived.Test.YtmnhdjhlcgfpkaaGreatBaseB
set_option linter.unusedVariables false
namespace Go.VC
open Go Go.Proofs
set_option maxRecDepth 100000
theorem m_U (a:BA)(b:BA)(c:OA)(d e:Nat)(f:OA)(g i:Nat)(j:BA)(k:OA)(l m:Nat)(n:Bool)(o:OA)(p q:Nat)(r:BA)(s:BA)(t:OA)(u v:Nat)(x:OA)(y z:Nat)(A:BA)(B:OA)(C D:Nat)(E:Bool)(F:OA)(G H:Nat)(w:World)(R:EW)(h:
 True/\(let I:=w.alloc (.cells #[T9 a,T9 b,S9 c d e,S9 f g i,T9 j,S9 k l m,.bool n,S9 o p q] 104);
 True/\(let J:=I.alloc (.cells #[T9 r,T9 s,S9 t u v,S9 x y z,T9 A,S9 B C D,.bool E,S9 F G H] 104);
 ∀ K:Bool->World->Prop,(∀ L:Bool,∀ M:World,
 (R (R9 (.bool L)) M)->
 K L M)->
 (Br (a.toList==r.toList) ((Br (b.toList==s.toList) (Cb 221 #[S9 c d e,S9 t u v,(.func (.func 222) #[] #[])] J (fun N O=>(KeepT 104 J O/\True)/\(Br N (Cb 223 #[S9 f g i,S9 x y z,(.func (.func 224) #[] #[])] O (fun P Q=>(KeepT 104 O Q/\True)/\(Br P (Cb 225 #[(.agg #[T9 j,S9 k l m,.bool n]),(.agg #[T9 A,S9 B C D,.bool E])] Q (fun S U=>(KeepT 104 Q U/\True)/\(Br S (Cb 226 #[S9 o p q,S9 F G H,(.func (.func 227) #[] #[])] U (fun V W=>(KeepT 104 U W/\True)/\K V W)) (K false U)))) (K false Q)))) (K false O)))) (K false J))) (K false J))))):CP 212 #[(.agg #[T9 a,T9 b,S9 c d e,S9 f g i,T9 j,S9 k l m,.bool n,S9 o p q]),(.agg #[T9 r,T9 s,S9 t u v,S9 x y z,T9 A,S9 B C D,.bool E,S9 F G H])] w R:=
 vcq Tryz.func212 [2,3] [(2,⟨[(4,.bool)],[]⟩)] [.agg [.str a,.str b,.slice c d e,.slice f g i,.str j,.slice k l m,.bool n,.slice o p q],.agg [.str r,.str s,.slice t u v,.slice x y z,.str A,.slice B C D,.bool E,.slice F G H]] h
theorem e_H (a:OA)(b c:Nat)(d:OA)(e f:Nat)(g:Value)(w:World)(R:EW)(h:
 (Br ((b:Int) !=(e:Int)) (R (R9 (.bool false)) w) (∃ (i:Int->World->Prop) (j:Int->World->Nat),i 0 w/\
 (∀ k:Int,∀ l:World,i k l->
 (Br (decide (k<(b:Int))) (∀ m,m=l.drew->Ix a k b fun n=>L_ssslbll m (n.add (k.toNat*7)) fun o p q r s t u v x y z A B=>Ix d k e fun C=>L_ssslbll m (C.add (k.toNat*7)) fun D E F G H I J K L M N O P=>∃ Q S,g=.func (.func Q) #[] S.toArray/\∃ U,Tryz.prog.funcs[Q]? =some U/\(U.name== "runtime.NumGoroutine" ||U.body.isNone)=false/\CP Q ([(.agg #[T9 o,T9 p,T9 q,S9 r s t,.bool u,S9 v x y,S9 z A B]),(.agg #[T9 D,T9 E,T9 F,S9 G H I,.bool J,S9 K L M,S9 N O P])]++S).toArray m (fun V W=>∃ X,V=R9 (.bool X)/\True/\True/\(Br (!X) (R (R9 (.bool false)) W) ((i (wr (k+1)) W/\j (wr (k+1)) W<j k l))))) (R (R9 (.bool true)) l)))))):CP 221 #[S9 a b c,S9 d e f,g] w R:=
 vcq Tryz.func221 [] [(14,⟨[(15,.int .i64)],[]⟩)] [.l (.slice a b c),.l (.slice d e f),.l (.val g)] h
theorem j_M (a:BA)(b:BA)(c:BA)(d:OA)(e f:Nat)(g:Bool)(i:OA)(j k:Nat)(l:OA)(m n:Nat)(o:BA)(p:BA)(q:BA)(r:OA)(s t:Nat)(u:Bool)(v:OA)(x y:Nat)(z:OA)(A B:Nat)(w:World)(R:EW)(h:
 True/\(let C:=w.alloc (.cells #[T9 a,T9 b,T9 c,S9 d e f,.bool g,S9 i j k,S9 l m n] 250);
 True/\(let D:=C.alloc (.cells #[T9 o,T9 p,T9 q,S9 r s t,.bool u,S9 v x y,S9 z A B] 250);
 ∀ E:Bool->World->Prop,(∀ F:Bool,∀ G:World,
 (R (R9 (.bool F)) G)->
 E F G)->
 (Br (a.toList==o.toList) ((Br (b.toList==p.toList) (Cb 225 #[(.agg #[T9 c,S9 d e f,.bool g]),(.agg #[T9 q,S9 r s t,.bool u])] D (fun H I=>(KeepT 250 D I/\True)/\(Br H (Cb 223 #[S9 i j k,S9 v x y,(.func (.func 224) #[] #[])] I (fun J K=>(KeepT 250 I K/\True)/\(Br J (Cb 226 #[S9 l m n,S9 z A B,(.func (.func 227) #[] #[])] K (fun L M=>(KeepT 250 K M/\True)/\E L M)) (E false K)))) (E false I)))) (E false D))) (E false D))))):CP 222 #[(.agg #[T9 a,T9 b,T9 c,S9 d e f,.bool g,S9 i j k,S9 l m n]),(.agg #[T9 o,T9 p,T9 q,S9 r s t,.bool u,S9 v x y,S9 z A B])] w R:=
 vcq Tryz.func222 [2,3] [(2,⟨[(4,.bool)],[]⟩)] [.agg [.str a,.str b,.str c,.slice d e f,.bool g,.slice i j k,.slice l m n],.agg [.str o,.str p,.str q,.slice r s t,.bool u,.slice v x y,.slice z A B]] h
theorem g_D (a:OA)(b c:Nat)(d:OA)(e f:Nat)(g:Value)(w:World)(R:EW)(h:
 (Br ((b:Int) !=(e:Int)) (R (R9 (.bool false)) w) (∃ (i:Int->World->Prop) (j:Int->World->Nat),i 0 w/\
 (∀ k:Int,∀ l:World,i k l->
 (Br (decide (k<(b:Int))) (∀ m,m=l.drew->Ix a k b fun n=>L_isl m (n.add (k.toNat*3)) fun o p q r s=>Ix d k e fun t=>L_isl m (t.add (k.toNat*3)) fun u v x y z=>∃ A B,g=.func (.func A) #[] B.toArray/\∃ C,Tryz.prog.funcs[A]? =some C/\(C.name== "runtime.NumGoroutine" ||C.body.isNone)=false/\CP A ([(.agg #[N9 o,T9 p,S9 q r s]),(.agg #[N9 u,T9 v,S9 x y z])]++B).toArray m (fun D E=>∃ F,D=R9 (.bool F)/\True/\True/\(Br (!F) (R (R9 (.bool false)) E) ((i (wr (k+1)) E/\j (wr (k+1)) E<j k l))))) (R (R9 (.bool true)) l)))))):CP 223 #[S9 a b c,S9 d e f,g] w R:=
 vcq Tryz.func223 [] [(14,⟨[(15,.int .i64)],[]⟩)] [.l (.slice a b c),.l (.slice d e f),.l (.val g)] h
theorem m_L (a:Int)(b:BA)(c:OA)(d e:Nat)(f:Int)(g:BA)(i:OA)(j k:Nat)(w:World)(R:EW)(h:
 True/\(let l:=w.alloc (.cells #[N9 a,T9 b,S9 c d e] 115);
 True/\(let m:=l.alloc (.cells #[N9 f,T9 g,S9 i j k] 115);
 ∀ n:Bool->World->Prop,(∀ o:Bool,∀ p:World,
 ((Br o (R (R9 (.bool false)) p) (∀ q:Bool->World->Prop,(∀ r:Bool,∀ s:World,
 ((Br r (R (R9 (.bool false)) s) (∃ (t:Int->World->Prop) (u:Int->World->Nat),t 0 s/\
 (∀ v:Int,∀ x:World,t v x->
 (Br (decide (v<(d:Int))) (∀ y:Bool->World->Prop,(∀ z:Bool,∀ A:World,
 ((Br z (R (R9 (.bool false)) A) ((t (wr (v+1)) A/\u (wr (v+1)) A<u v x))))->
 y z A)->
 ∀ B,B=x.drew->(Br (a==9) (Ix c v d fun C=>Ls B (C.add (v.toNat*4)) fun D=>Ix i v j fun E=>Ls B (E.add (v.toNat*4)) fun F=>(Br (!(D.toList==F.toList)) (y true B) (Ix c v d fun G=>L_isl B ((G.add (v.toNat*4)).add 1) fun H I J K L=>Ix i v j fun M=>L_isl B ((M.add (v.toNat*4)).add 1) fun N O P Q S=>Cb 224 #[(.agg #[N9 H,T9 I,S9 J K L]),(.agg #[N9 N,T9 O,S9 P Q S])] B (fun U V=>(KeepT 115 B V/\True)/\True/\y (!U) V)))) (Ix c v d fun W=>L_isl B ((W.add (v.toNat*4)).add 1) fun X Y Z aa ab=>Ix i v j fun ac=>L_isl B ((ac.add (v.toNat*4)).add 1) fun ad ae af ag ah=>Cb 224 #[(.agg #[N9 X,T9 Y,S9 Z aa ab]),(.agg #[N9 ad,T9 ae,S9 af ag ah])] B (fun ai aj=>(KeepT 115 B aj/\True)/\True/\y (!ai) aj)))) (R (R9 (.bool true)) x))))))->
 q r s)->
 (Br (a !=8) ((Br (a !=9) (q (!(b.toList==g.toList)) p) (q false p))) (q false p)))))->
 n o p)->
 (Nr (a !=f) (n ((d:Int) !=(j:Int)) m) (n true m))))):CP 224 #[(.agg #[N9 a,T9 b,S9 c d e]),(.agg #[N9 f,T9 g,S9 i j k])] w R:=
 vcq Tryz.func224 [2,3] [(3,⟨[(19,.bool)],[]⟩),(11,⟨[(34,.bool)],[]⟩),(22,⟨[(38,.int .i64)],[]⟩),(33,⟨[(74,.bool)],[]⟩)] [.agg [.int .i64 a,.str b,.slice c d e],.agg [.int .i64 f,.str g,.slice i j k]] h
theorem m_K (a:BA)(b:OA)(c d:Nat)(e:Bool)(f:BA)(g:OA)(i j:Nat)(k:Bool)(w:World)(R:EW)(h:
 True/\(let l:=w.alloc (.cells #[T9 a,S9 b c d,.bool e] 63);
 True/\(let m:=l.alloc (.cells #[T9 f,S9 g i j,.bool k] 63);
 ∀ n:Bool->World->Prop,(∀ o:Bool,∀ p:World,
 ((Br o (R (R9 (.bool false)) p) (Cb 230 #[S9 b c d,S9 g i j,(.func (.func 225) #[] #[])] p (fun q r=>(KeepT 63 p r/\True)/\R (R9 (.bool q)) r))))->
 n o p)->
 (Nr (!(e==k)) ((Br ((c:Int)==0) (n (!(a.toList==f.toList)) m) (n false m))) (n true m))))):CP 225 #[(.agg #[T9 a,S9 b c d,.bool e]),(.agg #[T9 f,S9 g i j,.bool k])] w R:=
 vcq Tryz.func225 [2,3] [(3,⟨[(22,.bool)],[]⟩)] [.agg [.str a,.slice b c d,.bool e],.agg [.str f,.slice g i j,.bool k]] h
theorem g_B (a:OA)(b c:Nat)(d:OA)(e f:Nat)(g:Value)(w:World)(R:EW)(h:
 (Br ((b:Int) !=(e:Int)) (R (R9 (.bool false)) w) (∃ (i:Int->World->Prop) (j:Int->World->Nat),i 0 w/\
 (∀ k:Int,∀ l:World,i k l->
 (Br (decide (k<(b:Int))) (∀ m,m=l.drew->Ix a k b fun n=>L_sl m (n.add (k.toNat*2)) fun o p q r=>Ix d k e fun s=>L_sl m (s.add (k.toNat*2)) fun t u v x=>∃ y z,g=.func (.func y) #[] z.toArray/\∃ A,Tryz.prog.funcs[y]? =some A/\(A.name== "runtime.NumGoroutine" ||A.body.isNone)=false/\CP y ([(.agg #[T9 o,S9 p q r]),(.agg #[T9 t,S9 u v x])]++z).toArray m (fun B C=>∃ D,B=R9 (.bool D)/\True/\True/\(Br (!D) (R (R9 (.bool false)) C) ((i (wr (k+1)) C/\j (wr (k+1)) C<j k l))))) (R (R9 (.bool true)) l)))))):CP 226 #[S9 a b c,S9 d e f,g] w R:=
 vcq Tryz.func226 [] [(14,⟨[(15,.int .i64)],[]⟩)] [.l (.slice a b c),.l (.slice d e f),.l (.val g)] h
theorem m_T (a:BA)(b:OA)(c d:Nat)(e:BA)(f:OA)(g i:Nat)(w:World)(R:EW)(h:
 True/\(let j:=w.alloc (.cells #[T9 a,S9 b c d] 87);
 True/\(let k:=j.alloc (.cells #[T9 e,S9 f g i] 87);
 ∀ l:Bool->World->Prop,(∀ m:Bool,∀ n:World,
 (R (R9 (.bool m)) n)->
 l m n)->
 (Br (a.toList==e.toList) (Cb 231 #[S9 b c d,S9 f g i,(.func (.func 232) #[] #[])] k (fun o p=>(KeepT 87 k p/\True)/\l o p)) (l false k))))):CP 227 #[(.agg #[T9 a,S9 b c d]),(.agg #[T9 e,S9 f g i])] w R:=
 vcq Tryz.func227 [2,3] [(2,⟨[(4,.bool)],[]⟩)] [.agg [.str a,.slice b c d],.agg [.str e,.slice f g i]] h
theorem g_C (a:OA)(b c:Nat)(d:OA)(e f:Nat)(g:Value)(w:World)(R:EW)(h:
 (Br ((b:Int) !=(e:Int)) (R (R9 (.bool false)) w) (∃ (i:Int->World->Prop) (j:Int->World->Nat),i 0 w/\
 (∀ k:Int,∀ l:World,i k l->
 (Br (decide (k<(b:Int))) (∀ m,m=l.drew->Ix a k b fun n=>L_slb m (n.add (k.toNat*3)) fun o p q r s=>Ix d k e fun t=>L_slb m (t.add (k.toNat*3)) fun u v x y z=>∃ A B,g=.func (.func A) #[] B.toArray/\∃ C,Tryz.prog.funcs[A]? =some C/\(C.name== "runtime.NumGoroutine" ||C.body.isNone)=false/\CP A ([(.agg #[T9 o,S9 p q r,.bool s]),(.agg #[T9 u,S9 v x y,.bool z])]++B).toArray m (fun D E=>∃ F,D=R9 (.bool F)/\True/\True/\(Br (!F) (R (R9 (.bool false)) E) ((i (wr (k+1)) E/\j (wr (k+1)) E<j k l))))) (R (R9 (.bool true)) l)))))):CP 230 #[S9 a b c,S9 d e f,g] w R:=
 vcq Tryz.func230 [] [(14,⟨[(15,.int .i64)],[]⟩)] [.l (.slice a b c),.l (.slice d e f),.l (.val g)] h
theorem f_x (a:OA)(b c:Nat)(d:OA)(e f:Nat)(g:Value)(w:World)(R:EW)(h:
 (Br ((b:Int) !=(e:Int)) (R (R9 (.bool false)) w) (∃ (i:Int->World->Prop) (j:Int->World->Nat),i 0 w/\
 (∀ k:Int,∀ l:World,i k l->
 (Br (decide (k<(b:Int))) (∀ m,m=l.drew->Ix a k b fun n=>L_sisl m (n.add (k.toNat*4)) fun o p q r s t=>Ix d k e fun u=>L_sisl m (u.add (k.toNat*4)) fun v x y z A B=>∃ C D,g=.func (.func C) #[] D.toArray/\∃ E,Tryz.prog.funcs[C]? =some E/\(E.name== "runtime.NumGoroutine" ||E.body.isNone)=false/\CP C ([(.agg #[T9 o,N9 p,T9 q,S9 r s t]),(.agg #[T9 v,N9 x,T9 y,S9 z A B])]++D).toArray m (fun F G=>∃ H,F=R9 (.bool H)/\True/\True/\(Br (!H) (R (R9 (.bool false)) G) ((i (wr (k+1)) G/\j (wr (k+1)) G<j k l))))) (R (R9 (.bool true)) l)))))):CP 231 #[S9 a b c,S9 d e f,g] w R:=
 vcq Tryz.func231 [] [(14,⟨[(15,.int .i64)],[]⟩)] [.l (.slice a b c),.l (.slice d e f),.l (.val g)] h
theorem m_S (a:BA)(b:Int)(c:BA)(d:OA)(e f:Nat)(g:BA)(i:Int)(j:BA)(k:OA)(l m:Nat)(w:World)(R:EW)(h:
 True/\(let n:=w.alloc (.cells #[T9 a,N9 b,T9 c,S9 d e f] 253);
 True/\(let o:=n.alloc (.cells #[T9 g,N9 i,T9 j,S9 k l m] 253);
 ∀ p:Bool->World->Prop,(∀ q:Bool,∀ r:World,
 (R (R9 (.bool q)) r)->
 p q r)->
 (Br (a.toList==g.toList) (Cb 224 #[(.agg #[N9 b,T9 c,S9 d e f]),(.agg #[N9 i,T9 j,S9 k l m])] o (fun s t=>(KeepT 253 o t/\True)/\p s t)) (p false o))))):CP 232 #[(.agg #[T9 a,N9 b,T9 c,S9 d e f]),(.agg #[T9 g,N9 i,T9 j,S9 k l m])] w R:=
 vcq Tryz.func232 [2,3] [(2,⟨[(4,.bool)],[]⟩)] [.agg [.str a,.int .i64 b,.str c,.slice d e f],.agg [.str g,.int .i64 i,.str j,.slice k l m]] h
theorem l_P (a:BA)(b:BA)(c:BA)(d:OA)(e f:Nat)(g:OA)(i j:Nat)(k:OA)(l m:Nat)(n:OA)(o p:Nat)(q:OA)(r s:Nat)(t:BA)(u:BA)(v:OA)(x y:Nat)(z:OA)(A B:Nat)(C:BA)(D:OA)(E F:Nat)(G:Bool)(H:OA)(I J:Nat)(w:World)(R:EW)(h:
 True/\(let K:=w.alloc (.cells #[T9 a,T9 b,T9 c,S9 d e f,S9 g i j,S9 k l m,S9 n o p,S9 q r s] 96);
 True/\(let L:=K.alloc (.cells #[T9 t,T9 u,S9 v x y,S9 z A B,T9 C,S9 D E F,.bool G,S9 H I J] 104);
 ∃ (M:Int->World->Prop) (N:Int->World->Nat),M 0 L/\
 (∀ O:Int,∀ P:World,M O P->
 (Br (decide (O<(l:Int))) (Ix k O l fun Q=>L_ssllslbl P (Q.add (O.toNat*8)) fun S U V W X Y Z aa ab ac ad ae af ag ah ai=>True/\True/\(let ak:=P.alloc (.cells #[T9 S,T9 U,S9 V W X,S9 Y Z aa,T9 ab,S9 ac ad ae,.bool af,S9 ag ah ai] 104);
 (Br (U.toList==u.toList) (Cb 212 #[(.agg #[T9 t,T9 u,S9 v x y,S9 z A B,T9 C,S9 D E F,.bool G,S9 H I J]),(.agg #[T9 S,T9 U,S9 V W X,S9 Y Z aa,T9 ab,S9 ac ad ae,.bool af,S9 ag ah ai])] ak (fun al am=>(KeepT 96 ak am/\KeepT 104 ak am/\True)/\R (R9 (.bool al)) am)) ((M (wr (O+1)) ak/\N (wr (O+1)) ak<N O P))))) (R (R9 (.bool false)) P)))))):CP 201 #[(.agg #[T9 a,T9 b,T9 c,S9 d e f,S9 g i j,S9 k l m,S9 n o p,S9 q r s]),(.agg #[T9 t,T9 u,S9 v x y,S9 z A B,T9 C,S9 D E F,.bool G,S9 H I J])] w R:=
 vcq Tryz.func201 [2,3,6] [(6,⟨[(10,.int .i64)],[]⟩)] [.agg [.str a,.str b,.str c,.slice d e f,.slice g i j,.slice k l m,.slice n o p,.slice q r s],.agg [.str t,.str u,.slice v x y,.slice z A B,.str C,.slice D E F,.bool G,.slice H I J]] h
theorem i_F (a:OA)(b:BA)(c:BA)(d:BA)(e:OA)(f g:Nat)(i:OA)(j k:Nat)(l:OA)(m n:Nat)(o:OA)(p q:Nat)(r:OA)(s t:Nat)(w:World)(R:EW)(h:
 True/\(let u:=w.alloc (.cells #[T9 b,T9 c,T9 d,S9 e f g,S9 i j k,S9 l m n,S9 o p q,S9 r s t] 96);
 ∃ (v:Int->World->Prop) (x:Int->World->Nat),v 0 u/\
 (∀ y:Int,∀ z:World,v y z->
 (Br (decide (y<(j:Int))) (Ix i y j fun A=>Ls z (A.add (y.toNat*1)) fun B=>CP 66 #[P9 a,T9 B] z (fun C D=>∃ E,∃ F,∃ G,∃ H I J,∃ K L M,∃ N O P,∃ Q S U,∃ V W X,∃ Y,C=R9 (.tuple #[(.agg #[T9 E,T9 F,T9 G,S9 H I J,S9 K L M,S9 N O P,S9 Q S U,S9 V W X]),.bool Y])/\(KeepT 96 z D/\True)/\True/\True/\(let aa:=D.alloc (.cells #[T9 E,T9 F,T9 G,S9 H I J,S9 K L M,S9 N O P,S9 Q S U,S9 V W X] 96);
 ∃ (ab:Int->World->Prop) (ac:Int->World->Nat),ab 0 aa/\
 (∀ ad:Int,∀ ae:World,ab ad ae->
 (Br (decide (ad<(L:Int))) (Ix K ad L fun af=>Ls ae (af.add (ad.toNat*1)) fun ag=>Cb 60 #[T9 ag,S9 i j k] ae (fun ah ai=>(KeepT 96 ae ai/\True)/\(Br (!ah) (R (R9 (.bool false)) ai) ((ab (wr (ad+1)) ai/\ac (wr (ad+1)) ai<ac ad ae))))) (∃ (aj:Int->World->Prop) (ak:Int->World->Nat),aj 0 ae/\
 (∀ al:Int,∀ am:World,aj al am->
 (Br (decide (al<(O:Int))) (Ix N al O fun an=>L_ssllslbl am (an.add (al.toNat*8)) fun ao ap aq ar au av ax ay az aA aB aC aD aE aF aG=>True/\True/\(let aI:=am.alloc (.cells #[T9 ao,T9 ap,S9 aq ar au,S9 av ax ay,T9 az,S9 aA aB aC,.bool aD,S9 aE aF aG] 104);
 Cb 201 #[(.agg #[T9 b,T9 c,T9 d,S9 e f g,S9 i j k,S9 l m n,S9 o p q,S9 r s t]),(.agg #[T9 ao,T9 ap,S9 aq ar au,S9 av ax ay,T9 az,S9 aA aB aC,.bool aD,S9 aE aF aG])] aI (fun aJ aK=>(KeepT 96 aI aK/\KeepT 104 aI aK/\True)/\(Br (!aJ) (R (R9 (.bool false)) aK) ((aj (wr (al+1)) aK/\ak (wr (al+1)) aK<ak al am)))))) ((v (wr (y+1)) am/\x (wr (y+1)) am<x y z)))))))))) (R (R9 (.bool true)) z))))):CP 168 #[P9 a,(.agg #[T9 b,T9 c,T9 d,S9 e f g,S9 i j k,S9 l m n,S9 o p q,S9 r s t])] w R:=
 vcq Tryz.func168 [3,7,12] [(6,⟨[(16,.int .i64)],[]⟩),(23,⟨[(29,.int .i64)],[]⟩),(45,⟨[(42,.int .i64)],[]⟩)] [.l (.optr a),.agg [.str b,.str c,.str d,.slice e f g,.slice i j k,.slice l m n,.slice o p q,.slice r s t]] h
theorem f_w (a:OA)(b:BA)(c:OA)(d e:Nat)(f:Option Nat)(w:World)(R:EW)(h:
 Cb 60 #[T9 b,S9 c d e] w (fun g i=>True/\(Br g (R (R9 (.bool false)) i) (CP 66 #[P9 a,T9 b] i (fun j k=>∃ l,∃ m,∃ n,∃ o p q,∃ r s t,∃ u v x,∃ y z A,∃ B C D,∃ E,j=R9 (.tuple #[(.agg #[T9 l,T9 m,T9 n,S9 o p q,S9 r s t,S9 u v x,S9 y z A,S9 B C D]),.bool E])/\True/\True/\True/\(let G:=k.alloc (.cells #[T9 l,T9 m,T9 n,S9 o p q,S9 r s t,S9 u v x,S9 y z A,S9 B C D] 96);
 ∀ H:Bool->World->Prop,(∀ I:Bool,∀ J:World,
 ((Br I (R (R9 (.bool true)) J) (∃ (K:Int->World->Prop) (L:Int->World->Nat),K 0 J/\
 (∀ M:Int,∀ N:World,K M N->
 (Br (decide (M<(v:Int))) (Ix u M v fun O=>L_ssllslbl N (O.add (M.toNat*8)) fun P Q S U V W X Y Z aa ab ac ad ae af ag=>True/\True/\(let ai:=N.alloc (.cells #[T9 P,T9 Q,S9 S U V,S9 W X Y,T9 Z,S9 aa ab ac,.bool ad,S9 ae af ag] 104);
 ∀ aj:Bool->World->Prop,(∀ ak:Bool,∀ al:World,
 ((Br ak (R (R9 (.bool false)) al) ((K (wr (M+1)) al/\L (wr (M+1)) al<L M N))))->
 aj ak al)->
 ∀ am,am=ai.drew->(Br ad ((Br ((ab:Int)==0) ((((let an:=am.alloc (.cells #[] 9);
 ((1=1)/\True)/\((∃ ao ap aq,∃ ar,(Go.builtin .append #[71,71] 71 #[false,false] #[(S9 (some (adr am.heap.size)) 0 0),S9 c d e]).run Tryz.prog an=.ok (.value (S9 ao ap aq)) ar/\(KeepT 96 an ar/\KeepT 104 an ar/\True)/\((1=1)/\True)/\True/\(let au:=ar.alloc (.cells #[T9 b] 9);
 ((1=1)/\True)/\∃ av ax ay,∃ az,(Go.builtin .append #[71,71] 71 #[false,false] #[S9 ao ap aq,(S9 (some (adr ar.heap.size)) 1 1)]).run Tryz.prog au=.ok (.value (S9 av ax ay)) az/\(KeepT 96 au az/\KeepT 104 au az/\True)/\((1=1)/\True)/\Cb 169 #[P9 a,T9 Z,S9 av ax ay,.map f] az (fun aA aB=>(KeepT 96 az aB/\KeepT 104 az aB/\True)/\True/\aj (!aA) aB)))/\
 (True/\(let aC:=an.alloc (.cells #[T9 b] 9);
 ((1=1)/\True)/\∃ aD aE aF,∃ aG,(Go.builtin .append #[71,71] 71 #[false,false] #[(S9 (some (adr am.heap.size)) 0 0),S9 c d e]).run Tryz.prog aC=.ok (.value (S9 aD aE aF)) aG/\(KeepT 96 aC aG/\KeepT 104 aC aG/\True)/\((1=1)/\True)/\∃ aH aI aJ,∃ aK,(Go.builtin .append #[71,71] 71 #[false,false] #[S9 aD aE aF,(S9 (some (adr an.heap.size)) 1 1)]).run Tryz.prog aG=.ok (.value (S9 aH aI aJ)) aK/\(KeepT 96 aG aK/\KeepT 104 aG aK/\True)/\((1=1)/\True)/\Cb 169 #[P9 a,T9 Z,S9 aH aI aJ,.map f] aK (fun aL aM=>(KeepT 96 aK aM/\KeepT 104 aK aM/\True)/\True/\aj (!aL) aM))))))/\
 (True/\(let aN:=am.alloc (.cells #[T9 b] 9);
 ((1=1)/\True)/\(let aO:=aN.alloc (.cells #[] 9);
 ((1=1)/\True)/\∃ aP aQ aS,∃ aU,(Go.builtin .append #[71,71] 71 #[false,false] #[(S9 (some (adr aN.heap.size)) 0 0),S9 c d e]).run Tryz.prog aO=.ok (.value (S9 aP aQ aS)) aU/\(KeepT 96 aO aU/\KeepT 104 aO aU/\True)/\((1=1)/\True)/\∃ aV aW aX,∃ aY,(Go.builtin .append #[71,71] 71 #[false,false] #[S9 aP aQ aS,(S9 (some (adr am.heap.size)) 1 1)]).run Tryz.prog aU=.ok (.value (S9 aV aW aX)) aY/\(KeepT 96 aU aY/\KeepT 104 aU aY/\True)/\((1=1)/\True)/\Cb 169 #[P9 a,T9 Z,S9 aV aW aX,.map f] aY (fun aZ ba=>(KeepT 96 aY ba/\KeepT 104 aY ba/\True)/\True/\aj (!aZ) ba)))))) (aj false am))) (aj false am)))) (∃ bb,(Instr.mapUpdate 231 (.map f) (T9 b) (.bool true)).run Tryz.prog N=.ok () bb/\(KeepT 96 N bb/\True)/\R (R9 (.bool true)) bb))))))->
 H I J)->
 (Nr (!(l.toList==(⟨#[73,78,80,85,84,95,79,66,74,69,67,84]⟩:BA).toList)) (∃ bc,(Instr.lookup 231 (.map f) (T9 b) false).run Tryz.prog G=.ok (.bool bc) G/\H bc G) (H true G)))))))):CP 169 #[P9 a,T9 b,S9 c d e,.map f] w R:=
 vcq Tryz.func169 [9,12] [(13,⟨[(29,.bool)],[]⟩),(24,⟨[(33,.int .i64)],[]⟩),(35,⟨[(61,.bool)],[]⟩)] [.l (.optr a),.l (.str b),.l (.slice c d e),.l (.map f)] h
theorem h_e (a:OA)(b:BA)(c:OA)(d e:Nat)(w:World)(R:EW)(h:
 let f:=w.alloc (.map #[] 0);
 Cb 169 #[P9 a,T9 b,S9 c d e,(.map (some w.heap.size))] f (fun g i=>True/\R (R9 (.bool g)) i)):CP 108 #[P9 a,T9 b,S9 c d e] w R:=
 vcq Tryz.func108 [] [] [.l (.optr a),.l (.str b),.l (.slice c d e)] h
theorem h_g (a:OA)(b:BA)(c:BA)(d:BA)(e:OA)(f g:Nat)(i:OA)(j k:Nat)(l:OA)(m n:Nat)(o:OA)(p q:Nat)(r:OA)(s t:Nat)(u:Bool)(w:World)(R:EW)(h:
 True/\(let v:=w.alloc (.cells #[T9 b,T9 c,T9 d,S9 e f g,S9 i j k,S9 l m n,S9 o p q,S9 r s t] 96);
 ∃ (x:OA->Nat->Nat->Int->World->Prop) (y:OA->Nat->Nat->Int->World->Nat),x none 0 0 0 v/\
 (∀ (z:OA) (A B:Nat),∀ C:Int,∀ D:World,x z A B C D->
 (Br (decide (C<(m:Int))) (Ix l C m fun E=>L_ssllslbl D (E.add (C.toNat*8)) fun F G H I J K L M N O P Q S U V W=>True/\True/\(let Y:=D.alloc (.cells #[T9 F,T9 G,S9 H I J,S9 K L M,T9 N,S9 O P Q,.bool S,S9 U V W] 104);
 True/\(let Z:=Y.alloc (.cells #[T9 G] 9);
 ∃ aa ab ac,∃ ad,(Go.builtin .append #[71,71] 71 #[false,false] #[S9 z A B,(S9 (some (adr Y.heap.size)) 1 1)]).run Tryz.prog Z=.ok (.value (S9 aa ab ac)) ad/\(KeepT 96 Z ad/\KeepT 104 Z ad/\True)/\∀ ae:Bool->World->Prop,(∀ af:Bool,∀ ag:World,
 ((Br af (R (R9 (.bool false)) ag) (Cs 64 #[P9 a,(.agg #[T9 N,S9 O P Q,.bool S])] ag (fun ah ai=>(KeepT 96 ag ai/\KeepT 104 ag ai/\True)/\∀ aj:Bool->World->Prop,(∀ ak:Bool,∀ al:World,
 ((Br ak (R (R9 (.bool false)) al) ((x aa ab ac (wr (C+1)) al/\y aa ab ac (wr (C+1)) al<y z A B C D))))->
 aj ak al)->
 (Br (b.toList==(⟨#[73,78,80,85,84,95,79,66,74,69,67,84]⟩:BA).toList) (Cb 116 #[T9 ah] ai (fun am an=>(KeepT 96 ai an/\KeepT 104 ai an/\True)/\(Nr (!am) ((Br (!(b.toList==(⟨#[73,78,80,85,84,95,79,66,74,69,67,84]⟩:BA).toList)) (Cb 167 #[T9 ah] an (fun ao ap=>(KeepT 96 an ap/\KeepT 104 an ap/\True)/\aj (!ao) ap)) (aj false an))) (aj true an)))) ((Br (!(b.toList==(⟨#[73,78,80,85,84,95,79,66,74,69,67,84]⟩:BA).toList)) (Cb 167 #[T9 ah] ai (fun aq ar=>(KeepT 96 ai ar/\KeepT 104 ai ar/\True)/\aj (!aq) ar)) (aj false ai))))))))->
 ae af ag)->
 (Nr (decide ((wr ((V:Int)+(L:Int)))>0)) ((Nr (!(F.toList==(⟨#[]⟩:BA).toList)) (Cb 110 #[P9 a,S9 H I J] ad (fun au av=>(KeepT 96 ad av/\KeepT 104 ad av/\True)/\ae (!au) av)) (ae true ad))) (ae true ad))))) (∃ (ax:OA->Nat->Nat->Int->World->Prop) (ay:OA->Nat->Nat->Int->World->Nat),ax z A B 0 D/\
 (∀ (az:OA) (aA aB:Nat),∀ aC:Int,∀ aD:World,ax az aA aB aC aD->
 (Br (decide (aC<(s:Int))) (Ix r aC s fun aE=>L_ssl aD (aE.add (aC.toNat*3)) fun aF aG aH aI aJ=>True/\True/\(let aL:=aD.alloc (.cells #[T9 aF,T9 aG,S9 aH aI aJ] 259);
 True/\(let aM:=aL.alloc (.cells #[T9 aG] 9);
 ∃ aN aO aP,∃ aQ,(Go.builtin .append #[71,71] 71 #[false,false] #[S9 az aA aB,(S9 (some (adr aL.heap.size)) 1 1)]).run Tryz.prog aM=.ok (.value (S9 aN aO aP)) aQ/\(KeepT 96 aM aQ/\KeepT 259 aM aQ/\True)/\∀ aS:Bool->World->Prop,(∀ aU:Bool,∀ aV:World,
 ((Br aU (R (R9 (.bool false)) aV) ((ax aN aO aP (wr (aC+1)) aV/\ay aN aO aP (wr (aC+1)) aV<ay az aA aB aC aD))))->
 aS aU aV)->
 (Nr (decide ((aI:Int)>0)) (aS (!(aF.toList==(⟨#[]⟩:BA).toList)) aQ) (aS true aQ))))) (∃ (aW:Int->World->Prop) (aX:Int->World->Nat),aW 0 aD/\
 (∀ aY:Int,∀ aZ:World,aW aY aZ->
 (Br (decide (aY<(p:Int))) (Ix o aY p fun ba=>Ls aZ (ba.add (aY.toNat*1)) fun bb=>CP 66 #[P9 a,T9 bb] aZ (fun bc bd=>∃ be,∃ bf,∃ bg,∃ bh bi bj,∃ bk bl bm,∃ bn bo bp,∃ bq br bs,∃ bt bu bv,∃ bx,bc=R9 (.tuple #[(.agg #[T9 be,T9 bf,T9 bg,S9 bh bi bj,S9 bk bl bm,S9 bn bo bp,S9 bq br bs,S9 bt bu bv]),.bool bx])/\(KeepT 96 aZ bd/\True)/\True/\True/\(let bA:=bd.alloc (.cells #[T9 be,T9 bf,T9 bg,S9 bh bi bj,S9 bk bl bm,S9 bn bo bp,S9 bq br bs,S9 bt bu bv] 96);
 (Br (!(be.toList==(⟨#[79,66,74,69,67,84]⟩:BA).toList)) (R (R9 (.bool false)) bA) ((aW (wr (aY+1)) bA/\aX (wr (aY+1)) bA<aX aY aZ)))))) (∃ (bB:Int->World->Prop) (bC:Int->World->Nat),bB 0 aZ/\
 (∀ bD:Int,∀ bE:World,bB bD bE->
 (Br (decide (bD<(j:Int))) (Ix i bD j fun bF=>Ls bE (bF.add (bD.toNat*1)) fun bG=>CP 66 #[P9 a,T9 bG] bE (fun bH bI=>∃ bJ,∃ bK,∃ bL,∃ bM bN bO,∃ bP bQ bS,∃ bU bV bW,∃ bX bY bZ,∃ ca cb cc,∃ cd,bH=R9 (.tuple #[(.agg #[T9 bJ,T9 bK,T9 bL,S9 bM bN bO,S9 bP bQ bS,S9 bU bV bW,S9 bX bY bZ,S9 ca cb cc]),.bool cd])/\(KeepT 96 bE bI/\True)/\True/\True/\(let cf:=bI.alloc (.cells #[T9 bJ,T9 bK,T9 bL,S9 bM bN bO,S9 bP bQ bS,S9 bU bV bW,S9 bX bY bZ,S9 ca cb cc] 96);
 ∀ cg:Bool->World->Prop,(∀ ch:Bool,∀ ci:World,
 ((Br ch (R (R9 (.bool false)) ci) ((bB (wr (bD+1)) ci/\bC (wr (bD+1)) ci<bC bD bE))))->
 cg ch ci)->
 (Nr (!(bJ.toList==(⟨#[73,78,84,69,82,70,65,67,69]⟩:BA).toList)) (cg (bG.toList==d.toList) cf) (cg true cf))))) (∀ cj:Bool->World->Prop,(∀ ck:Bool,∀ cl:World,
 (R (R9 (.bool ck)) cl)->
 cj ck cl)->
 Cb 112 #[S9 az aA aB] bE (fun cm cn=>(KeepT 96 bE cn/\True)/\(Br cm (Cb 112 #[S9 o p q] cn (fun co cp=>(KeepT 96 cn cp/\True)/\(Br co (Cb 112 #[S9 i j k] cp (fun cq cr=>(KeepT 96 cp cr/\True)/\(Br cq ((Br ((f:Int)==0) ((Br (c.toList==(⟨#[]⟩:BA).toList) ((Nr u (Cb 168 #[P9 a,(.agg #[T9 b,T9 c,T9 d,S9 e f g,S9 i j k,S9 l m n,S9 o p q,S9 r s t])] cr (fun ct cu=>(KeepT 96 cr cu/\True)/\cj ct cu)) (cj true cr))) (cj false cr))) (cj false cr))) (cj false cr)))) (cj false cp)))) (cj false cn))))))))))))))))):CP 107 #[P9 a,(.agg #[T9 b,T9 c,T9 d,S9 e f g,S9 i j k,S9 l m n,S9 o p q,S9 r s t]),.bool u] w R:=
 vcq Tryz.func107 [4,9,12,15,19] [(8,⟨[(7,.slice),(24,.int .i64)],[]⟩),(22,⟨[(52,.bool)],[]⟩),(31,⟨[(74,.bool)],[]⟩),(43,⟨[(7,.slice),(79,.int .i64)],[]⟩),(56,⟨[(96,.bool)],[]⟩),(68,⟨[(101,.int .i64)],[]⟩),(93,⟨[(118,.int .i64)],[]⟩),(106,⟨[(136,.bool)],[]⟩),(114,⟨[(6,.bool)],[]⟩)] [.l (.optr a),.agg [.str b,.str c,.str d,.slice e f g,.slice i j k,.slice l m n,.slice o p q,.slice r s t],.l (.bool u)] h
theorem h_f (a:OA)(b:OA)(c d:Nat)(e:OA)(f g:Nat)(i:OA)(j k:Nat)(l:OA)(m n:Nat)(o:OA)(p q:Nat)(w:World)(R:EW)(h:
 True/\(let r:=w.alloc (.cells #[S9 b c d,S9 e f g,S9 i j k,S9 l m n,S9 o p q] 26);
 ∀ s:World->Prop,(∀ t:World,
 (Pt a fun u=>Ll t (u.add 1) fun v x y=>∃ (z:OA->Nat->Nat->OA->Nat->Nat->Int->World->Prop) (A:OA->Nat->Nat->OA->Nat->Nat->Int->World->Nat),z none 0 0 none 0 0 0 t/\
 (∀ (B:OA) (C D:Nat),∀ (E:OA) (F G:Nat),∀ H:Int,∀ I:World,z B C D E F G H I->
 (Br (decide (H<(x:Int))) (∀ J:OA->Nat->Nat->OA->Nat->Nat->World->Prop,(∀ (K:OA) (L M:Nat),∀ (N:OA) (O P:Nat),∀ Q:World,
 ((z K L M N O P (wr (H+1)) Q/\A K L M N O P (wr (H+1)) Q<A B C D E F G H I))->
 J K L M N O P Q)->
 Ix v H x fun S=>L_ss I (S.add (H.toNat*2)) fun U V=>True/\True/\(let X:=I.alloc (.cells #[T9 U,T9 V] 218);
 CP 66 #[P9 a,T9 V] X (fun Y Z=>∃ aa,∃ ab,∃ ac,∃ ad ae af,∃ ag ah ai,∃ aj ak al,∃ am an ao,∃ ap aq ar,∃ au,Y=R9 (.tuple #[(.agg #[T9 aa,T9 ab,T9 ac,S9 ad ae af,S9 ag ah ai,S9 aj ak al,S9 am an ao,S9 ap aq ar]),.bool au])/\(KeepT 26 X Z/\KeepT 218 X Z/\True)/\True/\True/\(let ax:=Z.alloc (.cells #[T9 aa,T9 ab,T9 ac,S9 ad ae af,S9 ag ah ai,S9 aj ak al,S9 am an ao,S9 ap aq ar] 96);
 (Br (!(aa.toList==(⟨#[79,66,74,69,67,84]⟩:BA).toList)) (R (R9 (.bool false)) ax) (∀ ay,ay=ax.drew->((True/\(let az:=ay.alloc (.cells #[T9 U] 9);
 ((1=1)/\True)/\((∃ aA aB aC,∃ aD,(Go.builtin .append #[71,71] 71 #[false,false] #[S9 B C D,(S9 (some (adr ay.heap.size)) 1 1)]).run Tryz.prog az=.ok (.value (S9 aA aB aC)) aD/\(KeepT 26 az aD/\KeepT 218 az aD/\KeepT 96 az aD/\True)/\((1=1)/\True)/\True/\(let aE:=aD.alloc (.cells #[T9 V] 9);
 True/\∃ aF aG aH,∃ aI,(Go.builtin .append #[71,71] 71 #[false,false] #[S9 E F G,(S9 (some (adr aD.heap.size)) 1 1)]).run Tryz.prog aE=.ok (.value (S9 aF aG aH)) aI/\(KeepT 26 aE aI/\KeepT 218 aE aI/\KeepT 96 aE aI/\True)/\True/\True/\True/\J aA aB aC aF aG aH aI))/\
 (True/\(let aJ:=az.alloc (.cells #[T9 V] 9);
 True/\∃ aK aL aM,∃ aN,(Go.builtin .append #[71,71] 71 #[false,false] #[S9 B C D,(S9 (some (adr ay.heap.size)) 1 1)]).run Tryz.prog aJ=.ok (.value (S9 aK aL aM)) aN/\(KeepT 26 aJ aN/\KeepT 218 aJ aN/\KeepT 96 aJ aN/\True)/\True/\∃ aO aP aQ,∃ aS,(Go.builtin .append #[71,71] 71 #[false,false] #[S9 E F G,(S9 (some (adr az.heap.size)) 1 1)]).run Tryz.prog aN=.ok (.value (S9 aO aP aQ)) aS/\(KeepT 26 aN aS/\KeepT 218 aN aS/\KeepT 96 aN aS/\True)/\True/\True/\True/\J aK aL aM aO aP aQ aS)))))/\
 (True/\(let aU:=ay.alloc (.cells #[T9 V] 9);
 ((1=1)/\True)/\True/\(let aV:=aU.alloc (.cells #[T9 U] 9);
 True/\∃ aW aX aY,∃ aZ,(Go.builtin .append #[71,71] 71 #[false,false] #[S9 B C D,(S9 (some (adr aU.heap.size)) 1 1)]).run Tryz.prog aV=.ok (.value (S9 aW aX aY)) aZ/\(KeepT 26 aV aZ/\KeepT 218 aV aZ/\KeepT 96 aV aZ/\True)/\True/\∃ ba bb bc,∃ bd,(Go.builtin .append #[71,71] 71 #[false,false] #[S9 E F G,(S9 (some (adr ay.heap.size)) 1 1)]).run Tryz.prog aZ=.ok (.value (S9 ba bb bc)) bd/\(KeepT 26 aZ bd/\KeepT 218 aZ bd/\KeepT 96 aZ bd/\True)/\True/\True/\True/\J aW aX aY ba bb bc bd)))))))))) (∀ be:Bool->World->Prop,(∀ bf:Bool,∀ bg:World,
 (R (R9 (.bool bf)) bg)->
 be bf bg)->
 Cb 111 #[S9 B C D] I (fun bh bi=>(KeepT 26 I bi/\True)/\(Br bh (Cb 111 #[S9 E F G] bi (fun bj bk=>(KeepT 26 bi bk/\True)/\(Br bj (Cb 60 #[(T9 (⟨#[113,117,101,114,121]⟩:BA)),S9 B C D] bk (fun bl bm=>(KeepT 26 bk bm/\True)/\be bl bm)) (be false bk)))) (be false bi)))))))->
 s t)->
 (Br ((c:Int)==1) (∀ bn:Bool->World->Prop,(∀ bo:Bool,∀ bp:World,
 ((Br bo (R (R9 (.bool false)) bp) (Ix b 0 c fun bq=>Ll bp ((bq.add ((0:Int).toNat*3)).add 2) fun br bs bt=>Pt a fun bu=>Off bp (bu.add 1) 1 [26]/\True/\(let bv:=(bp.setCell (bu.add 1) (S9 br bs bt));
 s bv))))->
 bn bo bp)->
 Ix b 0 c fun bx=>Ls r (bx.add ((0:Int).toNat*3)) fun bz=>(Nr (!(bz.toList==(⟨#[]⟩:BA).toList)) (Ix b 0 c fun bA=>Ll r ((bA.add ((0:Int).toNat*3)).add 1) fun bB bC bD=>bn (decide ((bC:Int)>0)) r) (bn true r))) (True/\True/\True/\True/\(let bE:=r.alloc (.cells #[(T9 (⟨#[113,117,101,114,121]⟩:BA)),(T9 (⟨#[81,117,101,114,121]⟩:BA)),(T9 (⟨#[109,117,116,97,116,105,111,110]⟩:BA)),(T9 (⟨#[77,117,116,97,116,105,111,110]⟩:BA)),(T9 (⟨#[115,117,98,115,99,114,105,112,116,105,111,110]⟩:BA)),(T9 (⟨#[83,117,98,115,99,114,105,112,116,105,111,110]⟩:BA))] 218);
 ∃ (bF:Int->World->Prop) (bG:Int->World->Nat),bF 0 bE/\
 (∀ bH:Int,∀ bI:World,bF bH bI->
 (Br (decide (bH<3)) (∀ bJ:World->Prop,(∀ bK:World,
 ((bF (wr (bH+1)) bK/\bG (wr (bH+1)) bK<bG bH bI))->
 bJ bK)->
 Ix (some (adr r.heap.size)) bH 3 fun bL=>L_ss bI (bL.add (bH.toNat*2)) fun bM bN=>True/\(let bO:=bI.alloc (.cells #[e0s,e0s] 218);
 Off bO (adr bI.heap.size) 2 [26]/\True/\(let bP:=((bO.setCell (adr bI.heap.size) (T9 bM)).setCell ((adr bI.heap.size).add 1) (T9 bN));
 Ls bP ((adr bI.heap.size).add 1) fun bQ=>CP 66 #[P9 a,T9 bQ] bP (fun bS bU=>∃ bV,∃ bW,∃ bX,∃ bY bZ ca,∃ cb cc cd,∃ ce cf cg,∃ ch ci cj,∃ ck cl cm,∃ cn,bS=R9 (.tuple #[(.agg #[T9 bV,T9 bW,T9 bX,S9 bY bZ ca,S9 cb cc cd,S9 ce cf cg,S9 ch ci cj,S9 ck cl cm]),.bool cn])/\(KeepT 26 bP bU/\True)/\True/\True/\(let cp:=bU.alloc (.cells #[T9 bV,T9 bW,T9 bX,S9 bY bZ ca,S9 cb cc cd,S9 ce cf cg,S9 ch ci cj,S9 ck cl cm] 96);
 (Br cn (∀ cq,cq=cp.drew->Pt a fun cr=>Ll cq (cr.add 1) fun ct cu cv=>L_ss cq (adr bI.heap.size) fun cx cy=>True/\(let cz:=cq.alloc (.cells #[T9 cx,T9 cy] 218);
 ((cz.cell? (cr.add 1)=cq.cell? (cr.add 1))/\True)/\∃ cA cB cC,∃ cD,(Go.builtin .append #[90,90] 90 #[false,false] #[S9 ct cu cv,(S9 (some (adr cq.heap.size)) 1 1)]).run Tryz.prog cz=.ok (.value (S9 cA cB cC)) cD/\(KeepT 26 cz cD/\KeepT 96 cz cD/\True)/\True/\Pt a fun cE=>Off cD (cE.add 1) 1 [26,96]/\True/\(let cF:=(cD.setCell (cE.add 1) (S9 cA cB cC));
 True/\bJ cF))) (bJ cp))))))) (s bI)))))))):CP 113 #[P9 a,(.agg #[S9 b c d,S9 e f g,S9 i j k,S9 l m n,S9 o p q])] w R:=
 vcq Tryz.func113 [3,7,12,13] [(2,⟨[],[]⟩),(7,⟨[(33,.bool)],[]⟩),(18,⟨[(47,.int .i64)],[]⟩),(25,⟨[],[]⟩),(43,⟨[(9,.slice),(10,.slice),(75,.int .i64)],[]⟩),(50,⟨[(9,.slice),(10,.slice)],[]⟩),(66,⟨[(4,.bool)],[]⟩)] [.l (.optr a),.agg [.slice b c d,.slice e f g,.slice i j k,.slice l m n,.slice o p q]] h
theorem j_z (a:OA)(b c:Nat)(d:OA)(e f:Nat)(g:OA)(i j:Nat)(k:OA)(l m:Nat)(n:OA)(o p:Nat)(q:Int)(w:World)(R:EW)(h:
 True/\(let r:=w.alloc (.cells #[S9 a b c,S9 d e f,S9 g i j,S9 k l m,S9 n o p] 26);
 ∀ s,s=r.drew->(let t:=s.alloc (.cells #[] 326);
 ((0=0)/\(0=0)/\True)/\∃ u v x,∃ y,(Go.builtin .append #[22,22] 22 #[false,false] #[(S9 (some (adr s.heap.size)) 0 0),S9 a b c]).run Tryz.prog t=.ok (.value (S9 u v x)) y/\(KeepT 26 t y/\True)/\((0=0)/\True)/\∃ z A B,∃ C,(Go.builtin .append #[22,22] 22 #[false,false] #[S9 u v x,S9 d e f]).run Tryz.prog y=.ok (.value (S9 z A B)) C/\(KeepT 26 y C/\True)/\True/\∃ (D:Int->World->Prop) (E:Int->World->Nat),D 0 C/\
 (∀ F:Int,∀ G:World,D F G->
 (Br (decide (F<(A:Int))) (Ix z F A fun H=>L_sll G (H.add (F.toNat*3)) fun I J K L M N O=>True/\True/\(let Q:=G.alloc (.cells #[T9 I,S9 J K L,S9 M N O] 326);
 Cb 161 #[(.agg #[T9 I,S9 J K L,S9 M N O]),N9 q] Q (fun S U=>(KeepT 26 Q U/\KeepT 326 Q U/\True)/\(Br (!S) (R (R9 (.bool false)) U) ((D (wr (F+1)) U/\E (wr (F+1)) U<E F G)))))) (∃ (V:Int->World->Prop) (W:Int->World->Nat),V 0 G/\
 (∀ X:Int,∀ Y:World,V X Y->
 (Br (decide (X<(e:Int))) (Ix d X e fun Z=>L_sll Y (Z.add (X.toNat*3)) fun aa ab ac ad ae af ag=>True/\True/\(let ai:=Y.alloc (.cells #[T9 aa,S9 ab ac ad,S9 ae af ag] 326);
 (Br (!(aa.toList==(⟨#[]⟩:BA).toList)) (R (R9 (.bool false)) ai) ((V (wr (X+1)) ai/\W (wr (X+1)) ai<W X Y))))) (∃ (aj:Int->World->Prop) (ak:Int->World->Nat),aj 0 Y/\
 (∀ al:Int,∀ am:World,aj al am->
 (Br (decide (al<(i:Int))) (Ix g al i fun an=>L_ssllb am (an.add (al.toNat*5)) fun ao ap aq ar au av ax ay az=>True/\True/\(let aB:=am.alloc (.cells #[T9 ao,T9 ap,S9 aq ar au,S9 av ax ay,.bool az] 120);
 ∀ aC:Bool->World->Prop,(∀ aD:Bool,∀ aE:World,
 ((Br aD (R (R9 (.bool false)) aE) (∃ (aF:Int->World->Prop) (aG:Int->World->Nat),aF 0 aE/\
 (∀ aH:Int,∀ aI:World,aF aH aI->
 (Br (decide (aH<(ax:Int))) (Ix av aH ax fun aJ=>Ls aI (aJ.add (aH.toNat*1)) fun aK=>Cb 164 #[T9 aK] aI (fun aL aM=>(KeepT 26 aI aM/\KeepT 120 aI aM/\True)/\(Br (!aL) (R (R9 (.bool false)) aM) ((aF (wr (aH+1)) aM/\aG (wr (aH+1)) aM<aG aH aI))))) ((aj (wr (al+1)) aI/\ak (wr (al+1)) aI<ak al am)))))))->
 aC aD aE)->
 Cb 162 #[T9 ao] aB (fun aN aO=>(KeepT 26 aB aO/\KeepT 120 aB aO/\True)/\(Nr (!aN) (Cb 98 #[T9 ap] aO (fun aP aQ=>(KeepT 26 aO aQ/\KeepT 120 aO aQ/\True)/\(Nr (!aP) (Cb 163 #[S9 aq ar au,N9 q] aQ (fun aS aU=>(KeepT 26 aQ aU/\KeepT 120 aQ aU/\True)/\(Nr (!aS) (aC ((ax:Int)==0) aU) (aC true aU)))) (aC true aQ)))) (aC true aO))))) (∃ (aV:Int->World->Prop) (aW:Int->World->Nat),aV 0 am/\
 (∀ aX:Int,∀ aY:World,aV aX aY->
 (Br (decide (aX<(l:Int))) (Ix k aX l fun aZ=>Ls aY (aZ.add (aX.toNat*8)) fun ba=>Ls aY ((aZ.add (aX.toNat*8)).add 1) fun bb=>Ls aY ((aZ.add (aX.toNat*8)).add 2) fun bc=>Ll aY ((aZ.add (aX.toNat*8)).add 3) fun bd be bf=>Ll aY ((aZ.add (aX.toNat*8)).add 4) fun bg bh bi=>Ll aY ((aZ.add (aX.toNat*8)).add 5) fun bj bk bl=>Ll aY ((aZ.add (aX.toNat*8)).add 6) fun bm bn bo=>Ll aY ((aZ.add (aX.toNat*8)).add 7) fun bp bq br=>True/\True/\(let bt:=aY.alloc (.cells #[T9 ba,T9 bb,T9 bc,S9 bd be bf,S9 bg bh bi,S9 bj bk bl,S9 bm bn bo,S9 bp bq br] 96);
 Cb 165 #[(.agg #[T9 ba,T9 bb,T9 bc,S9 bd be bf,S9 bg bh bi,S9 bj bk bl,S9 bm bn bo,S9 bp bq br]),N9 q] bt (fun bu bv=>(KeepT 26 bt bv/\KeepT 96 bt bv/\True)/\(Br (!bu) (R (R9 (.bool false)) bv) ((aV (wr (aX+1)) bv/\aW (wr (aX+1)) bv<aW aX aY)))))) (∃ (bx:Int->World->Prop) (bz:Int->World->Nat),bx 0 aY/\
 (∀ bA:Int,∀ bB:World,bx bA bB->
 (Br (decide (bA<(o:Int))) (Ix n bA o fun bC=>Ls bB (bC.add (bA.toNat*8)) fun bD=>Ls bB ((bC.add (bA.toNat*8)).add 1) fun bE=>Ls bB ((bC.add (bA.toNat*8)).add 2) fun bF=>Ll bB ((bC.add (bA.toNat*8)).add 3) fun bG bH bI=>Ll bB ((bC.add (bA.toNat*8)).add 4) fun bJ bK bL=>Ll bB ((bC.add (bA.toNat*8)).add 5) fun bM bN bO=>Ll bB ((bC.add (bA.toNat*8)).add 6) fun bP bQ bS=>Ll bB ((bC.add (bA.toNat*8)).add 7) fun bU bV bW=>True/\True/\(let bY:=bB.alloc (.cells #[T9 bD,T9 bE,T9 bF,S9 bG bH bI,S9 bJ bK bL,S9 bM bN bO,S9 bP bQ bS,S9 bU bV bW] 96);
 ∀ bZ:Bool->World->Prop,(∀ ca:Bool,∀ cb:World,
 ((Br ca (R (R9 (.bool false)) cb) ((bx (wr (bA+1)) cb/\bz (wr (bA+1)) cb<bz bA bB))))->
 bZ ca cb)->
 Cb 165 #[(.agg #[T9 bD,T9 bE,T9 bF,S9 bG bH bI,S9 bJ bK bL,S9 bM bN bO,S9 bP bQ bS,S9 bU bV bW]),N9 q] bY (fun cc cd=>(KeepT 26 bY cd/\KeepT 96 bY cd/\True)/\(Nr (!cc) ((Nr (!(bE.toList==(⟨#[]⟩:BA).toList)) (Cb 166 #[(.agg #[T9 bD,T9 bE,T9 bF,S9 bG bH bI,S9 bJ bK bL,S9 bM bN bO,S9 bP bQ bS,S9 bU bV bW])] cd (fun ce cf=>(KeepT 26 cd cf/\KeepT 96 cd cf/\True)/\bZ ce cf)) (bZ true cd))) (bZ true cd))))) (R (R9 (.bool (decide ((wr ((wr ((wr ((wr ((b:Int)+(e:Int)))+(i:Int)))+(l:Int)))+(o:Int)))>0)))) bB)))))))))))))))))):CP 106 #[(.agg #[S9 a b c,S9 d e f,S9 g i j,S9 k l m,S9 n o p]),N9 q] w R:=
 vcq Tryz.func106 [2,6,8,10,14,16] [(6,⟨[(25,.int .i64)],[]⟩),(29,⟨[(37,.int .i64)],[]⟩),(52,⟨[(48,.int .i64)],[]⟩),(64,⟨[(74,.bool)],[]⟩),(74,⟨[(78,.int .i64)],[]⟩),(98,⟨[(90,.int .i64)],[]⟩),(121,⟨[(102,.int .i64)],[]⟩),(132,⟨[(118,.bool)],[]⟩)] [.agg [.slice a b c,.slice d e f,.slice g i j,.slice k l m,.slice n o p],.l (.int .i64 q)] h
theorem o_y (a:OA)(b c:Nat)(d:OA)(e f:Nat)(g:OA)(i j:Nat)(k:OA)(l m:Nat)(n:OA)(o p:Nat)(q:Bool)(w:World)(R:EW)(h:
 True/\(let r:=w.alloc (.cells #[S9 a b c,S9 d e f,S9 g i j,S9 k l m,S9 n o p] 26);
 ∀ s:Bool->World->Prop,(∀ t:Bool,∀ u:World,
 ((Br t (R (R9 (.tuple #[P9 none,.bool false])) u) (True/\True/\(let v:=u.alloc (.cells #[S9 k l m,z0s,S9 g i j] 92);
 ∃ (x:OA->Nat->Nat->Int->World->Prop) (y:OA->Nat->Nat->Int->World->Nat),x none 0 0 0 v/\
 (∀ (z:OA) (A B:Nat),∀ C:Int,∀ D:World,x z A B C D->
 (Br (decide (C<(l:Int))) (Ix k C l fun E=>Ls D (E.add (C.toNat*8)) fun F=>Ls D ((E.add (C.toNat*8)).add 1) fun G=>Ls D ((E.add (C.toNat*8)).add 2) fun H=>Ll D ((E.add (C.toNat*8)).add 3) fun I J K=>Ll D ((E.add (C.toNat*8)).add 4) fun L M N=>Ll D ((E.add (C.toNat*8)).add 5) fun O P Q=>Ll D ((E.add (C.toNat*8)).add 6) fun S U V=>Ll D ((E.add (C.toNat*8)).add 7) fun W X Y=>True/\True/\(let aa:=D.alloc (.cells #[T9 F,T9 G,T9 H,S9 I J K,S9 L M N,S9 O P Q,S9 S U V,S9 W X Y] 96);
 True/\(let ab:=aa.alloc (.cells #[T9 H] 9);
 ∃ ac ad ae,∃ af,(Go.builtin .append #[71,71] 71 #[false,false] #[S9 z A B,(S9 (some (adr aa.heap.size)) 1 1)]).run Tryz.prog ab=.ok (.value (S9 ac ad ae)) af/\(KeepT 26 ab af/\KeepT 96 ab af/\True)/\∀ ag:Bool->World->Prop,(∀ ah:Bool,∀ ai:World,
 ((Br ah (R (R9 (.tuple #[P9 none,.bool false])) ai) ((x ac ad ae (wr (C+1)) ai/\y ac ad ae (wr (C+1)) ai<y z A B C D))))->
 ag ah ai)->
 (Nr (decide ((wr ((wr ((wr ((P:Int)+(U:Int)))+(X:Int)))+(M:Int)))>12)) (Cb 107 #[(P9 (some (adr u.heap.size))),(.agg #[T9 F,T9 G,T9 H,S9 I J K,S9 L M N,S9 O P Q,S9 S U V,S9 W X Y]),.bool q] af (fun aj ak=>(KeepT 26 af ak/\KeepT 96 af ak/\True)/\(Nr (!aj) ((Br (!q) (Cb 108 #[(P9 (some (adr u.heap.size))),T9 H,z0s] ak (fun al am=>(KeepT 26 ak am/\KeepT 96 ak am/\True)/\ag (!al) am)) (ag false ak))) (ag true ak)))) (ag true af))))) (∃ (an:OA->Nat->Nat->Int->World->Prop) (ao:OA->Nat->Nat->Int->World->Nat),an none 0 0 0 D/\
 (∀ (ap:OA) (aq ar:Nat),∀ au:Int,∀ av:World,an ap aq ar au av->
 (Br (decide (au<(i:Int))) (Ix g au i fun ax=>L_ssllb av (ax.add (au.toNat*5)) fun ay az aA aB aC aD aE aF aG=>True/\True/\(let aI:=av.alloc (.cells #[T9 ay,T9 az,S9 aA aB aC,S9 aD aE aF,.bool aG] 120);
 True/\(let aJ:=aI.alloc (.cells #[T9 az] 9);
 ∃ aK aL aM,∃ aN,(Go.builtin .append #[71,71] 71 #[false,false] #[S9 ap aq ar,(S9 (some (adr aI.heap.size)) 1 1)]).run Tryz.prog aJ=.ok (.value (S9 aK aL aM)) aN/\(KeepT 26 aJ aN/\KeepT 120 aJ aN/\True)/\∀ aO:Bool->World->Prop,(∀ aP:Bool,∀ aQ:World,
 ((Br aP (R (R9 (.tuple #[P9 none,.bool false])) aQ) ((an aK aL aM (wr (au+1)) aQ/\ao aK aL aM (wr (au+1)) aQ<ao ap aq ar au av))))->
 aO aP aQ)->
 ∀ aS,aS=aN.drew->Cl 109 #[] aS (fun aU aV aW aX=>(KeepT 26 aS aX/\KeepT 120 aS aX/\True)/\((1=1)/\True)/\Cb 60 #[T9 az,S9 aU aV aW] aX (fun aY aZ=>(KeepT 26 aX aZ/\KeepT 120 aX aZ/\True)/\True/\(Br aY (aO true aZ) ((Br (!(ay.toList==(⟨#[]⟩:BA).toList)) (aO true aZ) (Cb 110 #[(P9 (some (adr u.heap.size))),S9 aA aB aC] aZ (fun ba bb=>(KeepT 26 aZ bb/\KeepT 120 aZ bb/\True)/\True/\(Br (!ba) (aO true bb) (Cb 111 #[S9 aD aE aF] bb (fun bc bd=>(KeepT 26 bb bd/\KeepT 120 bb bd/\True)/\True/\aO (!bc) bd))))))))))))) (∀ be:OA->Bool->World->Prop,(∀ bf:OA,∀ bg:Bool,∀ bh:World,
 (R (R9 (.tuple #[P9 bf,.bool bg])) bh)->
 be bf bg bh)->
 Cb 112 #[S9 z A B] av (fun bi bj=>(KeepT 26 av bj/\True)/\(Br bi (Cb 112 #[S9 ap aq ar] bj (fun bk bl=>(KeepT 26 bj bl/\True)/\(Br bk (Cb 113 #[(P9 (some (adr u.heap.size))),(.agg #[S9 a b c,S9 d e f,S9 g i j,S9 k l m,S9 n o p])] bl (fun bm bn=>(KeepT 26 bl bn/\True)/\be (some (adr u.heap.size)) bm bn)) (be (some (adr u.heap.size)) false bl)))) (be (some (adr u.heap.size)) false bj)))))))))))))->
 s t u)->
 Cb 106 #[(.agg #[S9 a b c,S9 d e f,S9 g i j,S9 k l m,S9 n o p]),N9 4] r (fun bo bp=>(KeepT 26 r bp/\True)/\(Nr (!bo) ((Nr (decide ((wr ((e:Int)+(o:Int)))>0)) ((Nr (decide ((b:Int)>1)) ((Nr (decide ((l:Int)>30)) (s (decide ((i:Int)>12)) bp) (s true bp))) (s true bp))) (s true bp))) (s true bp))))):CP 41 #[(.agg #[S9 a b c,S9 d e f,S9 g i j,S9 k l m,S9 n o p]),.bool q] w R:=
 vcq Tryz.func41 [2,10,12] [(3,⟨[(43,.bool)],[]⟩),(18,⟨[(7,.slice),(53,.int .i64)],[]⟩),(31,⟨[(95,.bool)],[]⟩),(43,⟨[(8,.slice),(100,.int .i64)],[]⟩),(56,⟨[(130,.bool)],[]⟩),(64,⟨[(4,.ptr),(5,.bool)],[]⟩)] [.agg [.slice a b c,.slice d e f,.slice g i j,.slice k l m,.slice n o p],.l (.bool q)] h
theorem o_t (a:OA)(b c:Nat)(d:OA)(e f:Nat)(g:OA)(i j:Nat)(k:OA)(l m:Nat)(n:OA)(o p:Nat)(w:World)(R:EW)(h:
 True/\(let q:=w.alloc (.cells #[S9 a b c,S9 d e f,S9 g i j,S9 k l m,S9 n o p] 26);
 CP 41 #[(.agg #[S9 a b c,S9 d e f,S9 g i j,S9 k l m,S9 n o p]),.bool false] q (fun r s=>∃ t,∃ u,r=R9 (.tuple #[P9 t,.bool u])/\(KeepT 26 q s/\True)/\R (R9 (.tuple #[P9 t,.bool u])) s))):CP 10 #[(.agg #[S9 a b c,S9 d e f,S9 g i j,S9 k l m,S9 n o p])] w R:=
 vcq Tryz.func10 [1] [] [.agg [.slice a b c,.slice d e f,.slice g i j,.slice k l m,.slice n o p]] h
theorem o_A (a:BA)(b:Bool)(w:World)(R:EW)(h:
 True/\(let c:=w.alloc (.cells #[e0s,z0s,.bool false] 63);
 True/\True/\(let d:=setB c (w.heap.size) [T9 a,z0s,.bool b] 63;
 R (R9 (.agg #[T9 a,z0s,.bool b])) d))):CP 97 #[T9 a,.bool b] w R:=
 vcq Tryz.func97 [4] [] [.l (.str a),.l (.bool b)] h
theorem m_J (w:World)(R:EW)(h:
 True/\(let a:=w.alloc (.cells #[z0s,z0s,z0s,z0s,z0s] 26);
 True/\(let b:=a.alloc (.cells #[z0s,z0s,z0s,z0s,z0s] 26);
 Cl 126 #[] b (fun c d e f=>(KeepT 26 b f/\True)/\∃ (g:Int->OA->Nat->Nat->OA->Nat->Nat->OA->Nat->Nat->OA->Nat->Nat->OA->Nat->Nat->World->Prop) (i:Int->OA->Nat->Nat->OA->Nat->Nat->OA->Nat->Nat->OA->Nat->Nat->OA->Nat->Nat->World->Nat),g 0 none 0 0 none 0 0 none 0 0 none 0 0 none 0 0 f/\
 (∀ j:Int,∀ (k:OA) (l m:Nat),∀ (n:OA) (o p:Nat),∀ (q:OA) (r s:Nat),∀ (t:OA) (u v:Nat),∀ (x:OA) (y z:Nat),∀ A:World,g j k l m n o p q r s t u v x y z A->
 (Br (decide (j<(d:Int))) (Ix c j d fun B=>Ls A (B.add (j.toNat*1)) fun C=>True/\True/\(let D:=A.alloc (.cells #[(T9 (⟨#[83,67,65,76,65,82]⟩:BA)),e0s,T9 C,z0s,z0s,z0s,z0s,z0s] 96);
 ∃ E F G,∃ H,(Go.builtin .append #[24,24] 24 #[false,false] #[S9 t u v,(S9 (some (adr A.heap.size)) 1 1)]).run Tryz.prog D=.ok (.value (S9 E F G)) H/\(KeepT 26 D H/\True)/\True/\(let I:=setB H (a.heap.size) [S9 k l m,S9 n o p,S9 q r s,S9 E F G,S9 x y z] 26;
 (g (wr (j+1)) k l m n o p q r s E F G x y z I/\i (wr (j+1)) k l m n o p q r s E F G x y z I<i j k l m n o p q r s t u v x y z A)))) (True/\(let J:=A.alloc (.cells #[(T9 (⟨#[70,73,69,76,68]⟩:BA)),(T9 (⟨#[70,82,65,71,77,69,78,84,95,83,80,82,69,65,68]⟩:BA)),(T9 (⟨#[73,78,76,73,78,69,95,70,82,65,71,77,69,78,84]⟩:BA))] 9);
 CP 97 #[(T9 (⟨#[66,111,111,108,101,97,110]⟩:BA)),.bool true] J (fun K L=>∃ M,∃ N O P,∃ Q,K=R9 (.agg #[T9 M,S9 N O P,.bool Q])/\(KeepT 26 J L/\True)/\True/\True/\(let S:=L.alloc (.cells #[e0s,(T9 (⟨#[105,102]⟩:BA)),T9 M,S9 N O P,.bool Q,z0s,z0s] 250);
 True/\CP 97 #[(T9 (⟨#[66,111,111,108,101,97,110]⟩:BA)),.bool true] S (fun U V=>∃ W,∃ X Y Z,∃ aa,U=R9 (.agg #[T9 W,S9 X Y Z,.bool aa])/\(KeepT 26 S V/\True)/\True/\True/\(let ab:=V.alloc (.cells #[e0s,(T9 (⟨#[105,102]⟩:BA)),T9 W,S9 X Y Z,.bool aa,z0s,z0s] 250);
 True/\CP 97 #[(T9 (⟨#[83,116,114,105,110,103]⟩:BA)),.bool false] ab (fun ac ad=>∃ ae,∃ af ag ah,∃ ai,ac=R9 (.agg #[T9 ae,S9 af ag ah,.bool ai])/\(KeepT 26 ab ad/\True)/\True/\True/\(let aj:=ad.alloc (.cells #[N9 3,(T9 (⟨#[78,111,32,108,111,110,103,101,114,32,115,117,112,112,111,114,116,101,100]⟩:BA)),z0s] 115);
 True/\True/\(let ak:=aj.alloc (.cells #[e0s,(T9 (⟨#[114,101,97,115,111,110]⟩:BA)),T9 ae,S9 af ag ah,.bool ai,(S9 (some (adr ad.heap.size)) 1 1),z0s] 250);
 True/\(let al:=ak.alloc (.cells #[(T9 (⟨#[70,73,69,76,68,95,68,69,70,73,78,73,84,73,79,78]⟩:BA)),(T9 (⟨#[65,82,71,85,77,69,78,84,95,68,69,70,73,78,73,84,73,79,78]⟩:BA)),(T9 (⟨#[73,78,80,85,84,95,70,73,69,76,68,95,68,69,70,73,78,73,84,73,79,78]⟩:BA)),(T9 (⟨#[69,78,85,77,95,86,65,76,85,69]⟩:BA))] 9);
 True/\CP 97 #[(T9 (⟨#[83,116,114,105,110,103]⟩:BA)),.bool true] al (fun am an=>∃ ao,∃ ap aq ar,∃ au,am=R9 (.agg #[T9 ao,S9 ap aq ar,.bool au])/\(KeepT 26 al an/\True)/\True/\True/\(let av:=an.alloc (.cells #[e0s,(T9 (⟨#[117,114,108]⟩:BA)),T9 ao,S9 ap aq ar,.bool au,z0s,z0s] 250);
 True/\(let ax:=av.alloc (.cells #[(T9 (⟨#[83,67,65,76,65,82]⟩:BA))] 9);
 True/\True/\(let ay:=ax.alloc (.cells #[e0s,(T9 (⟨#[105,110,99,108,117,100,101]⟩:BA)),(S9 (some (adr L.heap.size)) 1 1),(S9 (some (adr A.heap.size)) 3 3),.bool false,e0s,(T9 (⟨#[115,107,105,112]⟩:BA)),(S9 (some (adr V.heap.size)) 1 1),(S9 (some (adr A.heap.size)) 3 3),.bool false,e0s,(T9 (⟨#[100,101,112,114,101,99,97,116,101,100]⟩:BA)),(S9 (some (adr aj.heap.size)) 1 1),(S9 (some (adr ak.heap.size)) 4 4),.bool false,e0s,(T9 (⟨#[115,112,101,99,105,102,105,101,100,66,121]⟩:BA)),(S9 (some (adr an.heap.size)) 1 1),(S9 (some (adr av.heap.size)) 1 1),.bool false] 120);
 True/\(let az:=setB ay (a.heap.size) [S9 k l m,S9 n o p,(S9 (some (adr ax.heap.size)) 4 4),S9 t u v,S9 x y z] 26;
 True/\(let aA:=setB az (w.heap.size) [S9 k l m,S9 n o p,(S9 (some (adr ax.heap.size)) 4 4),S9 t u v,S9 x y z] 26;
 R (R9 (.agg #[S9 k l m,S9 n o p,(S9 (some (adr ax.heap.size)) 4 4),S9 t u v,S9 x y z])) aA)))))))))))))))))))))):CP 56 #[] w R:=
 vcq Tryz.func56 [0,1] [(8,⟨[(7,.int .i64)],[(1,[.slice,.slice,.slice,.slice,.slice])]⟩)] [] h
theorem e_F (a:OA)(b:BA)(w:World)(R:EW)(h:
 Cl 127 #[P9 a,T9 b] w (fun c d e f=>True/\CP 66 #[P9 a,T9 b] f (fun g i=>∃ j,∃ k,∃ l,∃ m n o,∃ p q r,∃ s t u,∃ v x y,∃ z A B,∃ C,g=R9 (.tuple #[(.agg #[T9 j,T9 k,T9 l,S9 m n o,S9 p q r,S9 s t u,S9 v x y,S9 z A B]),.bool C])/\True/\True/\True/\(let E:=i.alloc (.cells #[T9 j,T9 k,T9 l,S9 m n o,S9 p q r,S9 s t u,S9 v x y,S9 z A B] 96);
 Pt a fun F=>Ll E F fun G H I=>∃ (J:OA->Nat->Nat->Int->World->Prop) (K:OA->Nat->Nat->Int->World->Nat),J c d e 0 E/\
 (∀ (L:OA) (M N:Nat),∀ O:Int,∀ P:World,J L M N O P->
 (Br (decide (O<(H:Int))) (∀ Q:OA->Nat->Nat->World->Prop,(∀ (S:OA) (U V:Nat),∀ W:World,
 ((J S U V (wr (O+1)) W/\K S U V (wr (O+1)) W<K L M N O P))->
 Q S U V W)->
 Ix G O H fun X=>Ls P (X.add (O.toNat*8)) fun Y=>Ls P ((X.add (O.toNat*8)).add 1) fun Z=>Ls P ((X.add (O.toNat*8)).add 2) fun aa=>Ll P ((X.add (O.toNat*8)).add 3) fun ab ac ad=>Ll P ((X.add (O.toNat*8)).add 4) fun ae af ag=>Ll P ((X.add (O.toNat*8)).add 5) fun ah ai aj=>Ll P ((X.add (O.toNat*8)).add 6) fun ak al am=>Ll P ((X.add (O.toNat*8)).add 7) fun an ao ap=>True/\True/\(let ar:=P.alloc (.cells #[T9 Y,T9 Z,T9 aa,S9 ab ac ad,S9 ae af ag,S9 ah ai aj,S9 ak al am,S9 an ao ap] 96);
 ∀ au:Bool->World->Prop,(∀ av:Bool,∀ ax:World,
 ((Br av (True/\(let ay:=ax.alloc (.cells #[T9 aa] 9);
 ∃ az aA aB,∃ aC,(Go.builtin .append #[71,71] 71 #[false,false] #[S9 L M N,(S9 (some (adr ax.heap.size)) 1 1)]).run Tryz.prog ay=.ok (.value (S9 az aA aB)) aC/\(KeepT 96 ay aC/\True)/\Q az aA aB aC)) (Q L M N ax)))->
 au av ax)->
 (Br (Y.toList==(⟨#[73,78,84,69,82,70,65,67,69]⟩:BA).toList) ((Br (j.toList==(⟨#[73,78,84,69,82,70,65,67,69]⟩:BA).toList) (Cb 60 #[T9 b,S9 ae af ag] ar (fun aD aE=>(KeepT 96 ar aE/\True)/\au aD aE)) (au false ar))) (au false ar)))) (R (R9 (S9 L M N)) P))))))):CP 58 #[P9 a,T9 b] w R:=
 vcq Tryz.func58 [6,9] [(10,⟨[(5,.slice),(24,.int .i64)],[]⟩),(17,⟨[(5,.slice)],[]⟩),(21,⟨[(41,.bool)],[]⟩)] [.l (.optr a),.l (.str b)] h
theorem e_c (a:OA)(b:BA)(w:World)(R:EW)(h:
 CP 66 #[P9 a,T9 b] w (fun c d=>∃ e,∃ f,∃ g,∃ i j k,∃ l m n,∃ o p q,∃ r s t,∃ u v x,∃ y,c=R9 (.tuple #[(.agg #[T9 e,T9 f,T9 g,S9 i j k,S9 l m n,S9 o p q,S9 r s t,S9 u v x]),.bool y])/\True/\True/\True/\(let A:=d.alloc (.cells #[T9 e,T9 f,T9 g,S9 i j k,S9 l m n,S9 o p q,S9 r s t,S9 u v x] 96);
 (let B:=A.alloc (.cells #[] 9);
 ∃ C D E,∃ F,(Go.builtin .append #[71,71] 71 #[false,false] #[(S9 (some (adr A.heap.size)) 0 0),S9 l m n]).run Tryz.prog B=.ok (.value (S9 C D E)) F/\(KeepT 96 B F/\True)/\Pt a fun G=>Ll F G fun H I J=>∃ (K:OA->Nat->Nat->Int->World->Prop) (L:OA->Nat->Nat->Int->World->Nat),K C D E 0 F/\
 (∀ (M:OA) (N O:Nat),∀ P:Int,∀ Q:World,K M N O P Q->
 (Br (decide (P<(I:Int))) (∀ S:OA->Nat->Nat->World->Prop,(∀ (U:OA) (V W:Nat),∀ X:World,
 ((K U V W (wr (P+1)) X/\L U V W (wr (P+1)) X<L M N O P Q))->
 S U V W X)->
 Ix H P I fun Y=>Ls Q (Y.add (P.toNat*8)) fun Z=>Ls Q ((Y.add (P.toNat*8)).add 1) fun aa=>Ls Q ((Y.add (P.toNat*8)).add 2) fun ab=>Ll Q ((Y.add (P.toNat*8)).add 3) fun ac ad ae=>Ll Q ((Y.add (P.toNat*8)).add 4) fun af ag ah=>Ll Q ((Y.add (P.toNat*8)).add 5) fun ai aj ak=>Ll Q ((Y.add (P.toNat*8)).add 6) fun al am an=>Ll Q ((Y.add (P.toNat*8)).add 7) fun ao ap aq=>True/\True/\(let au:=Q.alloc (.cells #[T9 Z,T9 aa,T9 ab,S9 ac ad ae,S9 af ag ah,S9 ai aj ak,S9 al am an,S9 ao ap aq] 96);
 ∀ av:Bool->World->Prop,(∀ ax:Bool,∀ ay:World,
 ((Br ax (True/\(let az:=ay.alloc (.cells #[T9 ab] 9);
 ∃ aA aB aC,∃ aD,(Go.builtin .append #[71,71] 71 #[false,false] #[S9 M N O,(S9 (some (adr ay.heap.size)) 1 1)]).run Tryz.prog az=.ok (.value (S9 aA aB aC)) aD/\(KeepT 96 az aD/\True)/\S aA aB aC aD)) (S M N O ay)))->
 av ax ay)->
 (Br (Z.toList==(⟨#[85,78,73,79,78]⟩:BA).toList) (Cb 60 #[T9 b,S9 al am an] au (fun aE aF=>(KeepT 96 au aF/\True)/\av aE aF)) (av false au)))) (R (R9 (S9 M N O)) Q))))))):CP 59 #[P9 a,T9 b] w R:=
 vcq Tryz.func59 [5,9] [(10,⟨[(7,.slice),(25,.int .i64)],[]⟩),(17,⟨[(7,.slice)],[]⟩),(21,⟨[(37,.bool)],[]⟩)] [.l (.optr a),.l (.str b)] h
theorem f_v (a:OA)(b:BA)(w:World)(R:EW)(h:
 CP 66 #[P9 a,T9 b] w (fun c d=>∃ e,∃ f,∃ g,∃ i j k,∃ l m n,∃ o p q,∃ r s t,∃ u v x,∃ y,c=R9 (.tuple #[(.agg #[T9 e,T9 f,T9 g,S9 i j k,S9 l m n,S9 o p q,S9 r s t,S9 u v x]),.bool y])/\True/\True/\True/\(let A:=d.alloc (.cells #[T9 e,T9 f,T9 g,S9 i j k,S9 l m n,S9 o p q,S9 r s t,S9 u v x] 96);
 Pt a fun B=>Ll A B fun C D E=>∃ (F:OA->Nat->Nat->Int->World->Prop) (G:OA->Nat->Nat->Int->World->Nat),F none 0 0 0 A/\
 (∀ (H:OA) (I J:Nat),∀ K:Int,∀ L:World,F H I J K L->
 (Br (decide (K<(D:Int))) (∀ M:OA->Nat->Nat->World->Prop,(∀ (N:OA) (O P:Nat),∀ Q:World,
 ((F N O P (wr (K+1)) Q/\G N O P (wr (K+1)) Q<G H I J K L))->
 M N O P Q)->
 Ix C K D fun S=>Ls L (S.add (K.toNat*8)) fun U=>Ls L ((S.add (K.toNat*8)).add 1) fun V=>Ls L ((S.add (K.toNat*8)).add 2) fun W=>Ll L ((S.add (K.toNat*8)).add 3) fun X Y Z=>Ll L ((S.add (K.toNat*8)).add 4) fun aa ab ac=>Ll L ((S.add (K.toNat*8)).add 5) fun ad ae af=>Ll L ((S.add (K.toNat*8)).add 6) fun ag ah ai=>Ll L ((S.add (K.toNat*8)).add 7) fun aj ak al=>True/\True/\(let an:=L.alloc (.cells #[T9 U,T9 V,T9 W,S9 X Y Z,S9 aa ab ac,S9 ad ae af,S9 ag ah ai,S9 aj ak al] 96);
 ∀ ao:Bool->World->Prop,(∀ ap:Bool,∀ aq:World,
 ((Br ap (True/\(let ar:=aq.alloc (.cells #[T9 W] 9);
 ∃ au av ax,∃ ay,(Go.builtin .append #[71,71] 71 #[false,false] #[S9 H I J,(S9 (some (adr aq.heap.size)) 1 1)]).run Tryz.prog ar=.ok (.value (S9 au av ax)) ay/\(KeepT 96 ar ay/\True)/\M au av ax ay)) (M H I J aq)))->
 ao ap aq)->
 (Br (U.toList==(⟨#[79,66,74,69,67,84]⟩:BA).toList) ((Nr (W.toList==b.toList) ((Br (e.toList==(⟨#[73,78,84,69,82,70,65,67,69]⟩:BA).toList) (Cb 60 #[T9 b,S9 aa ab ac] an (fun az aA=>(KeepT 96 an aA/\True)/\(Nr az ((Br (e.toList==(⟨#[85,78,73,79,78]⟩:BA).toList) (Cb 60 #[T9 W,S9 r s t] aA (fun aB aC=>(KeepT 96 aA aC/\True)/\ao aB aC)) (ao false aA))) (ao true aA)))) ((Br (e.toList==(⟨#[85,78,73,79,78]⟩:BA).toList) (Cb 60 #[T9 W,S9 r s t] an (fun aD aE=>(KeepT 96 an aE/\True)/\ao aD aE)) (ao false an))))) (ao true an))) (ao false an)))) (R (R9 (S9 H I J)) L)))))):CP 127 #[P9 a,T9 b] w R:=
 vcq Tryz.func127 [6,9] [(10,⟨[(5,.slice),(21,.int .i64)],[]⟩),(17,⟨[(5,.slice)],[]⟩),(21,⟨[(56,.bool)],[]⟩)] [.l (.optr a),.l (.str b)] h
set_option maxRecDepth 100000
theorem j_F (a:OA)(w:World)(R:EW)(h:
 True/\(let b:=w.alloc (.cells #[z0s,z0s,e0s,e0s,e0s,z0s,z0s] 40);
 CP 56 #[] b (fun c d=>∃ e f g,∃ i j k,∃ l m n,∃ o p q,∃ r s t,c=R9 (.agg #[S9 e f g,S9 i j k,S9 l m n,S9 o p q,S9 r s t])/\(KeepT 40 b d/\True)/\True/\True/\(let v:=d.alloc (.cells #[S9 e f g,S9 i j k,S9 l m n,S9 o p q,S9 r s t] 26);
 ∀ x,x=v.drew->Pt a fun y=>Ll x y fun z A B=>Pt a fun C=>Ll x (C.add 2) fun D E F=>((∃ G H I,∃ J,(Go.builtin .append #[24,24] 24 #[false,false] #[S9 o p q,S9 z A B]).run Tryz.prog x=.ok (.value (S9 G H I)) J/\(KeepT 40 x J/\KeepT 26 x J/\True)/\((J.cell? (C.add 2)=x.cell? (C.add 2))/\(1=1)/\True)/\((∃ K L M,∃ N,(Go.builtin .append #[23,23] 23 #[false,false] #[S9 l m n,S9 D E F]).run Tryz.prog J=.ok (.value (S9 K L M)) N/\(KeepT 40 J N/\KeepT 26 J N/\True)/\True/\((Cs 51 #[P9 a,(T9 (⟨#[113,117,101,114,121]⟩:BA))] N (fun O P=>(KeepT 40 N P/\KeepT 26 N P/\True)/\True/\((Cs 51 #[P9 a,(T9 (⟨#[109,117,116,97,116,105,111,110]⟩:BA))] P (fun Q S=>(KeepT 40 P S/\KeepT 26 P S/\True)/\True/\((Cs 51 #[P9 a,(T9 (⟨#[115,117,98,115,99,114,105,112,116,105,111,110]⟩:BA))] S (fun U V=>(KeepT 40 S V/\KeepT 26 S V/\True)/\True/\True/\True/\(let W:=V.alloc (.cells #[z0s,z0s,e0s,e0s,e0s,z0s,z0s] 40);
 True/\True/\(let X:=setB W (V.heap.size) [S9 G H I,S9 K L M,T9 O,T9 Q,T9 U,z0s,z0s] 40;
 True/\Pt a fun Y=>Ll X Y fun Z aa ab=>∃ (ac:Int->OA->Nat->Nat->OA->Nat->Nat->BA->BA->BA->OA->Nat->Nat->OA->Nat->Nat->World->Prop) (ad:Int->OA->Nat->Nat->OA->Nat->Nat->BA->BA->BA->OA->Nat->Nat->OA->Nat->Nat->World->Nat),ac 0 G H I K L M O Q U none 0 0 none 0 0 X/\
 (∀ ae:Int,∀ (af:OA) (ag ah:Nat),∀ (ai:OA) (aj ak:Nat),∀ al:BA,∀ am:BA,∀ an:BA,∀ (ao:OA) (ap aq:Nat),∀ (ar:OA) (au av:Nat),∀ ax:World,ac ae af ag ah ai aj ak al am an ao ap aq ar au av ax->
 (Br (decide (ae<(aa:Int))) (∀ ay:OA->Nat->Nat->OA->Nat->Nat->BA->BA->BA->OA->Nat->Nat->OA->Nat->Nat->World->Prop,(∀ (az:OA) (aA aB:Nat),∀ (aC:OA) (aD aE:Nat),∀ aF:BA,∀ aG:BA,∀ aH:BA,∀ (aI:OA) (aJ aK:Nat),∀ (aL:OA) (aM aN:Nat),∀ aO:World,
 ((ac (wr (ae+1)) az aA aB aC aD aE aF aG aH aI aJ aK aL aM aN aO/\ad (wr (ae+1)) az aA aB aC aD aE aF aG aH aI aJ aK aL aM aN aO<ad ae af ag ah ai aj ak al am an ao ap aq ar au av ax))->
 ay az aA aB aC aD aE aF aG aH aI aJ aK aL aM aN aO)->
 Ix Z ae aa fun aP=>Ls ax (aP.add (ae.toNat*8)) fun aQ=>Ls ax ((aP.add (ae.toNat*8)).add 1) fun aS=>Ls ax ((aP.add (ae.toNat*8)).add 2) fun aU=>Ll ax ((aP.add (ae.toNat*8)).add 3) fun aV aW aX=>Ll ax ((aP.add (ae.toNat*8)).add 4) fun aY aZ ba=>Ll ax ((aP.add (ae.toNat*8)).add 5) fun bb bc bd=>Ll ax ((aP.add (ae.toNat*8)).add 6) fun be bf bg=>Ll ax ((aP.add (ae.toNat*8)).add 7) fun bh bi bj=>True/\True/\(let bl:=ax.alloc (.cells #[T9 aQ,T9 aS,T9 aU,S9 aV aW aX,S9 aY aZ ba,S9 bb bc bd,S9 be bf bg,S9 bh bi bj] 96);
 ∀ bm:OA->Nat->Nat->OA->Nat->Nat->BA->BA->BA->OA->Nat->Nat->OA->Nat->Nat->World->Prop,(∀ (bn:OA) (bo bp:Nat),∀ (bq:OA) (br bs:Nat),∀ bt:BA,∀ bu:BA,∀ bv:BA,∀ (bx:OA) (bz bA:Nat),∀ (bB:OA) (bC bD:Nat),∀ bE:World,
 (Cl 59 #[P9 a,T9 aU] bE (fun bF bG bH bI=>(KeepT 26 bE bI/\KeepT 40 bE bI/\KeepT 96 bE bI/\True)/\(Br (decide ((bG:Int)>0)) (True/\True/\(let bJ:=bI.alloc (.cells #[T9 aU,S9 bF bG bH] 99);
 ∃ bK bL bM,∃ bN,(Go.builtin .append #[38,38] 38 #[false,false] #[S9 bB bC bD,(S9 (some (adr bI.heap.size)) 1 1)]).run Tryz.prog bJ=.ok (.value (S9 bK bL bM)) bN/\(KeepT 26 bJ bN/\KeepT 40 bJ bN/\KeepT 96 bJ bN/\True)/\True/\(let bO:=setB bN (V.heap.size) [S9 bn bo bp,S9 bq br bs,T9 bt,T9 bu,T9 bv,S9 bx bz bA,S9 bK bL bM] 40;
 ay bn bo bp bq br bs bt bu bv bx bz bA bK bL bM bO))) (ay bn bo bp bq br bs bt bu bv bx bz bA bB bC bD bI))))->
 bm bn bo bp bq br bs bt bu bv bx bz bA bB bC bD bE)->
 Cb 57 #[T9 aQ] bl (fun bP bQ=>(KeepT 26 bl bQ/\KeepT 40 bl bQ/\KeepT 96 bl bQ/\True)/\(Br bP (∀ bS,bS=bQ.drew->Cl 58 #[P9 a,T9 aU] bS (fun bU bV bW bX=>(KeepT 26 bS bX/\KeepT 40 bS bX/\KeepT 96 bS bX/\True)/\((1=1)/\(2=2)/\True)/\True/\True/\(let bY:=bX.alloc (.cells #[T9 aU,S9 bU bV bW] 99);
 ((2=2)/\True)/\∃ bZ ca cb,∃ cc,(Go.builtin .append #[38,38] 38 #[false,false] #[S9 ao ap aq,(S9 (some (adr bX.heap.size)) 1 1)]).run Tryz.prog bY=.ok (.value (S9 bZ ca cb)) cc/\(KeepT 26 bY cc/\KeepT 40 bY cc/\KeepT 96 bY cc/\True)/\True/\True/\(let cd:=setB cc (V.heap.size) [S9 af ag ah,S9 ai aj ak,T9 al,T9 am,T9 an,S9 bZ ca cb,S9 ar au av] 40;
 True/\bm af ag ah ai aj ak al am an bZ ca cb ar au av cd)))) (bm af ag ah ai aj ak al am an ao ap aq ar au av bQ))))) (True/\(let ce:=setB ax (w.heap.size) [S9 af ag ah,S9 ai aj ak,T9 al,T9 am,T9 an,S9 ao ap aq,S9 ar au av] 40;
 R (R9 (.agg #[S9 af ag ah,S9 ai aj ak,T9 al,T9 am,T9 an,S9 ao ap aq,S9 ar au av])) ce))))))))/\
 (True/\(let cf:=S.alloc (.cells #[z0s,z0s,e0s,e0s,e0s,z0s,z0s] 40);
 True/\Cs 51 #[P9 a,(T9 (⟨#[115,117,98,115,99,114,105,112,116,105,111,110]⟩:BA))] cf (fun cg ch=>(KeepT 26 cf ch/\KeepT 40 cf ch/\True)/\True/\True/\True/\(let ci:=setB ch (S.heap.size) [S9 G H I,S9 K L M,T9 O,T9 Q,T9 cg,z0s,z0s] 40;
 True/\Pt a fun cj=>Ll ci cj fun ck cl cm=>∃ (cn:Int->OA->Nat->Nat->OA->Nat->Nat->BA->BA->BA->OA->Nat->Nat->OA->Nat->Nat->World->Prop) (co:Int->OA->Nat->Nat->OA->Nat->Nat->BA->BA->BA->OA->Nat->Nat->OA->Nat->Nat->World->Nat),cn 0 G H I K L M O Q cg none 0 0 none 0 0 ci/\
 (∀ cp:Int,∀ (cq:OA) (cr ct:Nat),∀ (cu:OA) (cv cx:Nat),∀ cy:BA,∀ cz:BA,∀ cA:BA,∀ (cB:OA) (cC cD:Nat),∀ (cE:OA) (cF cG:Nat),∀ cH:World,cn cp cq cr ct cu cv cx cy cz cA cB cC cD cE cF cG cH->
 (Br (decide (cp<(cl:Int))) (∀ cI:OA->Nat->Nat->OA->Nat->Nat->BA->BA->BA->OA->Nat->Nat->OA->Nat->Nat->World->Prop,(∀ (cJ:OA) (cK cL:Nat),∀ (cM:OA) (cN cO:Nat),∀ cP:BA,∀ cQ:BA,∀ cS:BA,∀ (cU:OA) (cV cW:Nat),∀ (cX:OA) (cY cZ:Nat),∀ da:World,
 ((cn (wr (cp+1)) cJ cK cL cM cN cO cP cQ cS cU cV cW cX cY cZ da/\co (wr (cp+1)) cJ cK cL cM cN cO cP cQ cS cU cV cW cX cY cZ da<co cp cq cr ct cu cv cx cy cz cA cB cC cD cE cF cG cH))->
 cI cJ cK cL cM cN cO cP cQ cS cU cV cW cX cY cZ da)->
 Ix ck cp cl fun db=>Ls cH (db.add (cp.toNat*8)) fun dc=>Ls cH ((db.add (cp.toNat*8)).add 1) fun dd=>Ls cH ((db.add (cp.toNat*8)).add 2) fun de=>Ll cH ((db.add (cp.toNat*8)).add 3) fun df dg dh=>Ll cH ((db.add (cp.toNat*8)).add 4) fun di dj dk=>Ll cH ((db.add (cp.toNat*8)).add 5) fun dl dm dn=>Ll cH ((db.add (cp.toNat*8)).add 6) fun dp dq dr=>Ll cH ((db.add (cp.toNat*8)).add 7) fun ds dt du=>True/\True/\(let dx:=cH.alloc (.cells #[T9 dc,T9 dd,T9 de,S9 df dg dh,S9 di dj dk,S9 dl dm dn,S9 dp dq dr,S9 ds dt du] 96);
 ∀ dy:OA->Nat->Nat->OA->Nat->Nat->BA->BA->BA->OA->Nat->Nat->OA->Nat->Nat->World->Prop,(∀ (dz:OA) (dA dB:Nat),∀ (dC:OA) (dD dE:Nat),∀ dF:BA,∀ dG:BA,∀ dH:BA,∀ (dI:OA) (dJ dK:Nat),∀ (dL:OA) (dM dN:Nat),∀ dO:World,
 (Cl 59 #[P9 a,T9 de] dO (fun dP dQ dS dU=>(KeepT 26 dO dU/\KeepT 40 dO dU/\KeepT 96 dO dU/\True)/\(Br (decide ((dQ:Int)>0)) (True/\True/\(let dV:=dU.alloc (.cells #[T9 de,S9 dP dQ dS] 99);
 ∃ dW dX dY,∃ dZ,(Go.builtin .append #[38,38] 38 #[false,false] #[S9 dL dM dN,(S9 (some (adr dU.heap.size)) 1 1)]).run Tryz.prog dV=.ok (.value (S9 dW dX dY)) dZ/\(KeepT 26 dV dZ/\KeepT 40 dV dZ/\KeepT 96 dV dZ/\True)/\True/\(let ea:=setB dZ (S.heap.size) [S9 dz dA dB,S9 dC dD dE,T9 dF,T9 dG,T9 dH,S9 dI dJ dK,S9 dW dX dY] 40;
 cI dz dA dB dC dD dE dF dG dH dI dJ dK dW dX dY ea))) (cI dz dA dB dC dD dE dF dG dH dI dJ dK dL dM dN dU))))->
 dy dz dA dB dC dD dE dF dG dH dI dJ dK dL dM dN dO)->
 Cb 57 #[T9 dc] dx (fun eb ec=>(KeepT 26 dx ec/\KeepT 40 dx ec/\KeepT 96 dx ec/\True)/\(Br eb (∀ ed,ed=ec.drew->Cl 58 #[P9 a,T9 de] ed (fun ee ef eg eh=>(KeepT 26 ed eh/\KeepT 40 ed eh/\KeepT 96 ed eh/\True)/\((1=1)/\(2=2)/\True)/\True/\True/\(let ei:=eh.alloc (.cells #[T9 de,S9 ee ef eg] 99);
 ((2=2)/\True)/\∃ ej ek el,∃ em,(Go.builtin .append #[38,38] 38 #[false,false] #[S9 cB cC cD,(S9 (some (adr eh.heap.size)) 1 1)]).run Tryz.prog ei=.ok (.value (S9 ej ek el)) em/\(KeepT 26 ei em/\KeepT 40 ei em/\KeepT 96 ei em/\True)/\True/\True/\(let en:=setB em (S.heap.size) [S9 cq cr ct,S9 cu cv cx,T9 cy,T9 cz,T9 cA,S9 ej ek el,S9 cE cF cG] 40;
 True/\dy cq cr ct cu cv cx cy cz cA ej ek el cE cF cG en)))) (dy cq cr ct cu cv cx cy cz cA cB cC cD cE cF cG ec))))) (True/\(let eo:=setB cH (w.heap.size) [S9 cq cr ct,S9 cu cv cx,T9 cy,T9 cz,T9 cA,S9 cB cC cD,S9 cE cF cG] 40;
 R (R9 (.agg #[S9 cq cr ct,S9 cu cv cx,T9 cy,T9 cz,T9 cA,S9 cB cC cD,S9 cE cF cG])) eo)))))))))))/\
 (True/\(let ep:=P.alloc (.cells #[z0s,z0s,e0s,e0s,e0s,z0s,z0s] 40);
 True/\Cs 51 #[P9 a,(T9 (⟨#[109,117,116,97,116,105,111,110]⟩:BA))] ep (fun eq er=>(KeepT 26 ep er/\KeepT 40 ep er/\True)/\True/\Cs 51 #[P9 a,(T9 (⟨#[115,117,98,115,99,114,105,112,116,105,111,110]⟩:BA))] er (fun es et=>(KeepT 26 er et/\KeepT 40 er et/\True)/\True/\True/\True/\(let eu:=setB et (P.heap.size) [S9 G H I,S9 K L M,T9 O,T9 eq,T9 es,z0s,z0s] 40;
 True/\Pt a fun ev=>Ll eu ev fun ex ey ez=>∃ (eA:Int->OA->Nat->Nat->OA->Nat->Nat->BA->BA->BA->OA->Nat->Nat->OA->Nat->Nat->World->Prop) (eB:Int->OA->Nat->Nat->OA->Nat->Nat->BA->BA->BA->OA->Nat->Nat->OA->Nat->Nat->World->Nat),eA 0 G H I K L M O eq es none 0 0 none 0 0 eu/\
 (∀ eC:Int,∀ (eD:OA) (eE eF:Nat),∀ (eG:OA) (eH eI:Nat),∀ eJ:BA,∀ eK:BA,∀ eL:BA,∀ (eM:OA) (eN eO:Nat),∀ (eP:OA) (eQ eS:Nat),∀ eU:World,eA eC eD eE eF eG eH eI eJ eK eL eM eN eO eP eQ eS eU->
 (Br (decide (eC<(ey:Int))) (∀ eV:OA->Nat->Nat->OA->Nat->Nat->BA->BA->BA->OA->Nat->Nat->OA->Nat->Nat->World->Prop,(∀ (eW:OA) (eX eY:Nat),∀ (eZ:OA) (fa fb:Nat),∀ fc:BA,∀ fd:BA,∀ fe:BA,∀ (ff:OA) (fg fh:Nat),∀ (fi:OA) (fj fk:Nat),∀ fl:World,
 ((eA (wr (eC+1)) eW eX eY eZ fa fb fc fd fe ff fg fh fi fj fk fl/\eB (wr (eC+1)) eW eX eY eZ fa fb fc fd fe ff fg fh fi fj fk fl<eB eC eD eE eF eG eH eI eJ eK eL eM eN eO eP eQ eS eU))->
 eV eW eX eY eZ fa fb fc fd fe ff fg fh fi fj fk fl)->
 Ix ex eC ey fun fm=>Ls eU (fm.add (eC.toNat*8)) fun fn=>Ls eU ((fm.add (eC.toNat*8)).add 1) fun fo=>Ls eU ((fm.add (eC.toNat*8)).add 2) fun fp=>Ll eU ((fm.add (eC.toNat*8)).add 3) fun fq fr fs=>Ll eU ((fm.add (eC.toNat*8)).add 4) fun ft fu fv=>Ll eU ((fm.add (eC.toNat*8)).add 5) fun fx fy fz=>Ll eU ((fm.add (eC.toNat*8)).add 6) fun fA fB fC=>Ll eU ((fm.add (eC.toNat*8)).add 7) fun fD fE fF=>True/\True/\(let fH:=eU.alloc (.cells #[T9 fn,T9 fo,T9 fp,S9 fq fr fs,S9 ft fu fv,S9 fx fy fz,S9 fA fB fC,S9 fD fE fF] 96);
 ∀ fI:OA->Nat->Nat->OA->Nat->Nat->BA->BA->BA->OA->Nat->Nat->OA->Nat->Nat->World->Prop,(∀ (fJ:OA) (fK fL:Nat),∀ (fM:OA) (fN fO:Nat),∀ fP:BA,∀ fQ:BA,∀ fS:BA,∀ (fU:OA) (fV fW:Nat),∀ (fX:OA) (fY fZ:Nat),∀ ga:World,
 (Cl 59 #[P9 a,T9 fp] ga (fun gb gc gd ge=>(KeepT 26 ga ge/\KeepT 40 ga ge/\KeepT 96 ga ge/\True)/\(Br (decide ((gc:Int)>0)) (True/\True/\(let gf:=ge.alloc (.cells #[T9 fp,S9 gb gc gd] 99);
 ∃ gg gh gi,∃ gj,(Go.builtin .append #[38,38] 38 #[false,false] #[S9 fX fY fZ,(S9 (some (adr ge.heap.size)) 1 1)]).run Tryz.prog gf=.ok (.value (S9 gg gh gi)) gj/\(KeepT 26 gf gj/\KeepT 40 gf gj/\KeepT 96 gf gj/\True)/\True/\(let gk:=setB gj (P.heap.size) [S9 fJ fK fL,S9 fM fN fO,T9 fP,T9 fQ,T9 fS,S9 fU fV fW,S9 gg gh gi] 40;
 eV fJ fK fL fM fN fO fP fQ fS fU fV fW gg gh gi gk))) (eV fJ fK fL fM fN fO fP fQ fS fU fV fW fX fY fZ ge))))->
 fI fJ fK fL fM fN fO fP fQ fS fU fV fW fX fY fZ ga)->
 Cb 57 #[T9 fn] fH (fun gl gm=>(KeepT 26 fH gm/\KeepT 40 fH gm/\KeepT 96 fH gm/\True)/\(Br gl (∀ gn,gn=gm.drew->Cl 58 #[P9 a,T9 fp] gn (fun go gp gq gr=>(KeepT 26 gn gr/\KeepT 40 gn gr/\KeepT 96 gn gr/\True)/\((1=1)/\(2=2)/\True)/\True/\True/\(let gs:=gr.alloc (.cells #[T9 fp,S9 go gp gq] 99);
 ((2=2)/\True)/\∃ gt gu gv,∃ gx,(Go.builtin .append #[38,38] 38 #[false,false] #[S9 eM eN eO,(S9 (some (adr gr.heap.size)) 1 1)]).run Tryz.prog gs=.ok (.value (S9 gt gu gv)) gx/\(KeepT 26 gs gx/\KeepT 40 gs gx/\KeepT 96 gs gx/\True)/\True/\True/\(let gy:=setB gx (P.heap.size) [S9 eD eE eF,S9 eG eH eI,T9 eJ,T9 eK,T9 eL,S9 gt gu gv,S9 eP eQ eS] 40;
 True/\fI eD eE eF eG eH eI eJ eK eL gt gu gv eP eQ eS gy)))) (fI eD eE eF eG eH eI eJ eK eL eM eN eO eP eQ eS gm))))) (True/\(let gz:=setB eU (w.heap.size) [S9 eD eE eF,S9 eG eH eI,T9 eJ,T9 eK,T9 eL,S9 eM eN eO,S9 eP eQ eS] 40;
 R (R9 (.agg #[S9 eD eE eF,S9 eG eH eI,T9 eJ,T9 eK,T9 eL,S9 eM eN eO,S9 eP eQ eS])) gz))))))))))))/\
 (True/\(let gA:=N.alloc (.cells #[z0s,z0s,e0s,e0s,e0s,z0s,z0s] 40);
 True/\Cs 51 #[P9 a,(T9 (⟨#[113,117,101,114,121]⟩:BA))] gA (fun gB gC=>(KeepT 26 gA gC/\KeepT 40 gA gC/\True)/\True/\Cs 51 #[P9 a,(T9 (⟨#[109,117,116,97,116,105,111,110]⟩:BA))] gC (fun gD gE=>(KeepT 26 gC gE/\KeepT 40 gC gE/\True)/\True/\Cs 51 #[P9 a,(T9 (⟨#[115,117,98,115,99,114,105,112,116,105,111,110]⟩:BA))] gE (fun gF gG=>(KeepT 26 gE gG/\KeepT 40 gE gG/\True)/\True/\True/\True/\(let gH:=setB gG (N.heap.size) [S9 G H I,S9 K L M,T9 gB,T9 gD,T9 gF,z0s,z0s] 40;
 True/\Pt a fun gI=>Ll gH gI fun gJ gK gL=>∃ (gM:Int->OA->Nat->Nat->OA->Nat->Nat->BA->BA->BA->OA->Nat->Nat->OA->Nat->Nat->World->Prop) (gN:Int->OA->Nat->Nat->OA->Nat->Nat->BA->BA->BA->OA->Nat->Nat->OA->Nat->Nat->World->Nat),gM 0 G H I K L M gB gD gF none 0 0 none 0 0 gH/\
 (∀ gO:Int,∀ (gP:OA) (gQ gS:Nat),∀ (gU:OA) (gV gW:Nat),∀ gX:BA,∀ gY:BA,∀ gZ:BA,∀ (ha:OA) (hb hc:Nat),∀ (hd:OA) (he hf:Nat),∀ hg:World,gM gO gP gQ gS gU gV gW gX gY gZ ha hb hc hd he hf hg->
 (Br (decide (gO<(gK:Int))) (∀ hh:OA->Nat->Nat->OA->Nat->Nat->BA->BA->BA->OA->Nat->Nat->OA->Nat->Nat->World->Prop,(∀ (hi:OA) (hj hk:Nat),∀ (hl:OA) (hm hn:Nat),∀ ho:BA,∀ hp:BA,∀ hq:BA,∀ (hr:OA) (hs ht:Nat),∀ (hu:OA) (hv hx:Nat),∀ hy:World,
 ((gM (wr (gO+1)) hi hj hk hl hm hn ho hp hq hr hs ht hu hv hx hy/\gN (wr (gO+1)) hi hj hk hl hm hn ho hp hq hr hs ht hu hv hx hy<gN gO gP gQ gS gU gV gW gX gY gZ ha hb hc hd he hf hg))->
 hh hi hj hk hl hm hn ho hp hq hr hs ht hu hv hx hy)->
 Ix gJ gO gK fun hz=>Ls hg (hz.add (gO.toNat*8)) fun hA=>Ls hg ((hz.add (gO.toNat*8)).add 1) fun hB=>Ls hg ((hz.add (gO.toNat*8)).add 2) fun hC=>Ll hg ((hz.add (gO.toNat*8)).add 3) fun hD hE hF=>Ll hg ((hz.add (gO.toNat*8)).add 4) fun hG hH hI=>Ll hg ((hz.add (gO.toNat*8)).add 5) fun hJ hK hL=>Ll hg ((hz.add (gO.toNat*8)).add 6) fun hM hN hO=>Ll hg ((hz.add (gO.toNat*8)).add 7) fun hP hQ hS=>True/\True/\(let hV:=hg.alloc (.cells #[T9 hA,T9 hB,T9 hC,S9 hD hE hF,S9 hG hH hI,S9 hJ hK hL,S9 hM hN hO,S9 hP hQ hS] 96);
 ∀ hW:OA->Nat->Nat->OA->Nat->Nat->BA->BA->BA->OA->Nat->Nat->OA->Nat->Nat->World->Prop,(∀ (hX:OA) (hY hZ:Nat),∀ (ia:OA) (ib ic:Nat),∀ id:BA,∀ ie:BA,∀ ig:BA,∀ (ih:OA) (ii ij:Nat),∀ (ik:OA) (il im:Nat),∀ io:World,
 (Cl 59 #[P9 a,T9 hC] io (fun ip iq ir is=>(KeepT 26 io is/\KeepT 40 io is/\KeepT 96 io is/\True)/\(Br (decide ((iq:Int)>0)) (True/\True/\(let it:=is.alloc (.cells #[T9 hC,S9 ip iq ir] 99);
 ∃ iu iv ix,∃ iy,(Go.builtin .append #[38,38] 38 #[false,false] #[S9 ik il im,(S9 (some (adr is.heap.size)) 1 1)]).run Tryz.prog it=.ok (.value (S9 iu iv ix)) iy/\(KeepT 26 it iy/\KeepT 40 it iy/\KeepT 96 it iy/\True)/\True/\(let iz:=setB iy (N.heap.size) [S9 hX hY hZ,S9 ia ib ic,T9 id,T9 ie,T9 ig,S9 ih ii ij,S9 iu iv ix] 40;
 hh hX hY hZ ia ib ic id ie ig ih ii ij iu iv ix iz))) (hh hX hY hZ ia ib ic id ie ig ih ii ij ik il im is))))->
 hW hX hY hZ ia ib ic id ie ig ih ii ij ik il im io)->
 Cb 57 #[T9 hA] hV (fun iA iB=>(KeepT 26 hV iB/\KeepT 40 hV iB/\KeepT 96 hV iB/\True)/\(Br iA (∀ iC,iC=iB.drew->Cl 58 #[P9 a,T9 hC] iC (fun iD iE iF iG=>(KeepT 26 iC iG/\KeepT 40 iC iG/\KeepT 96 iC iG/\True)/\((1=1)/\(2=2)/\True)/\True/\True/\(let iH:=iG.alloc (.cells #[T9 hC,S9 iD iE iF] 99);
 ((2=2)/\True)/\∃ iI iJ iK,∃ iL,(Go.builtin .append #[38,38] 38 #[false,false] #[S9 ha hb hc,(S9 (some (adr iG.heap.size)) 1 1)]).run Tryz.prog iH=.ok (.value (S9 iI iJ iK)) iL/\(KeepT 26 iH iL/\KeepT 40 iH iL/\KeepT 96 iH iL/\True)/\True/\True/\(let iM:=setB iL (N.heap.size) [S9 gP gQ gS,S9 gU gV gW,T9 gX,T9 gY,T9 gZ,S9 iI iJ iK,S9 hd he hf] 40;
 True/\hW gP gQ gS gU gV gW gX gY gZ iI iJ iK hd he hf iM)))) (hW gP gQ gS gU gV gW gX gY gZ ha hb hc hd he hf iB))))) (True/\(let iN:=setB hg (w.heap.size) [S9 gP gQ gS,S9 gU gV gW,T9 gX,T9 gY,T9 gZ,S9 ha hb hc,S9 hd he hf] 40;
 R (R9 (.agg #[S9 gP gQ gS,S9 gU gV gW,T9 gX,T9 gY,T9 gZ,S9 ha hb hc,S9 hd he hf])) iN))))))))))))/\
 (True/\(let iO:=J.alloc (.cells #[z0s,z0s,e0s,e0s,e0s,z0s,z0s] 40);
 ((iO.cell? (C.add 2)=J.cell? (C.add 2))/\(1=1)/\True)/\∃ iP iQ iS,∃ iU,(Go.builtin .append #[23,23] 23 #[false,false] #[S9 l m n,S9 D E F]).run Tryz.prog iO=.ok (.value (S9 iP iQ iS)) iU/\(KeepT 26 iO iU/\KeepT 40 iO iU/\True)/\True/\Cs 51 #[P9 a,(T9 (⟨#[113,117,101,114,121]⟩:BA))] iU (fun iV iW=>(KeepT 26 iU iW/\KeepT 40 iU iW/\True)/\True/\Cs 51 #[P9 a,(T9 (⟨#[109,117,116,97,116,105,111,110]⟩:BA))] iW (fun iX iY=>(KeepT 26 iW iY/\KeepT 40 iW iY/\True)/\True/\Cs 51 #[P9 a,(T9 (⟨#[115,117,98,115,99,114,105,112,116,105,111,110]⟩:BA))] iY (fun iZ ja=>(KeepT 26 iY ja/\KeepT 40 iY ja/\True)/\True/\True/\True/\(let jb:=setB ja (J.heap.size) [S9 G H I,S9 iP iQ iS,T9 iV,T9 iX,T9 iZ,z0s,z0s] 40;
 True/\Pt a fun jc=>Ll jb jc fun jd je jf=>∃ (jg:Int->OA->Nat->Nat->OA->Nat->Nat->BA->BA->BA->OA->Nat->Nat->OA->Nat->Nat->World->Prop) (jh:Int->OA->Nat->Nat->OA->Nat->Nat->BA->BA->BA->OA->Nat->Nat->OA->Nat->Nat->World->Nat),jg 0 G H I iP iQ iS iV iX iZ none 0 0 none 0 0 jb/\
 (∀ ji:Int,∀ (jj:OA) (jk jl:Nat),∀ (jm:OA) (jn jo:Nat),∀ jp:BA,∀ jq:BA,∀ jr:BA,∀ (js:OA) (jt ju:Nat),∀ (jv:OA) (jx jy:Nat),∀ jz:World,jg ji jj jk jl jm jn jo jp jq jr js jt ju jv jx jy jz->
 (Br (decide (ji<(je:Int))) (∀ jA:OA->Nat->Nat->OA->Nat->Nat->BA->BA->BA->OA->Nat->Nat->OA->Nat->Nat->World->Prop,(∀ (jB:OA) (jC jD:Nat),∀ (jE:OA) (jF jG:Nat),∀ jH:BA,∀ jI:BA,∀ jJ:BA,∀ (jK:OA) (jL jM:Nat),∀ (jN:OA) (jO jP:Nat),∀ jQ:World,
 ((jg (wr (ji+1)) jB jC jD jE jF jG jH jI jJ jK jL jM jN jO jP jQ/\jh (wr (ji+1)) jB jC jD jE jF jG jH jI jJ jK jL jM jN jO jP jQ<jh ji jj jk jl jm jn jo jp jq jr js jt ju jv jx jy jz))->
 jA jB jC jD jE jF jG jH jI jJ jK jL jM jN jO jP jQ)->
 Ix jd ji je fun jS=>Ls jz (jS.add (ji.toNat*8)) fun jU=>Ls jz ((jS.add (ji.toNat*8)).add 1) fun jV=>Ls jz ((jS.add (ji.toNat*8)).add 2) fun jW=>Ll jz ((jS.add (ji.toNat*8)).add 3) fun jX jY jZ=>Ll jz ((jS.add (ji.toNat*8)).add 4) fun ka kb kc=>Ll jz ((jS.add (ji.toNat*8)).add 5) fun kd ke kf=>Ll jz ((jS.add (ji.toNat*8)).add 6) fun kg kh ki=>Ll jz ((jS.add (ji.toNat*8)).add 7) fun kj kk kl=>True/\True/\(let kn:=jz.alloc (.cells #[T9 jU,T9 jV,T9 jW,S9 jX jY jZ,S9 ka kb kc,S9 kd ke kf,S9 kg kh ki,S9 kj kk kl] 96);
 ∀ ko:OA->Nat->Nat->OA->Nat->Nat->BA->BA->BA->OA->Nat->Nat->OA->Nat->Nat->World->Prop,(∀ (kp:OA) (kq kr:Nat),∀ (ks:OA) (kt ku:Nat),∀ kv:BA,∀ kx:BA,∀ ky:BA,∀ (kz:OA) (kA kB:Nat),∀ (kC:OA) (kD kE:Nat),∀ kF:World,
 (Cl 59 #[P9 a,T9 jW] kF (fun kG kH kI kJ=>(KeepT 26 kF kJ/\KeepT 40 kF kJ/\KeepT 96 kF kJ/\True)/\(Br (decide ((kH:Int)>0)) (True/\True/\(let kK:=kJ.alloc (.cells #[T9 jW,S9 kG kH kI] 99);
 ∃ kL kM kN,∃ kO,(Go.builtin .append #[38,38] 38 #[false,false] #[S9 kC kD kE,(S9 (some (adr kJ.heap.size)) 1 1)]).run Tryz.prog kK=.ok (.value (S9 kL kM kN)) kO/\(KeepT 26 kK kO/\KeepT 40 kK kO/\KeepT 96 kK kO/\True)/\True/\(let kP:=setB kO (J.heap.size) [S9 kp kq kr,S9 ks kt ku,T9 kv,T9 kx,T9 ky,S9 kz kA kB,S9 kL kM kN] 40;
 jA kp kq kr ks kt ku kv kx ky kz kA kB kL kM kN kP))) (jA kp kq kr ks kt ku kv kx ky kz kA kB kC kD kE kJ))))->
 ko kp kq kr ks kt ku kv kx ky kz kA kB kC kD kE kF)->
 Cb 57 #[T9 jU] kn (fun kQ kS=>(KeepT 26 kn kS/\KeepT 40 kn kS/\KeepT 96 kn kS/\True)/\(Br kQ (∀ kU,kU=kS.drew->Cl 58 #[P9 a,T9 jW] kU (fun kV kW kX kY=>(KeepT 26 kU kY/\KeepT 40 kU kY/\KeepT 96 kU kY/\True)/\((1=1)/\(2=2)/\True)/\True/\True/\(let kZ:=kY.alloc (.cells #[T9 jW,S9 kV kW kX] 99);
 ((2=2)/\True)/\∃ la lb lc,∃ ld,(Go.builtin .append #[38,38] 38 #[false,false] #[S9 js jt ju,(S9 (some (adr kY.heap.size)) 1 1)]).run Tryz.prog kZ=.ok (.value (S9 la lb lc)) ld/\(KeepT 26 kZ ld/\KeepT 40 kZ ld/\KeepT 96 kZ ld/\True)/\True/\True/\(let le:=setB ld (J.heap.size) [S9 jj jk jl,S9 jm jn jo,T9 jp,T9 jq,T9 jr,S9 la lb lc,S9 jv jx jy] 40;
 True/\ko jj jk jl jm jn jo jp jq jr la lb lc jv jx jy le)))) (ko jj jk jl jm jn jo jp jq jr js jt ju jv jx jy kS))))) (True/\(let lf:=setB jz (w.heap.size) [S9 jj jk jl,S9 jm jn jo,T9 jp,T9 jq,T9 jr,S9 js jt ju,S9 jv jx jy] 40;
 R (R9 (.agg #[S9 jj jk jl,S9 jm jn jo,T9 jp,T9 jq,T9 jr,S9 js jt ju,S9 jv jx jy])) lf))))))))))))/\
 (True/\(let lg:=x.alloc (.cells #[z0s,z0s,e0s,e0s,e0s,z0s,z0s] 40);
 ((lg.cell? (C.add 2)=x.cell? (C.add 2))/\(1=1)/\(lg.cell? y=x.cell? y)/\(1=1)/\True)/\∃ lh li lj,∃ lk,(Go.builtin .append #[24,24] 24 #[false,false] #[S9 o p q,S9 z A B]).run Tryz.prog lg=.ok (.value (S9 lh li lj)) lk/\(KeepT 26 lg lk/\KeepT 40 lg lk/\True)/\((lk.cell? (C.add 2)=lg.cell? (C.add 2))/\(1=1)/\True)/\∃ ll lm ln,∃ lo,(Go.builtin .append #[23,23] 23 #[false,false] #[S9 l m n,S9 D E F]).run Tryz.prog lk=.ok (.value (S9 ll lm ln)) lo/\(KeepT 26 lk lo/\KeepT 40 lk lo/\True)/\True/\Cs 51 #[P9 a,(T9 (⟨#[113,117,101,114,121]⟩:BA))] lo (fun lp lq=>(KeepT 26 lo lq/\KeepT 40 lo lq/\True)/\True/\Cs 51 #[P9 a,(T9 (⟨#[109,117,116,97,116,105,111,110]⟩:BA))] lq (fun lr ls=>(KeepT 26 lq ls/\KeepT 40 lq ls/\True)/\True/\Cs 51 #[P9 a,(T9 (⟨#[115,117,98,115,99,114,105,112,116,105,111,110]⟩:BA))] ls (fun lt lu=>(KeepT 26 ls lu/\KeepT 40 ls lu/\True)/\True/\True/\True/\(let lv:=setB lu (x.heap.size) [S9 lh li lj,S9 ll lm ln,T9 lp,T9 lr,T9 lt,z0s,z0s] 40;
 True/\Pt a fun lx=>Ll lv lx fun ly lz lA=>∃ (lB:Int->OA->Nat->Nat->OA->Nat->Nat->BA->BA->BA->OA->Nat->Nat->OA->Nat->Nat->World->Prop) (lC:Int->OA->Nat->Nat->OA->Nat->Nat->BA->BA->BA->OA->Nat->Nat->OA->Nat->Nat->World->Nat),lB 0 lh li lj ll lm ln lp lr lt none 0 0 none 0 0 lv/\
 (∀ lD:Int,∀ (lE:OA) (lF lG:Nat),∀ (lH:OA) (lI lJ:Nat),∀ lK:BA,∀ lL:BA,∀ lM:BA,∀ (lN:OA) (lO lP:Nat),∀ (lQ:OA) (lS lU:Nat),∀ lV:World,lB lD lE lF lG lH lI lJ lK lL lM lN lO lP lQ lS lU lV->
 (Br (decide (lD<(lz:Int))) (∀ lW:OA->Nat->Nat->OA->Nat->Nat->BA->BA->BA->OA->Nat->Nat->OA->Nat->Nat->World->Prop,(∀ (lX:OA) (lY lZ:Nat),∀ (ma:OA) (mb mc:Nat),∀ md:BA,∀ me:BA,∀ mf:BA,∀ (mg:OA) (mh mi:Nat),∀ (mj:OA) (mk ml:Nat),∀ mm:World,
 ((lB (wr (lD+1)) lX lY lZ ma mb mc md me mf mg mh mi mj mk ml mm/\lC (wr (lD+1)) lX lY lZ ma mb mc md me mf mg mh mi mj mk ml mm<lC lD lE lF lG lH lI lJ lK lL lM lN lO lP lQ lS lU lV))->
 lW lX lY lZ ma mb mc md me mf mg mh mi mj mk ml mm)->
 Ix ly lD lz fun mn=>Ls lV (mn.add (lD.toNat*8)) fun mo=>Ls lV ((mn.add (lD.toNat*8)).add 1) fun mp=>Ls lV ((mn.add (lD.toNat*8)).add 2) fun mq=>Ll lV ((mn.add (lD.toNat*8)).add 3) fun mr ms mt=>Ll lV ((mn.add (lD.toNat*8)).add 4) fun mu mv mx=>Ll lV ((mn.add (lD.toNat*8)).add 5) fun my mz mA=>Ll lV ((mn.add (lD.toNat*8)).add 6) fun mB mC mD=>Ll lV ((mn.add (lD.toNat*8)).add 7) fun mE mF mG=>True/\True/\(let mI:=lV.alloc (.cells #[T9 mo,T9 mp,T9 mq,S9 mr ms mt,S9 mu mv mx,S9 my mz mA,S9 mB mC mD,S9 mE mF mG] 96);
 ∀ mJ:OA->Nat->Nat->OA->Nat->Nat->BA->BA->BA->OA->Nat->Nat->OA->Nat->Nat->World->Prop,(∀ (mK:OA) (mL mM:Nat),∀ (mN:OA) (mO mP:Nat),∀ mQ:BA,∀ mS:BA,∀ mU:BA,∀ (mV:OA) (mW mX:Nat),∀ (mY:OA) (mZ na:Nat),∀ nb:World,
 (Cl 59 #[P9 a,T9 mq] nb (fun nc nd ne nf=>(KeepT 26 nb nf/\KeepT 40 nb nf/\KeepT 96 nb nf/\True)/\(Br (decide ((nd:Int)>0)) (True/\True/\(let ng:=nf.alloc (.cells #[T9 mq,S9 nc nd ne] 99);
 ∃ nh ni nj,∃ nk,(Go.builtin .append #[38,38] 38 #[false,false] #[S9 mY mZ na,(S9 (some (adr nf.heap.size)) 1 1)]).run Tryz.prog ng=.ok (.value (S9 nh ni nj)) nk/\(KeepT 26 ng nk/\KeepT 40 ng nk/\KeepT 96 ng nk/\True)/\True/\(let nl:=setB nk (x.heap.size) [S9 mK mL mM,S9 mN mO mP,T9 mQ,T9 mS,T9 mU,S9 mV mW mX,S9 nh ni nj] 40;
 lW mK mL mM mN mO mP mQ mS mU mV mW mX nh ni nj nl))) (lW mK mL mM mN mO mP mQ mS mU mV mW mX mY mZ na nf))))->
 mJ mK mL mM mN mO mP mQ mS mU mV mW mX mY mZ na nb)->
 Cb 57 #[T9 mo] mI (fun nm nn=>(KeepT 26 mI nn/\KeepT 40 mI nn/\KeepT 96 mI nn/\True)/\(Br nm (∀ no,no=nn.drew->Cl 58 #[P9 a,T9 mq] no (fun np nq nr ns=>(KeepT 26 no ns/\KeepT 40 no ns/\KeepT 96 no ns/\True)/\((1=1)/\(2=2)/\True)/\True/\True/\(let nt:=ns.alloc (.cells #[T9 mq,S9 np nq nr] 99);
 ((2=2)/\True)/\∃ nu nv nx,∃ ny,(Go.builtin .append #[38,38] 38 #[false,false] #[S9 lN lO lP,(S9 (some (adr ns.heap.size)) 1 1)]).run Tryz.prog nt=.ok (.value (S9 nu nv nx)) ny/\(KeepT 26 nt ny/\KeepT 40 nt ny/\KeepT 96 nt ny/\True)/\True/\True/\(let nz:=setB ny (x.heap.size) [S9 lE lF lG,S9 lH lI lJ,T9 lK,T9 lL,T9 lM,S9 nu nv nx,S9 lQ lS lU] 40;
 True/\mJ lE lF lG lH lI lJ lK lL lM nu nv nx lQ lS lU nz)))) (mJ lE lF lG lH lI lJ lK lL lM lN lO lP lQ lS lU nn))))) (True/\(let nA:=setB lV (w.heap.size) [S9 lE lF lG,S9 lH lI lJ,T9 lK,T9 lL,T9 lM,S9 lN lO lP,S9 lQ lS lU] 40;
 R (R9 (.agg #[S9 lE lF lG,S9 lH lI lJ,T9 lK,T9 lL,T9 lM,S9 lN lO lP,S9 lQ lS lU])) nA))))))))))))))):CP 15 #[P9 a] w R:=
 vcq Tryz.func15 [2,3,4,6] [(10,⟨[(35,.int .i64)],[(2,[.slice,.slice,.str,.str,.str,.slice,.slice])]⟩),(17,⟨[],[(2,[.slice,.slice,.str,.str,.str,.slice,.slice])]⟩),(21,⟨[],[(2,[.slice,.slice,.str,.str,.str,.slice,.slice])]⟩)] [.l (.optr a)] h
end Go.VC
