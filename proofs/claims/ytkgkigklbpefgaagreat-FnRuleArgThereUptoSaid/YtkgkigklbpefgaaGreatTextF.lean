/- Part of the proof of a law of a rule over documents (TextF), where what the arguments hold is of bulk at most 1048576. -/
import Derived.Test.YtkgkigklbpefgaaGreatBaseB
set_option linter.unusedVariables false
namespace Go.VC
open Go Go.Proofs
set_option maxRecDepth 100000
theorem h_b (a:OA)(b:OA)(c d:Nat)(e:OA)(f g:Nat)(w:World)(R:EW)(h:
 True/\(let i:=w.alloc (.cells #[S9 b c d,S9 e f g] 30);
 ∃ (j:Int->World->Prop) (k:Int->World->Nat),j 0 i/\
 (∀ l:Int,∀ m:World,j l m->
 (Br (decide (l<(c:Int))) (Ix b l c fun n=>L_sslll m (n.add (l.toNat*5)) fun o p q r s t u v x y z=>True/\True/\(let B:=m.alloc (.cells #[T9 o,T9 p,S9 q r s,S9 t u v,S9 x y z] 51);
 Cs 59 #[P9 a,T9 o] B (fun C D=>(KeepT 30 B D/\KeepT 51 B D/\True)/\(Br (C.toList==(⟨#[]⟩:BA).toList) (R (R9 (.bool true)) D) ((j (wr (l+1)) D/\k (wr (l+1)) D<k l m)))))) (R (R9 (.bool false)) m))))):CP 49 #[P9 a,(.agg #[S9 b c d,S9 e f g])] w R:=
 vcq Tryz.func49 [3,6] [(6,⟨[(10,.int .i64)],[]⟩)] [.l (.optr a),.agg [.slice b c d,.slice e f g]] h
theorem g_y (a:OA)(b:OA)(c d:Nat)(e:OA)(f g:Nat)(w:World)(R:EW)(h:
 True/\(let i:=w.alloc (.cells #[S9 b c d,S9 e f g] 30);
 Cl 101 #[(.agg #[S9 b c d,S9 e f g])] i (fun j k l m=>(KeepT 30 i m/\True)/\∃ (n:Int->World->Prop) (o:Int->World->Nat),n 0 m/\
 (∀ p:Int,∀ q:World,n p q->
 (Br (decide (p<(k:Int))) (Ix j p k fun r=>Ls q (r.add (p.toNat*1)) fun s=>CP 73 #[P9 a,T9 s] q (fun t u=>∃ v,∃ x,∃ y,∃ z A B,∃ C D E,∃ F G H,∃ I J K,∃ L M N,∃ O,t=R9 (.tuple #[(.agg #[T9 v,T9 x,T9 y,S9 z A B,S9 C D E,S9 F G H,S9 I J K,S9 L M N]),.bool O])/\(KeepT 30 q u/\True)/\True/\True/\(let Q:=u.alloc (.cells #[T9 v,T9 x,T9 y,S9 z A B,S9 C D E,S9 F G H,S9 I J K,S9 L M N] 85);
 ∀ S:Bool->World->Prop,(∀ U:Bool,∀ V:World,
 ((Br U (R (R9 (.bool true)) V) ((n (wr (p+1)) V/\o (wr (p+1)) V<o p q))))->
 S U V)->
 (Br O (Cb 102 #[T9 v] Q (fun W X=>(KeepT 30 Q X/\KeepT 85 Q X/\True)/\S (!W) X)) (S false Q))))) (R (R9 (.bool false)) q)))))):CP 48 #[P9 a,(.agg #[S9 b c d,S9 e f g])] w R:=
 vcq Tryz.func48 [3,7] [(6,⟨[(12,.int .i64)],[]⟩),(19,⟨[(28,.bool)],[]⟩)] [.l (.optr a),.agg [.slice b c d,.slice e f g]] h
theorem e_d (a:OA)(b:OA)(c d:Nat)(e:OA)(f g:Nat)(w:World)(R:EW)(h:
 True/\(let i:=w.alloc (.cells #[S9 b c d,S9 e f g] 30);
 Cl 100 #[(.agg #[S9 b c d,S9 e f g])] i (fun j k l m=>(KeepT 30 i m/\True)/\∃ (n:Int->World->Prop) (o:Int->World->Nat),n 0 m/\
 (∀ p:Int,∀ q:World,n p q->
 (Br (decide (p<(k:Int))) (Ix j p k fun r=>Ls q (r.add (p.toNat*1)) fun s=>CP 73 #[P9 a,T9 s] q (fun t u=>∃ v,∃ x,∃ y,∃ z A B,∃ C D E,∃ F G H,∃ I J K,∃ L M N,∃ O,t=R9 (.tuple #[(.agg #[T9 v,T9 x,T9 y,S9 z A B,S9 C D E,S9 F G H,S9 I J K,S9 L M N]),.bool O])/\(KeepT 30 q u/\True)/\True/\True/\(let Q:=u.alloc (.cells #[T9 v,T9 x,T9 y,S9 z A B,S9 C D E,S9 F G H,S9 I J K,S9 L M N] 85);
 ∀ S:Bool->World->Prop,(∀ U:Bool,∀ V:World,
 ((Br U (R (R9 (.bool true)) V) ((n (wr (p+1)) V/\o (wr (p+1)) V<o p q))))->
 S U V)->
 (Br O (Cb 54 #[T9 v] Q (fun W X=>(KeepT 30 Q X/\KeepT 85 Q X/\True)/\S (!W) X)) (S false Q))))) (R (R9 (.bool false)) q)))))):CP 47 #[P9 a,(.agg #[S9 b c d,S9 e f g])] w R:=
 vcq Tryz.func47 [3,7] [(6,⟨[(12,.int .i64)],[]⟩),(19,⟨[(28,.bool)],[]⟩)] [.l (.optr a),.agg [.slice b c d,.slice e f g]] h
theorem h_c (a:OA)(b:OA)(c d:Nat)(e:OA)(f g:Nat)(w:World)(R:EW)(h:
 True/\(let i:=w.alloc (.cells #[S9 b c d,S9 e f g] 30);
 ∀ j,j=i.drew->Cl 100 #[(.agg #[S9 b c d,S9 e f g])] j (fun k l m n=>(KeepT 30 j n/\True)/\((0=0)/\True)/\Cl 101 #[(.agg #[S9 b c d,S9 e f g])] n (fun o p q r=>(KeepT 30 n r/\True)/\True/\∃ s t u,∃ v,(Go.builtin .append #[81,81] 81 #[false,false] #[S9 k l m,S9 o p q]).run Tryz.prog r=.ok (.value (S9 s t u)) v/\(KeepT 30 r v/\True)/\True/\∃ (x:Int->World->Prop) (y:Int->World->Nat),x 0 v/\
 (∀ z:Int,∀ A:World,x z A->
 (Br (decide (z<(t:Int))) (Ix s z t fun B=>Ls A (B.add (z.toNat*1)) fun C=>CP 73 #[P9 a,T9 C] A (fun D E=>∃ F,∃ G,∃ H,∃ I J K,∃ L M N,∃ O P Q,∃ S U V,∃ W X Y,∃ Z,D=R9 (.tuple #[(.agg #[T9 F,T9 G,T9 H,S9 I J K,S9 L M N,S9 O P Q,S9 S U V,S9 W X Y]),.bool Z])/\(KeepT 30 A E/\True)/\True/\True/\(let ab:=E.alloc (.cells #[T9 F,T9 G,T9 H,S9 I J K,S9 L M N,S9 O P Q,S9 S U V,S9 W X Y] 85);
 (Br (!Z) (R (R9 (.bool true)) ab) ((x (wr (z+1)) ab/\y (wr (z+1)) ab<y z A)))))) (R (R9 (.bool false)) A))))))):CP 46 #[P9 a,(.agg #[S9 b c d,S9 e f g])] w R:=
 vcq Tryz.func46 [3,7] [(6,⟨[(15,.int .i64)],[]⟩)] [.l (.optr a),.agg [.slice b c d,.slice e f g]] h
theorem j_A (a:OA)(b c:Nat)(d:OA)(e f:Nat)(w:World)(R:EW)(h:
 True/\(let g:=w.alloc (.cells #[S9 a b c,S9 d e f] 30);
 ∃ (i:OA->Nat->Nat->Int->World->Prop) (j:OA->Nat->Nat->Int->World->Nat),i none 0 0 0 g/\
 (∀ (k:OA) (l m:Nat),∀ n:Int,∀ o:World,i k l m n o->
 (Br (decide (n<(e:Int))) (Ix d n e fun p=>L_ssll o (p.add (n.toNat*4)) fun q r s t u v x y=>True/\True/\(let A:=o.alloc (.cells #[T9 q,T9 r,S9 s t u,S9 v x y] 63);
 True/\(let B:=A.alloc (.cells #[T9 q] 9);
 ∃ C D E,∃ F,(Go.builtin .append #[81,81] 81 #[false,false] #[S9 k l m,(S9 (some (adr A.heap.size)) 1 1)]).run Tryz.prog B=.ok (.value (S9 C D E)) F/\(KeepT 30 B F/\KeepT 63 B F/\True)/\(i C D E (wr (n+1)) F/\j C D E (wr (n+1)) F<j k l m n o)))) (Cb 78 #[S9 k l m] o (fun G H=>(KeepT 30 o H/\True)/\R (R9 (.bool G)) H)))))):CP 32 #[(.agg #[S9 a b c,S9 d e f])] w R:=
 vcq Tryz.func32 [1,5] [(8,⟨[(3,.slice),(9,.int .i64)],[]⟩)] [.agg [.slice a b c,.slice d e f]] h
theorem n_x (a:OA)(b c:Nat)(d:OA)(e f:Nat)(w:World)(R:EW)(h:
 True/\(let g:=w.alloc (.cells #[S9 a b c,S9 d e f] 30);
 Cl 103 #[(.agg #[S9 a b c,S9 d e f])] g (fun i j k l=>(KeepT 30 g l/\True)/\∃ (m:Int->World->Prop) (n:Int->World->Nat),m 0 l/\
 (∀ o:Int,∀ p:World,m o p->
 (Br (decide (o<(j:Int))) (Ix i o j fun q=>Ls p (q.add (o.toNat*1)) fun r=>CP 72 #[(.agg #[S9 a b c,S9 d e f]),T9 r] p (fun s t=>∃ u,∃ v,∃ x y z,∃ A B C,∃ D,s=R9 (.tuple #[(.agg #[T9 u,T9 v,S9 x y z,S9 A B C]),.bool D])/\(KeepT 30 p t/\True)/\True/\True/\(let F:=t.alloc (.cells #[T9 u,T9 v,S9 x y z,S9 A B C] 63);
 (Br (!D) (R (R9 (.bool true)) F) ((m (wr (o+1)) F/\n (wr (o+1)) F<n o p)))))) (R (R9 (.bool false)) p)))))):CP 50 #[(.agg #[S9 a b c,S9 d e f])] w R:=
 vcq Tryz.func50 [1,5] [(6,⟨[(10,.int .i64)],[]⟩)] [.agg [.slice a b c,.slice d e f]] h
theorem j_I (a:OA)(b c:Nat)(d:OA)(e f:Nat)(w:World)(R:EW)(h:
 True/\(let g:=w.alloc (.cells #[S9 a b c,S9 d e f] 30);
 ∃ (i:OA->Nat->Nat->Int->World->Prop) (j:OA->Nat->Nat->Int->World->Nat),i none 0 0 0 g/\
 (∀ (k:OA) (l m:Nat),∀ n:Int,∀ o:World,i k l m n o->
 (Br (decide (n<(b:Int))) (Ix a n b fun p=>L_sslll o (p.add (n.toNat*5)) fun q r s t u v x y z A B=>True/\True/\(let D:=o.alloc (.cells #[T9 q,T9 r,S9 s t u,S9 v x y,S9 z A B] 51);
 Cl 141 #[S9 z A B] D (fun E F G H=>(KeepT 30 D H/\KeepT 51 D H/\True)/\∃ I J K,∃ L,(Go.builtin .append #[81,81] 81 #[false,false] #[S9 k l m,S9 E F G]).run Tryz.prog H=.ok (.value (S9 I J K)) L/\(KeepT 30 H L/\KeepT 51 H L/\True)/\(i I J K (wr (n+1)) L/\j I J K (wr (n+1)) L<j k l m n o)))) (∃ (M:OA->Nat->Nat->Int->World->Prop) (N:OA->Nat->Nat->Int->World->Nat),M k l m 0 o/\
 (∀ (O:OA) (P Q:Nat),∀ S:Int,∀ U:World,M O P Q S U->
 (Br (decide (S<(e:Int))) (Ix d S e fun V=>L_ssll U (V.add (S.toNat*4)) fun W X Y Z aa ab ac ad=>True/\True/\(let af:=U.alloc (.cells #[T9 W,T9 X,S9 Y Z aa,S9 ab ac ad] 63);
 Cl 141 #[S9 ab ac ad] af (fun ag ah ai aj=>(KeepT 30 af aj/\KeepT 63 af aj/\True)/\∃ ak al am,∃ an,(Go.builtin .append #[81,81] 81 #[false,false] #[S9 O P Q,S9 ag ah ai]).run Tryz.prog aj=.ok (.value (S9 ak al am)) an/\(KeepT 30 aj an/\KeepT 63 aj an/\True)/\(M ak al am (wr (S+1)) an/\N ak al am (wr (S+1)) an<N O P Q S U)))) (R (R9 (S9 O P Q)) U)))))))):CP 103 #[(.agg #[S9 a b c,S9 d e f])] w R:=
 vcq Tryz.func103 [1,5,7] [(8,⟨[(3,.slice),(11,.int .i64)],[]⟩),(25,⟨[(3,.slice),(24,.int .i64)],[]⟩)] [.agg [.slice a b c,.slice d e f]] h
theorem o_3 (a:OA)(b c:Nat)(d:OA)(e f:Nat)(g:BA)(w:World)(R:EW)(h:
 True/\(let i:=w.alloc (.cells #[S9 a b c,S9 d e f] 30);
 True/\(let j:=i.alloc (.cells #[e0s,e0s,z0s,z0s] 63);
 ∃ (k:Int->BA->BA->OA->Nat->Nat->OA->Nat->Nat->World->Prop) (l:Int->BA->BA->OA->Nat->Nat->OA->Nat->Nat->World->Nat),k 0 (⟨#[]⟩:BA) (⟨#[]⟩:BA) none 0 0 none 0 0 j/\
 (∀ m:Int,∀ n:BA,∀ o:BA,∀ (p:OA) (q r:Nat),∀ (s:OA) (t u:Nat),∀ v:World,k m n o p q r s t u v->
 (Br (decide (m<(e:Int))) (Ix d m e fun x=>L_ssll v (x.add (m.toNat*4)) fun y z A B C D E F=>True/\True/\(let H:=v.alloc (.cells #[T9 y,T9 z,S9 A B C,S9 D E F] 63);
 (Br (y.toList==g.toList) (True/\(let I:=setB H (i.heap.size) [T9 y,T9 z,S9 A B C,S9 D E F] 63;
 R (R9 (.tuple #[(.agg #[T9 y,T9 z,S9 A B C,S9 D E F]),.bool true])) I)) ((k (wr (m+1)) n o p q r s t u H/\l (wr (m+1)) n o p q r s t u H<l m n o p q r s t u v))))) (True/\True/\(let J:=setB v (i.heap.size) [e0s,e0s,z0s,z0s] 63;
 R (R9 (.tuple #[(.agg #[e0s,e0s,z0s,z0s]),.bool false])) J))))))):CP 72 #[(.agg #[S9 a b c,S9 d e f]),T9 g] w R:=
 vcq Tryz.func72 [2,4,7] [(6,⟨[(11,.int .i64)],[(1,[.str,.str,.slice,.slice])]⟩)] [.agg [.slice a b c,.slice d e f],.l (.str g)] h
theorem m_W (a:OA)(b c:Nat)(w:World)(R:EW)(h:
 ∃ (d:OA->Nat->Nat->Int->World->Prop) (e:OA->Nat->Nat->Int->World->Nat),d none 0 0 0 w/\
 (∀ (f:OA) (g i:Nat),∀ j:Int,∀ k:World,d f g i j k->
 (Br (decide (j<(b:Int))) (Ix a j b fun l=>L_issslll k (l.add (j.toNat*7)) fun m n o p q r s t u v x y z=>True/\True/\(let B:=k.alloc (.cells #[N9 m,T9 n,T9 o,T9 p,S9 q r s,S9 t u v,S9 x y z] 67);
 ∀ C:OA->Nat->Nat->World->Prop,(∀ (D:OA) (E F:Nat),∀ G:World,
 (Cl 141 #[S9 x y z] G (fun H I J K=>(KeepT 67 G K/\True)/\∃ L M N,∃ O,(Go.builtin .append #[81,81] 81 #[false,false] #[S9 D E F,S9 H I J]).run Tryz.prog K=.ok (.value (S9 L M N)) O/\(KeepT 67 K O/\True)/\(d L M N (wr (j+1)) O/\e L M N (wr (j+1)) O<e f g i j k)))->
 C D E F G)->
 (Br (m==1) (True/\(let P:=B.alloc (.cells #[T9 o] 9);
 ∃ Q S U,∃ V,(Go.builtin .append #[81,81] 81 #[false,false] #[S9 f g i,(S9 (some (adr B.heap.size)) 1 1)]).run Tryz.prog P=.ok (.value (S9 Q S U)) V/\(KeepT 67 P V/\True)/\C Q S U V)) (C f g i B)))) (R (R9 (S9 f g i)) k)))):CP 141 #[S9 a b c] w R:=
 vcq Tryz.func141 [5] [(8,⟨[(3,.slice),(8,.int .i64)],[]⟩),(19,⟨[(3,.slice)],[]⟩)] [.l (.slice a b c)] h
set_option maxRecDepth 100000
theorem i_D (a:OA)(b:OA)(c d:Nat)(e:OA)(f g:Nat)(w:World)(R:EW)(h:
 True/\(let i:=w.alloc (.cells #[S9 b c d,S9 e f g] 30);
 ∀ j:Bool->World->Prop,(∀ k:Bool,∀ l:World,
 (R (R9 (.bool k)) l)->
 j k l)->
 Cb 46 #[P9 a,(.agg #[S9 b c d,S9 e f g])] i (fun m n=>(KeepT 30 i n/\True)/\(Br (!m) (Cb 47 #[P9 a,(.agg #[S9 b c d,S9 e f g])] n (fun o p=>(KeepT 30 n p/\True)/\(Br (!o) (Cb 48 #[P9 a,(.agg #[S9 b c d,S9 e f g])] p (fun q r=>(KeepT 30 p r/\True)/\(Br (!q) (Cb 49 #[P9 a,(.agg #[S9 b c d,S9 e f g])] r (fun s t=>(KeepT 30 r t/\True)/\(Br (!s) (Cb 32 #[(.agg #[S9 b c d,S9 e f g])] t (fun u v=>(KeepT 30 t v/\True)/\(Br (!u) (Cb 50 #[(.agg #[S9 b c d,S9 e f g])] v (fun x y=>(KeepT 30 v y/\True)/\(Br (!x) (Cb 34 #[(.agg #[S9 b c d,S9 e f g])] y (fun z A=>(KeepT 30 y A/\True)/\j (!z) A)) (j false y)))) (j false v)))) (j false t)))) (j false r)))) (j false p)))) (j false n))))):CP 15 #[P9 a,(.agg #[S9 b c d,S9 e f g])] w R:=
 vcq Tryz.func15 [3] [(2,⟨[(4,.bool)],[]⟩)] [.l (.optr a),.agg [.slice b c d,.slice e f g]] h
theorem m_R (a:OA)(b c:Nat)(d:OA)(e f:Nat)(g:OA)(i j:Nat)(w:World)(R:EW)(h:
 True/\(let k:=w.alloc (.cells #[S9 a b c,S9 d e f] 30);
 Cl 141 #[S9 g i j] k (fun l m n o=>(KeepT 30 k o/\True)/\∃ (p:OA->Nat->Nat->OA->Nat->Nat->World->Prop) (q:OA->Nat->Nat->OA->Nat->Nat->World->Nat),p none 0 0 l m n o/\
 (∀ (r:OA) (s t:Nat),∀ (u:OA) (v x:Nat),∀ y:World,p r s t u v x y->
 (Br (decide ((v:Int)>0)) (Ix u 0 v fun z=>Ls y (z.add ((0:Int).toNat*1)) fun A=>(0<=(1:Int)/\1<=(v:Int)/\(v:Int)<=(x:Int))/\CP 72 #[(.agg #[S9 a b c,S9 d e f]),T9 A] y (fun B C=>∃ D,∃ E,∃ F G H,∃ I J K,∃ L,B=R9 (.tuple #[(.agg #[T9 D,T9 E,S9 F G H,S9 I J K]),.bool L])/\(KeepT 30 y C/\True)/\True/\True/\(let N:=C.alloc (.cells #[T9 D,T9 E,S9 F G H,S9 I J K] 63);
 ∀ O:Bool->World->Prop,(∀ P:Bool,∀ Q:World,
 ((Br P (True/\(let S:=Q.alloc (.cells #[T9 A] 9);
 ∃ U V W,∃ X,(Go.builtin .append #[81,81] 81 #[false,false] #[S9 r s t,(S9 (some (adr Q.heap.size)) 1 1)]).run Tryz.prog S=.ok (.value (S9 U V W)) X/\(KeepT 30 S X/\KeepT 63 S X/\True)/\Cl 141 #[S9 I J K] X (fun Y Z aa ab=>(KeepT 30 X ab/\KeepT 63 X ab/\True)/\∃ ac ad ae,∃ af,(Go.builtin .append #[81,81] 81 #[false,false] #[(S9 (if x=(1:Int).toNat then u else Option.map (·.add ((1:Int).toNat*1)) u) ((v:Int).toNat-(1:Int).toNat) (x-(1:Int).toNat)),S9 Y Z aa]).run Tryz.prog ab=.ok (.value (S9 ac ad ae)) af/\(KeepT 30 ab af/\KeepT 63 ab af/\True)/\(p U V W ac ad ae af/\q U V W ac ad ae af<q r s t u v x y)))) ((p r s t (if x=(1:Int).toNat then u else Option.map (·.add ((1:Int).toNat*1)) u) ((v:Int).toNat-(1:Int).toNat) (x-(1:Int).toNat) Q/\q r s t (if x=(1:Int).toNat then u else Option.map (·.add ((1:Int).toNat*1)) u) ((v:Int).toNat-(1:Int).toNat) (x-(1:Int).toNat) Q<q r s t u v x y))))->
 O P Q)->
 (Br L (Cb 68 #[T9 A,S9 r s t] N (fun ag ah=>(KeepT 30 N ah/\KeepT 63 N ah/\True)/\O (!ag) ah)) (O false N))))) (R (R9 (S9 r s t)) y)))))):CP 81 #[(.agg #[S9 a b c,S9 d e f]),S9 g i j] w R:=
 vcq Tryz.func81 [2,8] [(8,⟨[(5,.slice),(6,.slice)],[]⟩),(22,⟨[(32,.bool)],[]⟩)] [.agg [.slice a b c,.slice d e f],.l (.slice g i j)] h
theorem k_q (a:OA)(b c:Nat)(d:OA)(e f:Nat)(w:World)(R:EW)(h:
 True/\(let g:=w.alloc (.cells #[S9 a b c,S9 d e f] 30);
 ∃ (i:Int->World->Prop) (j:Int->World->Nat),i 0 g/\
 (∀ k:Int,∀ l:World,i k l->
 (Br (decide (k<(e:Int))) (Ix d k e fun m=>L_ssll l (m.add (k.toNat*4)) fun n o p q r s t u=>True/\True/\(let x:=l.alloc (.cells #[T9 n,T9 o,S9 p q r,S9 s t u] 63);
 ∀ y,y=x.drew->Cl 81 #[(.agg #[S9 a b c,S9 d e f]),S9 s t u] y (fun z A B C=>(KeepT 30 y C/\KeepT 63 y C/\True)/\((1=1)/\True)/\Cb 68 #[T9 n,S9 z A B] C (fun D E=>(KeepT 30 C E/\KeepT 63 C E/\True)/\True/\(Br D (R (R9 (.bool true)) E) ((i (wr (k+1)) E/\j (wr (k+1)) E<j k l))))))) (R (R9 (.bool false)) l))))):CP 34 #[(.agg #[S9 a b c,S9 d e f])] w R:=
 vcq Tryz.func34 [1,4] [(6,⟨[(8,.int .i64)],[]⟩)] [.agg [.slice a b c,.slice d e f]] h
set_option maxRecDepth 100000
theorem o_C (a:OA)(b c:Nat)(w:World)(R:EW)(h:
 ∃ (d:Int->World->Prop) (e:Int->World->Nat),d 0 w/\
 (∀ f:Int,∀ g:World,d f g->
 (Br (decide (f<(b:Int))) (Ix a f b fun i=>Ls g (i.add (f.toNat*1)) fun j=>∀ k:Bool->World->Prop,(∀ l:Bool,∀ m:World,
 ((Br l (R (R9 (.bool true)) m) ((d (wr (f+1)) m/\e (wr (f+1)) m<e f g))))->
 k l m)->
 (Br (!(j.toList==(⟨#[]⟩:BA).toList)) ((0<=(0:Int)/\(0:Int)<=f/\f<=(c:Int))/\Cb 68 #[T9 j,(S9 (if c=(0:Int).toNat then a else Option.map (·.add ((0:Int).toNat*1)) a) (f.toNat-(0:Int).toNat) (c-(0:Int).toNat))] g (fun n o=>True/\k n o)) (k false g))) (R (R9 (.bool false)) g)))):CP 78 #[S9 a b c] w R:=
 vcq Tryz.func78 [] [(6,⟨[(7,.int .i64)],[]⟩),(17,⟨[(20,.bool)],[]⟩)] [.l (.slice a b c)] h
set_option maxRecDepth 100000
theorem j_J (a:OA)(b c:Nat)(d:OA)(e f:Nat)(w:World)(R:EW)(h:
 True/\(let g:=w.alloc (.cells #[S9 a b c,S9 d e f] 30);
 ∃ (i:OA->Nat->Nat->Int->World->Prop) (j:OA->Nat->Nat->Int->World->Nat),i none 0 0 0 g/\
 (∀ (k:OA) (l m:Nat),∀ n:Int,∀ o:World,i k l m n o->
 (Br (decide (n<(e:Int))) (Ix d n e fun p=>L_ssll o (p.add (n.toNat*4)) fun q r s t u v x y=>True/\True/\(let A:=o.alloc (.cells #[T9 q,T9 r,S9 s t u,S9 v x y] 63);
 True/\(let B:=A.alloc (.cells #[T9 r] 9);
 ∃ C D E,∃ F,(Go.builtin .append #[81,81] 81 #[false,false] #[S9 k l m,(S9 (some (adr A.heap.size)) 1 1)]).run Tryz.prog B=.ok (.value (S9 C D E)) F/\(KeepT 30 B F/\KeepT 63 B F/\True)/\Cl 165 #[S9 v x y] F (fun G H I J=>(KeepT 30 F J/\KeepT 63 F J/\True)/\∃ K L M,∃ N,(Go.builtin .append #[81,81] 81 #[false,false] #[S9 C D E,S9 G H I]).run Tryz.prog J=.ok (.value (S9 K L M)) N/\(KeepT 30 J N/\KeepT 63 J N/\True)/\(i K L M (wr (n+1)) N/\j K L M (wr (n+1)) N<j k l m n o))))) (∃ (O:OA->Nat->Nat->Int->World->Prop) (P:OA->Nat->Nat->Int->World->Nat),O k l m 0 o/\
 (∀ (Q:OA) (S U:Nat),∀ V:Int,∀ W:World,O Q S U V W->
 (Br (decide (V<(b:Int))) (Ix a V b fun X=>L_sslll W (X.add (V.toNat*5)) fun Y Z aa ab ac ad ae af ag ah ai=>True/\True/\(let ak:=W.alloc (.cells #[T9 Y,T9 Z,S9 aa ab ac,S9 ad ae af,S9 ag ah ai] 51);
 Cl 165 #[S9 ag ah ai] ak (fun al am an ao=>(KeepT 30 ak ao/\KeepT 51 ak ao/\True)/\∃ ap aq ar,∃ au,(Go.builtin .append #[81,81] 81 #[false,false] #[S9 Q S U,S9 al am an]).run Tryz.prog ao=.ok (.value (S9 ap aq ar)) au/\(KeepT 30 ao au/\KeepT 51 ao au/\True)/\(O ap aq ar (wr (V+1)) au/\P ap aq ar (wr (V+1)) au<P Q S U V W)))) (R (R9 (S9 Q S U)) W)))))))):CP 100 #[(.agg #[S9 a b c,S9 d e f])] w R:=
 vcq Tryz.func100 [1,5,7] [(8,⟨[(3,.slice),(11,.int .i64)],[]⟩),(27,⟨[(3,.slice),(29,.int .i64)],[]⟩)] [.agg [.slice a b c,.slice d e f]] h
theorem h_h (a:OA)(b c:Nat)(w:World)(R:EW)(h:
 ∃ (d:OA->Nat->Nat->Int->World->Prop) (e:OA->Nat->Nat->Int->World->Nat),d none 0 0 0 w/\
 (∀ (f:OA) (g i:Nat),∀ j:Int,∀ k:World,d f g i j k->
 (Br (decide (j<(b:Int))) (Ix a j b fun l=>L_issslll k (l.add (j.toNat*7)) fun m n o p q r s t u v x y z=>True/\True/\(let B:=k.alloc (.cells #[N9 m,T9 n,T9 o,T9 p,S9 q r s,S9 t u v,S9 x y z] 67);
 ∀ C:OA->Nat->Nat->World->Prop,(∀ (D:OA) (E F:Nat),∀ G:World,
 (Cl 165 #[S9 x y z] G (fun H I J K=>(KeepT 67 G K/\True)/\∃ L M N,∃ O,(Go.builtin .append #[81,81] 81 #[false,false] #[S9 D E F,S9 H I J]).run Tryz.prog K=.ok (.value (S9 L M N)) O/\(KeepT 67 K O/\True)/\(d L M N (wr (j+1)) O/\e L M N (wr (j+1)) O<e f g i j k)))->
 C D E F G)->
 ∀ P:Bool->World->Prop,(∀ Q:Bool,∀ S:World,
 ((Br Q (True/\(let U:=S.alloc (.cells #[T9 p] 9);
 ∃ V W X,∃ Y,(Go.builtin .append #[81,81] 81 #[false,false] #[S9 f g i,(S9 (some (adr S.heap.size)) 1 1)]).run Tryz.prog U=.ok (.value (S9 V W X)) Y/\(KeepT 67 U Y/\True)/\C V W X Y)) (C f g i S)))->
 P Q S)->
 (Br (m==2) (P (!(p.toList==(⟨#[]⟩:BA).toList)) B) (P false B)))) (R (R9 (S9 f g i)) k)))):CP 165 #[S9 a b c] w R:=
 vcq Tryz.func165 [5] [(8,⟨[(3,.slice),(8,.int .i64)],[]⟩),(19,⟨[(3,.slice)],[]⟩),(20,⟨[(19,.bool)],[]⟩)] [.l (.slice a b c)] h
set_option maxRecDepth 100000
theorem l_R (a:OA)(b c:Nat)(d:OA)(e f:Nat)(w:World)(R:EW)(h:
 True/\(let g:=w.alloc (.cells #[S9 a b c,S9 d e f] 30);
 ∃ (i:OA->Nat->Nat->Int->World->Prop) (j:OA->Nat->Nat->Int->World->Nat),i none 0 0 0 g/\
 (∀ (k:OA) (l m:Nat),∀ n:Int,∀ o:World,i k l m n o->
 (Br (decide (n<(b:Int))) (Ix a n b fun p=>L_sslll o (p.add (n.toNat*5)) fun q r s t u v x y z A B=>True/\True/\(let D:=o.alloc (.cells #[T9 q,T9 r,S9 s t u,S9 v x y,S9 z A B] 51);
 ∃ (E:OA->Nat->Nat->Int->World->Prop) (F:OA->Nat->Nat->Int->World->Nat),E k l m 0 D/\
 (∀ (G:OA) (H I:Nat),∀ J:Int,∀ K:World,E G H I J K->
 (Br (decide (J<(t:Int))) (Ix s J t fun L=>Ls K (L.add (J.toNat*6)) fun M=>Ls K ((L.add (J.toNat*6)).add 1) fun N=>Ll K ((L.add (J.toNat*6)).add 2) fun O P Q=>Lb K ((L.add (J.toNat*6)).add 3) fun S=>Ll K ((L.add (J.toNat*6)).add 4) fun U V W=>Ll K ((L.add (J.toNat*6)).add 5) fun X Y Z=>True/\True/\(let ab:=K.alloc (.cells #[T9 M,T9 N,S9 O P Q,.bool S,S9 U V W,S9 X Y Z] 59);
 Cs 45 #[(.agg #[T9 N,S9 O P Q,.bool S])] ab (fun ac ad=>(KeepT 30 ab ad/\KeepT 51 ab ad/\KeepT 59 ab ad/\True)/\True/\(let ae:=ad.alloc (.cells #[T9 ac] 9);
 ∃ af ag ah,∃ ai,(Go.builtin .append #[81,81] 81 #[false,false] #[S9 G H I,(S9 (some (adr ad.heap.size)) 1 1)]).run Tryz.prog ae=.ok (.value (S9 af ag ah)) ai/\(KeepT 30 ae ai/\KeepT 51 ae ai/\KeepT 59 ae ai/\True)/\(E af ag ah (wr (J+1)) ai/\F af ag ah (wr (J+1)) ai<F G H I J K))))) ((i G H I (wr (n+1)) K/\j G H I (wr (n+1)) K<j k l m n o)))))) (R (R9 (S9 k l m)) o))))):CP 101 #[(.agg #[S9 a b c,S9 d e f])] w R:=
 vcq Tryz.func101 [1,5,7] [(8,⟨[(3,.slice),(11,.int .i64)],[]⟩),(22,⟨[(3,.slice),(18,.int .i64)],[]⟩)] [.agg [.slice a b c,.slice d e f]] h
set_option maxRecDepth 100000
theorem i_E (a:OA)(b:BA)(c:BA)(w:World)(R:EW)(h:
 True/\(let d:=w.alloc (.cells #[e0s,e0s,z0s,z0s,e0s,z0s,.bool false,z0s] 70);
 CP 73 #[P9 a,T9 b] d (fun e f=>∃ g,∃ i,∃ j,∃ k l m,∃ n o p,∃ q r s,∃ t u v,∃ x y z,∃ A,e=R9 (.tuple #[(.agg #[T9 g,T9 i,T9 j,S9 k l m,S9 n o p,S9 q r s,S9 t u v,S9 x y z]),.bool A])/\(KeepT 70 d f/\True)/\True/\True/\(let C:=f.alloc (.cells #[T9 g,T9 i,T9 j,S9 k l m,S9 n o p,S9 q r s,S9 t u v,S9 x y z] 85);
 ∀ D:Bool->World->Prop,(∀ E:Bool,∀ F:World,
 ((Br E (True/\True/\True/\(let G:=setB F (w.heap.size) [e0s,T9 c,z0s,z0s,(T9 (⟨#[83,116,114,105,110,103]⟩:BA)),z0s,.bool true,z0s] 70;
 R (R9 (.tuple #[(.agg #[e0s,T9 c,z0s,z0s,(T9 (⟨#[83,116,114,105,110,103]⟩:BA)),z0s,.bool true,z0s]),.bool true])) G)) (∀ H:BA->BA->OA->Nat->Nat->OA->Nat->Nat->BA->OA->Nat->Nat->Bool->OA->Nat->Nat->World->Prop,(∀ I:BA,∀ J:BA,∀ (K:OA) (L M:Nat),∀ (N:OA) (O P:Nat),∀ Q:BA,∀ (S:OA) (U V:Nat),∀ W:Bool,∀ (X:OA) (Y Z:Nat),∀ aa:World,
 (True/\True/\(let ab:=setB aa (w.heap.size) [e0s,e0s,z0s,z0s,e0s,z0s,.bool false,z0s] 70;
 R (R9 (.tuple #[(.agg #[e0s,e0s,z0s,z0s,e0s,z0s,.bool false,z0s]),.bool false])) ab))->
 H I J K L M N O P Q S U V W X Y Z aa)->
 ∀ ac:Bool->World->Prop,(∀ ad:Bool,∀ ae:World,
 ((Br ad (∃ (af:Int->BA->BA->OA->Nat->Nat->OA->Nat->Nat->BA->OA->Nat->Nat->Bool->OA->Nat->Nat->World->Prop) (ag:Int->BA->BA->OA->Nat->Nat->OA->Nat->Nat->BA->OA->Nat->Nat->Bool->OA->Nat->Nat->World->Nat),af 0 (⟨#[]⟩:BA) (⟨#[]⟩:BA) none 0 0 none 0 0 (⟨#[]⟩:BA) none 0 0 false none 0 0 ae/\
 (∀ ah:Int,∀ ai:BA,∀ aj:BA,∀ (ak:OA) (al am:Nat),∀ (an:OA) (ao ap:Nat),∀ aq:BA,∀ (ar:OA) (au av:Nat),∀ ax:Bool,∀ (ay:OA) (az aA:Nat),∀ aB:World,af ah ai aj ak al am an ao ap aq ar au av ax ay az aA aB->
 (Br (decide (ah<(r:Int))) (Ix q ah r fun aC=>L_ssllslbl aB (aC.add (ah.toNat*8)) fun aD aE aF aG aH aI aJ aK aL aM aN aO aP aQ aS aU=>True/\True/\(let aW:=aB.alloc (.cells #[T9 aD,T9 aE,S9 aF aG aH,S9 aI aJ aK,T9 aL,S9 aM aN aO,.bool aP,S9 aQ aS aU] 70);
 (Br (aE.toList==c.toList) (True/\(let aX:=setB aW (w.heap.size) [T9 aD,T9 aE,S9 aF aG aH,S9 aI aJ aK,T9 aL,S9 aM aN aO,.bool aP,S9 aQ aS aU] 70;
 R (R9 (.tuple #[(.agg #[T9 aD,T9 aE,S9 aF aG aH,S9 aI aJ aK,T9 aL,S9 aM aN aO,.bool aP,S9 aQ aS aU]),.bool true])) aX)) ((af (wr (ah+1)) ai aj ak al am an ao ap aq ar au av ax ay az aA aW/\ag (wr (ah+1)) ai aj ak al am an ao ap aq ar au av ax ay az aA aW<ag ah ai aj ak al am an ao ap aq ar au av ax ay az aA aB))))) (H ai aj ak al am an ao ap aq ar au av ax ay az aA aB)))) (H (⟨#[]⟩:BA) (⟨#[]⟩:BA) none 0 0 none 0 0 (⟨#[]⟩:BA) none 0 0 false none 0 0 ae)))->
 ac ad ae)->
 (Nr (g.toList==(⟨#[79,66,74,69,67,84]⟩:BA).toList) (ac (g.toList==(⟨#[73,78,84,69,82,70,65,67,69]⟩:BA).toList) F) (ac true F)))))->
 D E F)->
 (Br (c.toList==(⟨#[95,95,116,121,112,101,110,97,109,101]⟩:BA).toList) (Cb 54 #[T9 g] C (fun aY aZ=>(KeepT 70 C aZ/\KeepT 85 C aZ/\True)/\D aY aZ)) (D false C)))))):CP 53 #[P9 a,T9 b,T9 c] w R:=
 vcq Tryz.func53 [6,8,11] [(5,⟨[(24,.bool)],[]⟩),(12,⟨[],[(0,[.str,.str,.slice,.slice,.str,.slice,.bool,.slice])]⟩),(13,⟨[(35,.bool)],[]⟩),(19,⟨[(39,.int .i64)],[(0,[.str,.str,.slice,.slice,.str,.slice,.bool,.slice])]⟩)] [.l (.optr a),.l (.str b),.l (.str c)] h
theorem j_H (a:OA)(b:OA)(c d:Nat)(e:BA)(f:Value)(w:World)(R:EW)(h:
 ∃ (g:Int->World->Prop) (i:Int->World->Nat),g 0 w/\
 (∀ j:Int,∀ k:World,g j k->
 (Br (decide (j<(c:Int))) (∀ l:World->Prop,(∀ m:World,
 ((g (wr (j+1)) m/\i (wr (j+1)) m<i j k))->
 l m)->
 Ix b j c fun n=>L_issslll k (n.add (j.toNat*7)) fun o p q r s t u v x y z A B=>True/\True/\(let D:=k.alloc (.cells #[N9 o,T9 p,T9 q,T9 r,S9 s t u,S9 v x y,S9 z A B] 67);
 ∃ E F,f=.func (.func E) #[] F.toArray/\∃ G,Tryz.prog.funcs[E]? =some G/\(G.name== "runtime.NumGoroutine" ||G.body.isNone)=false/\CP E ([(.agg #[N9 o,T9 p,T9 q,T9 r,S9 s t u,S9 v x y,S9 z A B]),T9 e]++F).toArray D (fun H I=>H=R9 (.tuple #[])/\(KeepT 67 D I/\True)/\(Br (o==0) (CP 53 #[P9 a,T9 e,T9 q] I (fun J K=>∃ L,∃ M,∃ N O P,∃ Q S U,∃ V,∃ W X Y,∃ Z,∃ aa ab ac,∃ ad,J=R9 (.tuple #[(.agg #[T9 L,T9 M,S9 N O P,S9 Q S U,T9 V,S9 W X Y,.bool Z,S9 aa ab ac]),.bool ad])/\(KeepT 67 I K/\True)/\True/\True/\(let af:=K.alloc (.cells #[T9 L,T9 M,S9 N O P,S9 Q S U,T9 V,S9 W X Y,.bool Z,S9 aa ab ac] 70);
 ∀ ag,ag=af.drew->Cs 45 #[(.agg #[T9 V,S9 W X Y,.bool Z])] ag (fun ah ai=>(KeepT 67 ag ai/\KeepT 70 ag ai/\True)/\((1=1)/\True)/\C0 104 #[P9 a,S9 z A B,T9 ah,f] ai (fun aj=>(KeepT 67 ai aj/\KeepT 70 ai aj/\True)/\True/\l aj))))) ((Br (o==2) ((Br (!(r.toList==(⟨#[]⟩:BA).toList)) (C0 104 #[P9 a,S9 z A B,T9 r,f] I (fun ak=>(KeepT 67 I ak/\True)/\l ak)) (C0 104 #[P9 a,S9 z A B,T9 e,f] I (fun al=>(KeepT 67 I al/\True)/\l al)))) (l I))))))) (R (R9 (.tuple #[])) k)))):CP 104 #[P9 a,S9 b c d,T9 e,f] w R:=
 vcq Tryz.func104 [9,10] [(3,⟨[(14,.int .i64)],[]⟩),(10,⟨[],[]⟩)] [.l (.optr a),.l (.slice b c d),.l (.str e),.l (.val f)] h
theorem k_r (a:OA)(b:OA)(c d:Nat)(e:OA)(f g:Nat)(i:Value)(w:World)(R:EW)(h:
 True/\(let j:=w.alloc (.cells #[S9 b c d,S9 e f g] 30);
 ∃ (k:Int->World->Prop) (l:Int->World->Nat),k 0 j/\
 (∀ m:Int,∀ n:World,k m n->
 (Br (decide (m<(c:Int))) (Ix b m c fun o=>L_sslll n (o.add (m.toNat*5)) fun p q r s t u v x y z A=>True/\True/\(let C:=n.alloc (.cells #[T9 p,T9 q,S9 r s t,S9 u v x,S9 y z A] 51);
 ∀ D,D=C.drew->Cs 59 #[P9 a,T9 p] D (fun E F=>(KeepT 30 D F/\KeepT 51 D F/\True)/\((1=1)/\True)/\C0 104 #[P9 a,S9 y z A,T9 E,i] F (fun G=>(KeepT 30 F G/\KeepT 51 F G/\True)/\True/\(k (wr (m+1)) G/\l (wr (m+1)) G<l m n))))) (∃ (H:Int->World->Prop) (I:Int->World->Nat),H 0 n/\
 (∀ J:Int,∀ K:World,H J K->
 (Br (decide (J<(f:Int))) (Ix e J f fun L=>L_ssll K (L.add (J.toNat*4)) fun M N O P Q S U V=>True/\True/\(let X:=K.alloc (.cells #[T9 M,T9 N,S9 O P Q,S9 S U V] 63);
 C0 104 #[P9 a,S9 S U V,T9 N,i] X (fun Y=>(KeepT 30 X Y/\KeepT 63 X Y/\True)/\(H (wr (J+1)) Y/\I (wr (J+1)) Y<I J K)))) (R (R9 (.tuple #[])) K)))))))):CP 51 #[P9 a,(.agg #[S9 b c d,S9 e f g]),i] w R:=
 vcq Tryz.func51 [4,7,9] [(6,⟨[(13,.int .i64)],[]⟩),(22,⟨[(30,.int .i64)],[]⟩)] [.l (.optr a),.agg [.slice b c d,.slice e f g],.l (.val i)] h
end Go.VC
