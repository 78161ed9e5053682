/- Part of the proof of a law of a rule over documents (TextF), where what the arguments hold is of bulk at most 1048576. -/
import Derived.Test.YtmnhdjhlcgfpkaaGreatBaseB
set_option linter.unusedVariables false
namespace Go.VC
open Go Go.Proofs
set_option maxRecDepth 100000
theorem j_A (a:OA)(b c:Nat)(d:OA)(e f:Nat)(w:World)(R:EW)(h:
 True/\(let g:=w.alloc (.cells #[S9 a b c,S9 d e f] 30);
 ∃ (i:OA->Nat->Nat->Int->World->Prop) (j:OA->Nat->Nat->Int->World->Nat),i none 0 0 0 g/\
 (∀ (k:OA) (l m:Nat),∀ n:Int,∀ o:World,i k l m n o->
 (Br (decide (n<(e:Int))) (Ix d n e fun p=>L_ssll o (p.add (n.toNat*4)) fun q r s t u v x y=>True/\True/\(let A:=o.alloc (.cells #[T9 q,T9 r,S9 s t u,S9 v x y] 70);
 True/\(let B:=A.alloc (.cells #[T9 q] 9);
 ∃ C D E,∃ F,(Go.builtin .append #[71,71] 71 #[false,false] #[S9 k l m,(S9 (some (adr A.heap.size)) 1 1)]).run Tryz.prog B=.ok (.value (S9 C D E)) F/\(KeepT 30 B F/\KeepT 70 B F/\True)/\(i C D E (wr (n+1)) F/\j C D E (wr (n+1)) F<j k l m n o)))) (Cb 73 #[S9 k l m] o (fun G H=>(KeepT 30 o H/\True)/\R (R9 (.bool G)) H)))))):CP 36 #[(.agg #[S9 a b c,S9 d e f])] w R:=
 vcq Tryz.func36 [1,5] [(8,⟨[(3,.slice),(9,.int .i64)],[]⟩)] [.agg [.slice a b c,.slice d e f]] h
theorem n_x (a:OA)(b c:Nat)(d:OA)(e f:Nat)(w:World)(R:EW)(h:
 True/\(let g:=w.alloc (.cells #[S9 a b c,S9 d e f] 30);
 Cl 103 #[(.agg #[S9 a b c,S9 d e f])] g (fun i j k l=>(KeepT 30 g l/\True)/\∃ (m:Int->World->Prop) (n:Int->World->Nat),m 0 l/\
 (∀ o:Int,∀ p:World,m o p->
 (Br (decide (o<(j:Int))) (Ix i o j fun q=>Ls p (q.add (o.toNat*1)) fun r=>CP 95 #[(.agg #[S9 a b c,S9 d e f]),T9 r] p (fun s t=>∃ u,∃ v,∃ x y z,∃ A B C,∃ D,s=R9 (.tuple #[(.agg #[T9 u,T9 v,S9 x y z,S9 A B C]),.bool D])/\(KeepT 30 p t/\True)/\True/\True/\(let F:=t.alloc (.cells #[T9 u,T9 v,S9 x y z,S9 A B C] 70);
 (Br (!D) (R (R9 (.bool true)) F) ((m (wr (o+1)) F/\n (wr (o+1)) F<n o p)))))) (R (R9 (.bool false)) p)))))):CP 38 #[(.agg #[S9 a b c,S9 d e f])] w R:=
 vcq Tryz.func38 [1,5] [(6,⟨[(10,.int .i64)],[]⟩)] [.agg [.slice a b c,.slice d e f]] h
theorem j_I (a:OA)(b c:Nat)(d:OA)(e f:Nat)(w:World)(R:EW)(h:
 True/\(let g:=w.alloc (.cells #[S9 a b c,S9 d e f] 30);
 ∃ (i:OA->Nat->Nat->Int->World->Prop) (j:OA->Nat->Nat->Int->World->Nat),i none 0 0 0 g/\
 (∀ (k:OA) (l m:Nat),∀ n:Int,∀ o:World,i k l m n o->
 (Br (decide (n<(b:Int))) (Ix a n b fun p=>L_sslll o (p.add (n.toNat*5)) fun q r s t u v x y z A B=>True/\True/\(let D:=o.alloc (.cells #[T9 q,T9 r,S9 s t u,S9 v x y,S9 z A B] 58);
 Cl 157 #[S9 z A B] D (fun E F G H=>(KeepT 30 D H/\KeepT 58 D H/\True)/\∃ I J K,∃ L,(Go.builtin .append #[71,71] 71 #[false,false] #[S9 k l m,S9 E F G]).run Tryz.prog H=.ok (.value (S9 I J K)) L/\(KeepT 30 H L/\KeepT 58 H L/\True)/\(i I J K (wr (n+1)) L/\j I J K (wr (n+1)) L<j k l m n o)))) (∃ (M:OA->Nat->Nat->Int->World->Prop) (N:OA->Nat->Nat->Int->World->Nat),M k l m 0 o/\
 (∀ (O:OA) (P Q:Nat),∀ S:Int,∀ U:World,M O P Q S U->
 (Br (decide (S<(e:Int))) (Ix d S e fun V=>L_ssll U (V.add (S.toNat*4)) fun W X Y Z aa ab ac ad=>True/\True/\(let af:=U.alloc (.cells #[T9 W,T9 X,S9 Y Z aa,S9 ab ac ad] 70);
 Cl 157 #[S9 ab ac ad] af (fun ag ah ai aj=>(KeepT 30 af aj/\KeepT 70 af aj/\True)/\∃ ak al am,∃ an,(Go.builtin .append #[71,71] 71 #[false,false] #[S9 O P Q,S9 ag ah ai]).run Tryz.prog aj=.ok (.value (S9 ak al am)) an/\(KeepT 30 aj an/\KeepT 70 aj an/\True)/\(M ak al am (wr (S+1)) an/\N ak al am (wr (S+1)) an<N O P Q S U)))) (R (R9 (S9 O P Q)) U)))))))):CP 103 #[(.agg #[S9 a b c,S9 d e f])] w R:=
 vcq Tryz.func103 [1,5,7] [(8,⟨[(3,.slice),(11,.int .i64)],[]⟩),(25,⟨[(3,.slice),(24,.int .i64)],[]⟩)] [.agg [.slice a b c,.slice d e f]] h
theorem o_3 (a:OA)(b c:Nat)(d:OA)(e f:Nat)(g:BA)(w:World)(R:EW)(h:
 True/\(let i:=w.alloc (.cells #[S9 a b c,S9 d e f] 30);
 True/\(let j:=i.alloc (.cells #[e0s,e0s,z0s,z0s] 70);
 ∃ (k:Int->BA->BA->OA->Nat->Nat->OA->Nat->Nat->World->Prop) (l:Int->BA->BA->OA->Nat->Nat->OA->Nat->Nat->World->Nat),k 0 (⟨#[]⟩:BA) (⟨#[]⟩:BA) none 0 0 none 0 0 j/\
 (∀ m:Int,∀ n:BA,∀ o:BA,∀ (p:OA) (q r:Nat),∀ (s:OA) (t u:Nat),∀ v:World,k m n o p q r s t u v->
 (Br (decide (m<(e:Int))) (Ix d m e fun x=>L_ssll v (x.add (m.toNat*4)) fun y z A B C D E F=>True/\True/\(let H:=v.alloc (.cells #[T9 y,T9 z,S9 A B C,S9 D E F] 70);
 (Br (y.toList==g.toList) (True/\(let I:=setB H (i.heap.size) [T9 y,T9 z,S9 A B C,S9 D E F] 70;
 R (R9 (.tuple #[(.agg #[T9 y,T9 z,S9 A B C,S9 D E F]),.bool true])) I)) ((k (wr (m+1)) n o p q r s t u H/\l (wr (m+1)) n o p q r s t u H<l m n o p q r s t u v))))) (True/\True/\(let J:=setB v (i.heap.size) [e0s,e0s,z0s,z0s] 70;
 R (R9 (.tuple #[(.agg #[e0s,e0s,z0s,z0s]),.bool false])) J))))))):CP 95 #[(.agg #[S9 a b c,S9 d e f]),T9 g] w R:=
 vcq Tryz.func95 [2,4,7] [(6,⟨[(11,.int .i64)],[(1,[.str,.str,.slice,.slice])]⟩)] [.agg [.slice a b c,.slice d e f],.l (.str g)] h
theorem m_W (a:OA)(b c:Nat)(w:World)(R:EW)(h:
 ∃ (d:OA->Nat->Nat->Int->World->Prop) (e:OA->Nat->Nat->Int->World->Nat),d none 0 0 0 w/\
 (∀ (f:OA) (g i:Nat),∀ j:Int,∀ k:World,d f g i j k->
 (Br (decide (j<(b:Int))) (Ix a j b fun l=>L_issslll k (l.add (j.toNat*7)) fun m n o p q r s t u v x y z=>True/\True/\(let B:=k.alloc (.cells #[N9 m,T9 n,T9 o,T9 p,S9 q r s,S9 t u v,S9 x y z] 78);
 ∀ C:OA->Nat->Nat->World->Prop,(∀ (D:OA) (E F:Nat),∀ G:World,
 (Cl 157 #[S9 x y z] G (fun H I J K=>(KeepT 78 G K/\True)/\∃ L M N,∃ O,(Go.builtin .append #[71,71] 71 #[false,false] #[S9 D E F,S9 H I J]).run Tryz.prog K=.ok (.value (S9 L M N)) O/\(KeepT 78 K O/\True)/\(d L M N (wr (j+1)) O/\e L M N (wr (j+1)) O<e f g i j k)))->
 C D E F G)->
 (Br (m==1) (True/\(let P:=B.alloc (.cells #[T9 o] 9);
 ∃ Q S U,∃ V,(Go.builtin .append #[71,71] 71 #[false,false] #[S9 f g i,(S9 (some (adr B.heap.size)) 1 1)]).run Tryz.prog P=.ok (.value (S9 Q S U)) V/\(KeepT 78 P V/\True)/\C Q S U V)) (C f g i B)))) (R (R9 (S9 f g i)) k)))):CP 157 #[S9 a b c] w R:=
 vcq Tryz.func157 [5] [(8,⟨[(3,.slice),(8,.int .i64)],[]⟩),(19,⟨[(3,.slice)],[]⟩)] [.l (.slice a b c)] h
set_option maxRecDepth 100000
theorem m_R (a:OA)(b c:Nat)(d:OA)(e f:Nat)(g:OA)(i j:Nat)(w:World)(R:EW)(h:
 True/\(let k:=w.alloc (.cells #[S9 a b c,S9 d e f] 30);
 Cl 157 #[S9 g i j] k (fun l m n o=>(KeepT 30 k o/\True)/\∃ (p:OA->Nat->Nat->OA->Nat->Nat->World->Prop) (q:OA->Nat->Nat->OA->Nat->Nat->World->Nat),p none 0 0 l m n o/\
 (∀ (r:OA) (s t:Nat),∀ (u:OA) (v x:Nat),∀ y:World,p r s t u v x y->
 (Br (decide ((v:Int)>0)) (Ix u 0 v fun z=>Ls y (z.add ((0:Int).toNat*1)) fun A=>(0<=(1:Int)/\1<=(v:Int)/\(v:Int)<=(x:Int))/\CP 95 #[(.agg #[S9 a b c,S9 d e f]),T9 A] y (fun B C=>∃ D,∃ E,∃ F G H,∃ I J K,∃ L,B=R9 (.tuple #[(.agg #[T9 D,T9 E,S9 F G H,S9 I J K]),.bool L])/\(KeepT 30 y C/\True)/\True/\True/\(let N:=C.alloc (.cells #[T9 D,T9 E,S9 F G H,S9 I J K] 70);
 ∀ O:Bool->World->Prop,(∀ P:Bool,∀ Q:World,
 ((Br P (True/\(let S:=Q.alloc (.cells #[T9 A] 9);
 ∃ U V W,∃ X,(Go.builtin .append #[71,71] 71 #[false,false] #[S9 r s t,(S9 (some (adr Q.heap.size)) 1 1)]).run Tryz.prog S=.ok (.value (S9 U V W)) X/\(KeepT 30 S X/\KeepT 70 S X/\True)/\Cl 157 #[S9 I J K] X (fun Y Z aa ab=>(KeepT 30 X ab/\KeepT 70 X ab/\True)/\∃ ac ad ae,∃ af,(Go.builtin .append #[71,71] 71 #[false,false] #[(S9 (if x=(1:Int).toNat then u else Option.map (·.add ((1:Int).toNat*1)) u) ((v:Int).toNat-(1:Int).toNat) (x-(1:Int).toNat)),S9 Y Z aa]).run Tryz.prog ab=.ok (.value (S9 ac ad ae)) af/\(KeepT 30 ab af/\KeepT 70 ab af/\True)/\(p U V W ac ad ae af/\q U V W ac ad ae af<q r s t u v x y)))) ((p r s t (if x=(1:Int).toNat then u else Option.map (·.add ((1:Int).toNat*1)) u) ((v:Int).toNat-(1:Int).toNat) (x-(1:Int).toNat) Q/\q r s t (if x=(1:Int).toNat then u else Option.map (·.add ((1:Int).toNat*1)) u) ((v:Int).toNat-(1:Int).toNat) (x-(1:Int).toNat) Q<q r s t u v x y))))->
 O P Q)->
 (Br L (Cb 60 #[T9 A,S9 r s t] N (fun ag ah=>(KeepT 30 N ah/\KeepT 70 N ah/\True)/\O (!ag) ah)) (O false N))))) (R (R9 (S9 r s t)) y)))))):CP 102 #[(.agg #[S9 a b c,S9 d e f]),S9 g i j] w R:=
 vcq Tryz.func102 [2,8] [(8,⟨[(5,.slice),(6,.slice)],[]⟩),(22,⟨[(32,.bool)],[]⟩)] [.agg [.slice a b c,.slice d e f],.l (.slice g i j)] h
theorem k_q (a:OA)(b c:Nat)(d:OA)(e f:Nat)(w:World)(R:EW)(h:
 True/\(let g:=w.alloc (.cells #[S9 a b c,S9 d e f] 30);
 ∃ (i:Int->World->Prop) (j:Int->World->Nat),i 0 g/\
 (∀ k:Int,∀ l:World,i k l->
 (Br (decide (k<(e:Int))) (Ix d k e fun m=>L_ssll l (m.add (k.toNat*4)) fun n o p q r s t u=>True/\True/\(let x:=l.alloc (.cells #[T9 n,T9 o,S9 p q r,S9 s t u] 70);
 ∀ y,y=x.drew->Cl 102 #[(.agg #[S9 a b c,S9 d e f]),S9 s t u] y (fun z A B C=>(KeepT 30 y C/\KeepT 70 y C/\True)/\((1=1)/\True)/\Cb 60 #[T9 n,S9 z A B] C (fun D E=>(KeepT 30 C E/\KeepT 70 C E/\True)/\True/\(Br D (R (R9 (.bool true)) E) ((i (wr (k+1)) E/\j (wr (k+1)) E<j k l))))))) (R (R9 (.bool false)) l))))):CP 37 #[(.agg #[S9 a b c,S9 d e f])] w R:=
 vcq Tryz.func37 [1,4] [(6,⟨[(8,.int .i64)],[]⟩)] [.agg [.slice a b c,.slice d e f]] h
set_option maxRecDepth 100000
theorem o_C (a:OA)(b c:Nat)(w:World)(R:EW)(h:
 ∃ (d:Int->World->Prop) (e:Int->World->Nat),d 0 w/\
 (∀ f:Int,∀ g:World,d f g->
 (Br (decide (f<(b:Int))) (Ix a f b fun i=>Ls g (i.add (f.toNat*1)) fun j=>∀ k:Bool->World->Prop,(∀ l:Bool,∀ m:World,
 ((Br l (R (R9 (.bool true)) m) ((d (wr (f+1)) m/\e (wr (f+1)) m<e f g))))->
 k l m)->
 (Br (!(j.toList==(⟨#[]⟩:BA).toList)) ((0<=(0:Int)/\(0:Int)<=f/\f<=(c:Int))/\Cb 60 #[T9 j,(S9 (if c=(0:Int).toNat then a else Option.map (·.add ((0:Int).toNat*1)) a) (f.toNat-(0:Int).toNat) (c-(0:Int).toNat))] g (fun n o=>True/\k n o)) (k false g))) (R (R9 (.bool false)) g)))):CP 73 #[S9 a b c] w R:=
 vcq Tryz.func73 [] [(6,⟨[(7,.int .i64)],[]⟩),(17,⟨[(20,.bool)],[]⟩)] [.l (.slice a b c)] h
set_option maxRecDepth 100000
set_option maxRecDepth 100000
end Go.VC
