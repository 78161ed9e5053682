/- Part of the proof of a law of a rule over documents (TextF), where what the arguments hold is of bulk at most 1048576. -/
import Derived.Test.YtkgkigklbpefgaaGreatBaseB
set_option linter.unusedVariables false
namespace Go.VC
open Go Go.Proofs
set_option maxRecDepth 100000
theorem j_A (a:OA)(b c:Nat)(d:OA)(e f:Nat)(w:World)(R:EW)(h:
 True/\(let g:=w.alloc (.cells #[.slice a b c,.slice d e f] 30);
 ∃ (i:OA->Nat->Nat->Int->World->Prop) (j:OA->Nat->Nat->Int->World->Nat),i none 0 0 0 g/\
 (∀ (k:OA) (l m:Nat),∀ n:Int,∀ o:World,i k l m n o->
 (Br (decide (n<(e:Int))) (Ix d n e fun p=>L_ssll o (p.add (n.toNat*4)) fun q r s t u v x y=>True/\True/\(let A:=o.alloc (.cells #[.string q,.string r,.slice s t u,.slice v x y] 63);
 True/\(let B:=A.alloc (.cells #[.string q] 9);
 Ap 81 (.slice k l m) (.slice (some (adr A.heap.size)) 1 1) B fun C D E F=>(KeepT 30 B F/\KeepT 63 B F/\True)/\(i C D E (wr (n+1)) F/\j C D E (wr (n+1)) F<j k l m n o)))) (Cb 78 #[.slice k l m] o (fun G H=>(KeepT 30 o H/\True)/\R (.returned (.bool G)) H)))))):CP 32 #[(.agg #[.slice a b c,.slice d e f])] w R:=
 vcq Tryz.func32 [1,5] [(8,⟨[(3,.slice),(9,.int .i64)],[]⟩)] [.agg [.slice a b c,.slice d e f]] h
theorem o_3 (a:OA)(b c:Nat)(d:OA)(e f:Nat)(g:BA)(w:World)(R:EW)(h:
 True/\(let i:=w.alloc (.cells #[.slice a b c,.slice d e f] 30);
 True/\(let j:=i.alloc (.cells #[e0s,e0s,z0s,z0s] 63);
 ∃ (k:Int->BA->BA->OA->Nat->Nat->OA->Nat->Nat->World->Prop) (l:Int->BA->BA->OA->Nat->Nat->OA->Nat->Nat->World->Nat),k 0 (⟨#[]⟩:BA) (⟨#[]⟩:BA) none 0 0 none 0 0 j/\
 (∀ m:Int,∀ n:BA,∀ o:BA,∀ (p:OA) (q r:Nat),∀ (s:OA) (t u:Nat),∀ v:World,k m n o p q r s t u v->
 (Br (decide (m<(e:Int))) (Ix d m e fun x=>L_ssll v (x.add (m.toNat*4)) fun y z A B C D E F=>True/\True/\(let H:=v.alloc (.cells #[.string y,.string z,.slice A B C,.slice D E F] 63);
 (Br (y.toList==g.toList) (True/\(let I:=setB H (i.heap.size) [.string y,.string z,.slice A B C,.slice D E F] 63;
 R (.returned (.tuple #[(.agg #[.string y,.string z,.slice A B C,.slice D E F]),.bool true])) I)) ((k (wr (m+1)) n o p q r s t u H/\l (wr (m+1)) n o p q r s t u H<l m n o p q r s t u v))))) (True/\True/\(let J:=setB v (i.heap.size) [e0s,e0s,z0s,z0s] 63;
 R (.returned (.tuple #[(.agg #[e0s,e0s,z0s,z0s]),.bool false])) J))))))):CP 72 #[(.agg #[.slice a b c,.slice d e f]),.string g] w R:=
 vcq Tryz.func72 [2,4,7] [(6,⟨[(11,.int .i64)],[(1,[.str,.str,.slice,.slice])]⟩)] [.agg [.slice a b c,.slice d e f],.l (.str g)] h
theorem m_W (a:OA)(b c:Nat)(w:World)(R:EW)(h:
 ∃ (d:OA->Nat->Nat->Int->World->Prop) (e:OA->Nat->Nat->Int->World->Nat),d none 0 0 0 w/\
 (∀ (f:OA) (g i:Nat),∀ j:Int,∀ k:World,d f g i j k->
 (Br (decide (j<(b:Int))) (Ix a j b fun l=>L_issslll k (l.add (j.toNat*7)) fun m n o p q r s t u v x y z=>True/\True/\(let B:=k.alloc (.cells #[.int .i64 m,.string n,.string o,.string p,.slice q r s,.slice t u v,.slice x y z] 67);
 ∀ C:OA->Nat->Nat->World->Prop,(∀ (D:OA) (E F:Nat),∀ G:World,
 (Cl 141 #[.slice x y z] G (fun H I J K=>(KeepT 67 G K/\True)/\Ap 81 (.slice D E F) (.slice H I J) K fun L M N O=>(KeepT 67 K O/\True)/\(d L M N (wr (j+1)) O/\e L M N (wr (j+1)) O<e f g i j k)))->
 C D E F G)->
 (Br (m==1) (True/\(let P:=B.alloc (.cells #[.string o] 9);
 Ap 81 (.slice f g i) (.slice (some (adr B.heap.size)) 1 1) P fun Q S U V=>(KeepT 67 P V/\True)/\C Q S U V)) (C f g i B)))) (R (.returned (.slice f g i)) k)))):CP 141 #[.slice a b c] w R:=
 vcq Tryz.func141 [5] [(8,⟨[(3,.slice),(8,.int .i64)],[]⟩),(19,⟨[(3,.slice)],[]⟩)] [.l (.slice a b c)] h
set_option maxRecDepth 100000
theorem m_R (a:OA)(b c:Nat)(d:OA)(e f:Nat)(g:OA)(i j:Nat)(w:World)(R:EW)(h:
 True/\(let k:=w.alloc (.cells #[.slice a b c,.slice d e f] 30);
 Cl 141 #[.slice g i j] k (fun l m n o=>(KeepT 30 k o/\True)/\∃ (p:OA->Nat->Nat->OA->Nat->Nat->World->Prop) (q:OA->Nat->Nat->OA->Nat->Nat->World->Nat),p none 0 0 l m n o/\
 (∀ (r:OA) (s t:Nat),∀ (u:OA) (v x:Nat),∀ y:World,p r s t u v x y->
 (Br (decide ((v:Int)>0)) (Ix u 0 v fun z=>Ls y (z.add ((0:Int).toNat*1)) fun A=>(0<=(1:Int)/\1<=(v:Int)/\(v:Int)<=(x:Int))/\CP 72 #[(.agg #[.slice a b c,.slice d e f]),.string A] y (fun B C=>∃ D,∃ E,∃ F G H,∃ I J K,∃ L,B=.returned (.tuple #[(.agg #[.string D,.string E,.slice F G H,.slice I J K]),.bool L])/\(KeepT 30 y C/\True)/\True/\True/\(let N:=C.alloc (.cells #[.string D,.string E,.slice F G H,.slice I J K] 63);
 ∀ O:Bool->World->Prop,(∀ P:Bool,∀ Q:World,
 ((Br P (True/\(let S:=Q.alloc (.cells #[.string A] 9);
 Ap 81 (.slice r s t) (.slice (some (adr Q.heap.size)) 1 1) S fun U V W X=>(KeepT 30 S X/\KeepT 63 S X/\True)/\Cl 141 #[.slice I J K] X (fun Y Z aa ab=>(KeepT 30 X ab/\KeepT 63 X ab/\True)/\Ap 81 (.slice (if x=(1:Int).toNat then u else Option.map (·.add ((1:Int).toNat*1)) u) ((v:Int).toNat-(1:Int).toNat) (x-(1:Int).toNat)) (.slice Y Z aa) ab fun ac ad ae af=>(KeepT 30 ab af/\KeepT 63 ab af/\True)/\(p U V W ac ad ae af/\q U V W ac ad ae af<q r s t u v x y)))) ((p r s t (if x=(1:Int).toNat then u else Option.map (·.add ((1:Int).toNat*1)) u) ((v:Int).toNat-(1:Int).toNat) (x-(1:Int).toNat) Q/\q r s t (if x=(1:Int).toNat then u else Option.map (·.add ((1:Int).toNat*1)) u) ((v:Int).toNat-(1:Int).toNat) (x-(1:Int).toNat) Q<q r s t u v x y))))->
 O P Q)->
 (Br L (Cb 68 #[.string A,.slice r s t] N (fun ag ah=>(KeepT 30 N ah/\KeepT 63 N ah/\True)/\O (!ag) ah)) (O false N))))) (R (.returned (.slice r s t)) y)))))):CP 81 #[(.agg #[.slice a b c,.slice d e f]),.slice g i j] w R:=
 vcq Tryz.func81 [2,8] [(8,⟨[(5,.slice),(6,.slice)],[]⟩),(22,⟨[(32,.bool)],[]⟩)] [.agg [.slice a b c,.slice d e f],.l (.slice g i j)] h
theorem k_q (a:OA)(b c:Nat)(d:OA)(e f:Nat)(w:World)(R:EW)(h:
 True/\(let g:=w.alloc (.cells #[.slice a b c,.slice d e f] 30);
 ∃ (i:Int->World->Prop) (j:Int->World->Nat),i 0 g/\
 (∀ k:Int,∀ l:World,i k l->
 (Br (decide (k<(e:Int))) (Ix d k e fun m=>L_ssll l (m.add (k.toNat*4)) fun n o p q r s t u=>True/\True/\(let x:=l.alloc (.cells #[.string n,.string o,.slice p q r,.slice s t u] 63);
 ∀ y,y=x.drew->Cl 81 #[(.agg #[.slice a b c,.slice d e f]),.slice s t u] y (fun z A B C=>(KeepT 30 y C/\KeepT 63 y C/\True)/\((1=1)/\True)/\Cb 68 #[.string n,.slice z A B] C (fun D E=>(KeepT 30 C E/\KeepT 63 C E/\True)/\True/\(Br D (R (.returned (.bool true)) E) ((i (wr (k+1)) E/\j (wr (k+1)) E<j k l))))))) (R (.returned (.bool false)) l))))):CP 34 #[(.agg #[.slice a b c,.slice d e f])] w R:=
 vcq Tryz.func34 [1,4] [(6,⟨[(8,.int .i64)],[]⟩)] [.agg [.slice a b c,.slice d e f]] h
set_option maxRecDepth 100000
theorem o_C (a:OA)(b c:Nat)(w:World)(R:EW)(h:
 ∃ (d:Int->World->Prop) (e:Int->World->Nat),d 0 w/\
 (∀ f:Int,∀ g:World,d f g->
 (Br (decide (f<(b:Int))) (Ix a f b fun i=>Ls g (i.add (f.toNat*1)) fun j=>∀ k:Bool->World->Prop,(∀ l:Bool,∀ m:World,
 ((Br l (R (.returned (.bool true)) m) ((d (wr (f+1)) m/\e (wr (f+1)) m<e f g))))->
 k l m)->
 (Br (!(j.toList==(⟨#[]⟩:BA).toList)) ((0<=(0:Int)/\(0:Int)<=f/\f<=(c:Int))/\Cb 68 #[.string j,(.slice (if c=(0:Int).toNat then a else Option.map (·.add ((0:Int).toNat*1)) a) (f.toNat-(0:Int).toNat) (c-(0:Int).toNat))] g (fun n o=>True/\k n o)) (k false g))) (R (.returned (.bool false)) g)))):CP 78 #[.slice a b c] w R:=
 vcq Tryz.func78 [] [(6,⟨[(7,.int .i64)],[]⟩),(17,⟨[(20,.bool)],[]⟩)] [.l (.slice a b c)] h
set_option maxRecDepth 100000
set_option maxRecDepth 100000
end Go.VC
