/- Part of the proof of a law of a rule over documents (TextD), where what the arguments hold is of bulk at most 1048576. -/
import Derived.Test.YtmnhdjhlcgfpkaaGreatBaseB
set_option linter.unusedVariables false
namespace Go.VC
open Go Go.Proofs
set_option maxRecDepth 100000
theorem f_y (a:OA)(w:World)(R:EW)(h:
 Pt a fun b=>Li w (b.add 1) fun c=>Pt a fun d=>Off w (d.add 1) 1 []/\True/\(let e:=(w.setCell (d.add 1) (N9 (wr (c+1))));
 ∀ f,f=e.drew->Pt a fun g=>Li f (g.add 1) fun i=>Pt a fun j=>Lp f j fun k=>True/\True/\(let l:=f.alloc (.cells #[N9 0,N9 0,N9 i,N9 1,P9 k] 344);
 True/\True/\R (R9 (P9 (some (adr f.heap.size)))) l))):CP 142 #[P9 a] w R:=
 vcq Tryz.func142 [] [] [.l (.optr a)] h
theorem f_A (a:OA)(b:Int)(c:BA)(d:OA)(e f:Nat)(w:World)(R:EW)(h:
 True/\(let g:=w.alloc (.cells #[N9 b,T9 c,S9 d e f] 115);
 ∀ i:World->Prop,(∀ j:World,
 (∀ k,k=j.drew->Cp 142 #[P9 a] k (fun l m=>(KeepT 115 k m/\True)/\((0=0)/\(0=0)/\True)/\True/\True/\(let n:=m.alloc (.cells #[T9 c,z0s,N9 b,P9 l,P9 none,P9 none,P9 none,P9 none,.bool false] 200);
 True/\True/\∃ (o:Int->World->Prop) (p:Int->World->Nat),o 0 n/\
 (∀ q:Int,∀ r:World,o q r->
 (Br (decide (q<(e:Int))) (Ix d q e fun s=>L_sisl r (s.add (q.toNat*4)) fun t u v x y z=>True/\True/\(let B:=r.alloc (.cells #[T9 t,N9 u,T9 v,S9 x y z] 256);
 ∀ C,C=B.drew->Ll C ((adr m.heap.size).add 1) fun D E F=>Cp 202 #[P9 a,(.agg #[N9 u,T9 v,S9 x y z])] C (fun G H=>(KeepT 115 C H/\KeepT 256 C H/\True)/\((1=1)/\(H.cell? ((adr m.heap.size).add 1)=C.cell? ((adr m.heap.size).add 1))/\True)/\Cp 142 #[P9 a] H (fun I J=>(KeepT 115 H J/\KeepT 256 H J/\True)/\((1=1)/\(J.cell? ((adr m.heap.size).add 1)=H.cell? ((adr m.heap.size).add 1))/\True)/\True/\True/\(let K:=J.alloc (.cells #[T9 t,P9 G,P9 I,P9 none] 278);
 ((K.cell? ((adr m.heap.size).add 1)=J.cell? ((adr m.heap.size).add 1))/\True)/\True/\(let L:=K.alloc (.cells #[(P9 (some (adr J.heap.size)))] 276);
 ((L.cell? ((adr m.heap.size).add 1)=K.cell? ((adr m.heap.size).add 1))/\True)/\∃ M N O,∃ P,(Go.builtin .append #[196,196] 196 #[false,false] #[S9 D E F,(S9 (some (adr K.heap.size)) 1 1)]).run Tryz.prog L=.ok (.value (S9 M N O)) P/\(KeepT 115 L P/\KeepT 256 L P/\True)/\True/\Off P ((adr m.heap.size).add 1) 1 [115,256]/\True/\(let Q:=(P.setCell ((adr m.heap.size).add 1) (S9 M N O));
 True/\(o (wr (q+1)) Q/\p (wr (q+1)) Q<p q r)))))))) (R (R9 (P9 (some (adr m.heap.size)))) r))))))->
 i j)->
 ∀ S:Bool->World->Prop,(∀ U:Bool,∀ V:World,
 ((Br U (Pt a fun W=>Off V (W.add 2) 1 [115]/\True/\(let X:=(V.setCell (W.add 2) (.bool true));
 i X)) (i V)))->
 S U V)->
 (Nr (decide (b<0)) (S (decide (b>9)) g) (S true g)))):CP 202 #[P9 a,(.agg #[N9 b,T9 c,S9 d e f])] w R:=
 vcq Tryz.func202 [3,7] [(2,⟨[],[]⟩),(3,⟨[(15,.bool)],[]⟩),(14,⟨[(30,.int .i64)],[]⟩)] [.l (.optr a),.agg [.int .i64 b,.str c,.slice d e f]] h
theorem e_I (a:OA)(b:OA)(c d:Nat)(w:World)(R:EW)(h:
 (Br ((c:Int)==0) (R (R9 (P9 none)) w) (∀ e:World->Prop,(∀ f:World,
 (Ix b 0 c fun g=>L_isl f (g.add ((0:Int).toNat*3)) fun i j k l m=>Cp 202 #[P9 a,(.agg #[N9 i,T9 j,S9 k l m])] f (fun n o=>True/\R (R9 (P9 n)) o))->
 e f)->
 Pt a fun p=>Lb w (p.add 2) fun q=>(Nr q (Pt a fun r=>Off w (r.add 2) 1 []/\True/\(let s:=(w.setCell (r.add 2) (.bool (decide ((c:Int)>1))));
 e s)) (Pt a fun t=>Off w (t.add 2) 1 []/\True/\(let u:=(w.setCell (t.add 2) (.bool true));
 e u)))))):CP 184 #[P9 a,S9 b c d] w R:=
 vcq Tryz.func184 [] [(10,⟨[],[]⟩)] [.l (.optr a),.l (.slice b c d)] h
theorem f_z (a:OA)(b:BA)(c:OA)(d e:Nat)(f:Bool)(w:World)(R:EW)(h:
 True/\(let g:=w.alloc (.cells #[T9 b,S9 c d e,.bool f] 63);
 ∀ i:World->Prop,(∀ j:World,
 (∀ k,k=j.drew->Cp 142 #[P9 a] k (fun l m=>(KeepT 63 k m/\True)/\((0=0)/\(0=0)/\True)/\True/\True/\(let n:=m.alloc (.cells #[T9 b,P9 none,.bool f,P9 l] 262);
 True/\True/\∀ o:World->Prop,(∀ p:World,
 (R (R9 (P9 (some (adr m.heap.size)))) p)->
 o p)->
 (Br (decide ((d:Int)>0)) (Ix c 0 d fun q=>L_slb n (q.add ((0:Int).toNat*3)) fun r s t u v=>Cp 183 #[P9 a,(.agg #[T9 r,S9 s t u,.bool v])] n (fun x y=>(KeepT 63 n y/\True)/\Off y ((adr m.heap.size).add 1) 1 [63]/\True/\(let z:=(y.setCell ((adr m.heap.size).add 1) (P9 x));
 o z))) (o n)))))->
 i j)->
 Pt a fun A=>Lb g (A.add 2) fun B=>(Nr B ((Nr (decide ((d:Int)>1)) (Pt a fun C=>Off g (C.add 2) 1 [63]/\True/\(let D:=(g.setCell (C.add 2) (.bool (!((b.toList==(⟨#[]⟩:BA).toList)==((d:Int)==1)))));
 i D)) (Pt a fun E=>Off g (E.add 2) 1 [63]/\True/\(let F:=(g.setCell (E.add 2) (.bool true));
 i F)))) (Pt a fun G=>Off g (G.add 2) 1 [63]/\True/\(let H:=(g.setCell (G.add 2) (.bool true));
 i H))))):CP 183 #[P9 a,(.agg #[T9 b,S9 c d e,.bool f])] w R:=
 vcq Tryz.func183 [3] [(2,⟨[],[]⟩),(6,⟨[],[]⟩)] [.l (.optr a),.agg [.str b,.slice c d e,.bool f]] h
theorem e_6 (a:OA)(b:OA)(c d:Nat)(w:World)(R:EW)(h:
 ∃ (e:OA->Nat->Nat->Int->World->Prop) (f:OA->Nat->Nat->Int->World->Nat),e none 0 0 0 w/\
 (∀ (g:OA) (i j:Nat),∀ k:Int,∀ l:World,e g i j k l->
 (Br (decide (k<(c:Int))) (Ix b k c fun m=>L_sisl l (m.add (k.toNat*4)) fun n o p q r s=>True/\True/\(let u:=l.alloc (.cells #[T9 n,N9 o,T9 p,S9 q r s] 253);
 ∀ v,v=u.drew->Cp 202 #[P9 a,(.agg #[N9 o,T9 p,S9 q r s])] v (fun x y=>(KeepT 253 v y/\True)/\((1=1)/\True)/\Cp 142 #[P9 a] y (fun z A=>(KeepT 253 y A/\True)/\((1=1)/\True)/\True/\True/\(let B:=A.alloc (.cells #[T9 n,P9 x,P9 z,P9 none] 394);
 True/\True/\(let C:=B.alloc (.cells #[(P9 (some (adr A.heap.size)))] 393);
 True/\∃ D E F,∃ G,(Go.builtin .append #[157,157] 157 #[false,false] #[S9 g i j,(S9 (some (adr B.heap.size)) 1 1)]).run Tryz.prog C=.ok (.value (S9 D E F)) G/\(KeepT 253 C G/\True)/\True/\True/\(e D E F (wr (k+1)) G/\f D E F (wr (k+1)) G<f g i j k l))))))) (R (R9 (S9 g i j)) l)))):CP 185 #[P9 a,S9 b c d] w R:=
 vcq Tryz.func185 [7] [(8,⟨[(5,.slice),(10,.int .i64)],[]⟩)] [.l (.optr a),.l (.slice b c d)] h
theorem e_8 (a:OA)(b:OA)(c d:Nat)(w:World)(R:EW)(h:
 ∃ (e:OA->Nat->Nat->Int->World->Prop) (f:OA->Nat->Nat->Int->World->Nat),e none 0 0 0 w/\
 (∀ (g:OA) (i j:Nat),∀ k:Int,∀ l:World,e g i j k l->
 (Br (decide (k<(c:Int))) (Ix b k c fun m=>L_sl l (m.add (k.toNat*2)) fun n o p q=>True/\True/\(let s:=l.alloc (.cells #[T9 n,S9 o p q] 87);
 ∀ t,t=s.drew->Cl 185 #[P9 a,S9 o p q] t (fun u v x y=>(KeepT 87 t y/\True)/\((1=1)/\True)/\Cp 142 #[P9 a] y (fun z A=>(KeepT 87 y A/\True)/\((1=1)/\True)/\True/\True/\(let B:=A.alloc (.cells #[T9 n,S9 u v x,P9 z,P9 none,P9 none,e0s] 350);
 True/\True/\(let C:=B.alloc (.cells #[(P9 (some (adr A.heap.size)))] 266);
 True/\∃ D E F,∃ G,(Go.builtin .append #[159,159] 159 #[false,false] #[S9 g i j,(S9 (some (adr B.heap.size)) 1 1)]).run Tryz.prog C=.ok (.value (S9 D E F)) G/\(KeepT 87 C G/\True)/\True/\True/\(e D E F (wr (k+1)) G/\f D E F (wr (k+1)) G<f g i j k l))))))) (R (R9 (S9 g i j)) l)))):CP 144 #[P9 a,S9 b c d] w R:=
 vcq Tryz.func144 [7] [(8,⟨[(5,.slice),(10,.int .i64)],[]⟩)] [.l (.optr a),.l (.slice b c d)] h
theorem e_9 (a:OA)(b:OA)(c d:Nat)(w:World)(R:EW)(h:
 ∃ (e:OA->Nat->Nat->Int->World->Prop) (f:OA->Nat->Nat->Int->World->Nat),e none 0 0 0 w/\
 (∀ (g:OA) (i j:Nat),∀ k:Int,∀ l:World,e g i j k l->
 (Br (decide (k<(c:Int))) (∀ m:OA->Nat->Nat->World->Prop,(∀ (n:OA) (o p:Nat),∀ q:World,
 ((e n o p (wr (k+1)) q/\f n o p (wr (k+1)) q<f g i j k l))->
 m n o p q)->
 Ix b k c fun r=>L_issslll l (r.add (k.toNat*7)) fun s t u v x y z A B C D E F=>True/\True/\(let H:=l.alloc (.cells #[N9 s,T9 t,T9 u,T9 v,S9 x y z,S9 A B C,S9 D E F] 78);
 (Br (s==0) (∀ I,I=H.drew->Cl 185 #[P9 a,S9 x y z] I (fun J K L M=>(KeepT 78 I M/\True)/\((1=1)/\(1=1)/\(1=1)/\(1=1)/\True)/\Cl 144 #[P9 a,S9 A B C] M (fun N O P Q=>(KeepT 78 M Q/\True)/\((1=1)/\(1=1)/\(1=1)/\True)/\Cl 145 #[P9 a,S9 D E F] Q (fun S U V W=>(KeepT 78 Q W/\True)/\((1=1)/\(1=1)/\True)/\Cp 142 #[P9 a] W (fun X Y=>(KeepT 78 W Y/\True)/\((1=1)/\(1=1)/\True)/\True/\True/\(let Z:=Y.alloc (.cells #[T9 t,T9 u,S9 J K L,S9 N O P,S9 S U V,P9 X,P9 none,P9 none,P9 none] 167);
 True/\True/\(let aa:=Z.alloc (.cells #[(ifcV (some (155,(P9 (some (adr Y.heap.size))))))] 334);
 True/\∃ ab ac ad,∃ ae,(Go.builtin .append #[161,161] 161 #[false,false] #[S9 g i j,(S9 (some (adr Z.heap.size)) 1 1)]).run Tryz.prog aa=.ok (.value (S9 ab ac ad)) ae/\(KeepT 78 aa ae/\True)/\True/\True/\m ab ac ad ae))))))) ((Br (s==1) (∀ af,af=H.drew->Cl 144 #[P9 a,S9 A B C] af (fun ag ah ai aj=>(KeepT 78 af aj/\True)/\((1=1)/\True)/\Cp 142 #[P9 a] aj (fun ak al=>(KeepT 78 aj al/\True)/\((1=1)/\True)/\True/\True/\(let am:=al.alloc (.cells #[T9 u,S9 ag ah ai,P9 none,P9 none,P9 ak,P9 none] 183);
 True/\True/\(let an:=am.alloc (.cells #[(ifcV (some (180,(P9 (some (adr al.heap.size))))))] 334);
 True/\∃ ao ap aq,∃ ar,(Go.builtin .append #[161,161] 161 #[false,false] #[S9 g i j,(S9 (some (adr am.heap.size)) 1 1)]).run Tryz.prog an=.ok (.value (S9 ao ap aq)) ar/\(KeepT 78 an ar/\True)/\True/\True/\m ao ap aq ar))))) ((Br (s==2) (∀ au,au=H.drew->Cl 144 #[P9 a,S9 A B C] au (fun av ax ay az=>(KeepT 78 au az/\True)/\((1=1)/\(1=1)/\True)/\Cl 145 #[P9 a,S9 D E F] az (fun aA aB aC aD=>(KeepT 78 az aD/\True)/\((1=1)/\True)/\Cp 142 #[P9 a] aD (fun aE aF=>(KeepT 78 aD aF/\True)/\((1=1)/\True)/\True/\True/\(let aG:=aF.alloc (.cells #[T9 v,S9 av ax ay,S9 aA aB aC,P9 none,P9 aE,P9 none] 192);
 True/\True/\(let aH:=aG.alloc (.cells #[(ifcV (some (190,(P9 (some (adr aF.heap.size))))))] 334);
 True/\∃ aI aJ aK,∃ aL,(Go.builtin .append #[161,161] 161 #[false,false] #[S9 g i j,(S9 (some (adr aG.heap.size)) 1 1)]).run Tryz.prog aH=.ok (.value (S9 aI aJ aK)) aL/\(KeepT 78 aH aL/\True)/\True/\True/\m aI aJ aK aL)))))) (Pt a fun aM=>Off H (aM.add 2) 1 [78]/\True/\(let aN:=(H.setCell (aM.add 2) (.bool true));
 m g i j aN))))))))) (R (R9 (S9 g i j)) l)))):CP 145 #[P9 a,S9 b c d] w R:=
 vcq Tryz.func145 [7] [(8,⟨[(5,.slice),(10,.int .i64)],[]⟩),(15,⟨[(5,.slice)],[]⟩)] [.l (.optr a),.l (.slice b c d)] h
theorem f_a (a:OA)(b:OA)(c d:Nat)(w:World)(R:EW)(h:
 ∃ (e:OA->Nat->Nat->Int->World->Prop) (f:OA->Nat->Nat->Int->World->Nat),e none 0 0 0 w/\
 (∀ (g:OA) (i j:Nat),∀ k:Int,∀ l:World,e g i j k l->
 (Br (decide (k<(c:Int))) (Ix b k c fun m=>Ls l (m.add (k.toNat*6)) fun n=>Ls l ((m.add (k.toNat*6)).add 1) fun o=>Ll l ((m.add (k.toNat*6)).add 2) fun p q r=>Lb l ((m.add (k.toNat*6)).add 3) fun s=>Ll l ((m.add (k.toNat*6)).add 4) fun t u v=>Ll l ((m.add (k.toNat*6)).add 5) fun x y z=>True/\True/\(let B:=l.alloc (.cells #[T9 n,T9 o,S9 p q r,.bool s,S9 t u v,S9 x y z] 66);
 ∀ C,C=B.drew->Cp 183 #[P9 a,(.agg #[T9 o,S9 p q r,.bool s])] C (fun D E=>(KeepT 66 C E/\True)/\((1=1)/\(1=1)/\(1=1)/\True)/\Cp 184 #[P9 a,S9 t u v] E (fun F G=>(KeepT 66 E G/\True)/\((1=1)/\(1=1)/\True)/\Cl 144 #[P9 a,S9 x y z] G (fun H I J K=>(KeepT 66 G K/\True)/\((1=1)/\True)/\Cp 142 #[P9 a] K (fun L M=>(KeepT 66 K M/\True)/\((1=1)/\True)/\True/\True/\(let N:=M.alloc (.cells #[e0s,T9 n,P9 D,P9 F,S9 H I J,P9 L,P9 none,P9 none,.bool false] 264);
 True/\True/\(let O:=N.alloc (.cells #[(P9 (some (adr M.heap.size)))] 198);
 True/\∃ P Q S,∃ U,(Go.builtin .append #[185,185] 185 #[false,false] #[S9 g i j,(S9 (some (adr N.heap.size)) 1 1)]).run Tryz.prog O=.ok (.value (S9 P Q S)) U/\(KeepT 66 O U/\True)/\True/\True/\(e P Q S (wr (k+1)) U/\f P Q S (wr (k+1)) U<f g i j k l))))))))) (R (R9 (S9 g i j)) l)))):CP 143 #[P9 a,S9 b c d] w R:=
 vcq Tryz.func143 [7] [(8,⟨[(5,.slice),(10,.int .i64)],[]⟩)] [.l (.optr a),.l (.slice b c d)] h
theorem e_J (a:OA)(b:OA)(c d:Nat)(e:OA)(f g:Nat)(w:World)(R:EW)(h:
 True/\(let i:=w.alloc (.cells #[S9 b c d,S9 e f g] 30);
 Cp 142 #[P9 a] i (fun j k=>(KeepT 30 i k/\True)/\True/\True/\(let l:=k.alloc (.cells #[z0s,z0s,P9 j,P9 none] 303);
 ∃ (m:Int->World->Prop) (n:Int->World->Nat),m 0 l/\
 (∀ o:Int,∀ p:World,m o p->
 (Br (decide (o<(c:Int))) (Ix b o c fun q=>L_sslll p (q.add (o.toNat*5)) fun r s t u v x y z A B C=>True/\True/\(let E:=p.alloc (.cells #[T9 r,T9 s,S9 t u v,S9 x y z,S9 A B C] 58);
 ∀ F:World->Prop,(∀ G:World,
 (∀ H,H=G.drew->Ll H (adr k.heap.size) fun I J K=>Cl 143 #[P9 a,S9 t u v] H (fun L M N O=>(KeepT 30 H O/\KeepT 58 H O/\True)/\((1=1)/\(1=1)/\(1=1)/\(1=1)/\(O.cell? (adr k.heap.size)=H.cell? (adr k.heap.size))/\True)/\Cl 144 #[P9 a,S9 x y z] O (fun P Q S U=>(KeepT 30 O U/\KeepT 58 O U/\True)/\((1=1)/\(1=1)/\(1=1)/\(U.cell? (adr k.heap.size)=O.cell? (adr k.heap.size))/\True)/\Cl 145 #[P9 a,S9 A B C] U (fun V W X Y=>(KeepT 30 U Y/\KeepT 58 U Y/\True)/\((1=1)/\(1=1)/\(Y.cell? (adr k.heap.size)=U.cell? (adr k.heap.size))/\True)/\Cp 142 #[P9 a] Y (fun Z aa=>(KeepT 30 Y aa/\KeepT 58 Y aa/\True)/\((1=1)/\(1=1)/\(aa.cell? (adr k.heap.size)=Y.cell? (adr k.heap.size))/\True)/\True/\True/\(let ab:=aa.alloc (.cells #[e0s,T9 r,T9 s,S9 L M N,S9 P Q S,S9 V W X,P9 Z,P9 none] 237);
 ((ab.cell? (adr k.heap.size)=aa.cell? (adr k.heap.size))/\True)/\True/\(let ac:=ab.alloc (.cells #[(P9 (some (adr aa.heap.size)))] 225);
 ((ac.cell? (adr k.heap.size)=ab.cell? (adr k.heap.size))/\True)/\∃ ad ae af,∃ ag,(Go.builtin .append #[299,299] 299 #[false,false] #[S9 I J K,(S9 (some (adr ab.heap.size)) 1 1)]).run Tryz.prog ac=.ok (.value (S9 ad ae af)) ag/\(KeepT 30 ac ag/\KeepT 58 ac ag/\True)/\True/\Off ag (adr k.heap.size) 1 [30,58]/\True/\(let ah:=(ag.setCell (adr k.heap.size) (S9 ad ae af));
 True/\(m (wr (o+1)) ah/\n (wr (o+1)) ah<n o p)))))))))->
 F G)->
 Pt a fun ai=>Lb E (ai.add 2) fun aj=>(Nr aj ((Br (!(r.toList==(⟨#[113,117,101,114,121]⟩:BA).toList)) ((Br (!(r.toList==(⟨#[109,117,116,97,116,105,111,110]⟩:BA).toList)) (Pt a fun ak=>Off E (ak.add 2) 1 [30,58]/\True/\(let al:=(E.setCell (ak.add 2) (.bool (!(r.toList==(⟨#[115,117,98,115,99,114,105,112,116,105,111,110]⟩:BA).toList))));
 F al)) (Pt a fun am=>Off E (am.add 2) 1 [30,58]/\True/\(let an:=(E.setCell (am.add 2) (.bool false));
 F an)))) (Pt a fun ao=>Off E (ao.add 2) 1 [30,58]/\True/\(let ap:=(E.setCell (ao.add 2) (.bool false));
 F ap)))) (Pt a fun aq=>Off E (aq.add 2) 1 [30,58]/\True/\(let ar:=(E.setCell (aq.add 2) (.bool true));
 F ar))))) (∃ (au:Int->World->Prop) (av:Int->World->Nat),au 0 p/\
 (∀ ax:Int,∀ ay:World,au ax ay->
 (Br (decide (ax<(f:Int))) (Ix e ax f fun az=>L_ssll ay (az.add (ax.toNat*4)) fun aA aB aC aD aE aF aG aH=>True/\True/\(let aJ:=ay.alloc (.cells #[T9 aA,T9 aB,S9 aC aD aE,S9 aF aG aH] 70);
 ∀ aK,aK=aJ.drew->Ll aK ((adr k.heap.size).add 1) fun aL aM aN=>Cl 144 #[P9 a,S9 aC aD aE] aK (fun aO aP aQ aS=>(KeepT 30 aK aS/\KeepT 70 aK aS/\True)/\((1=1)/\(1=1)/\(1=1)/\(aS.cell? ((adr k.heap.size).add 1)=aK.cell? ((adr k.heap.size).add 1))/\True)/\Cl 145 #[P9 a,S9 aF aG aH] aS (fun aU aV aW aX=>(KeepT 30 aS aX/\KeepT 70 aS aX/\True)/\((1=1)/\(1=1)/\(aX.cell? ((adr k.heap.size).add 1)=aS.cell? ((adr k.heap.size).add 1))/\True)/\Cp 142 #[P9 a] aX (fun aY aZ=>(KeepT 30 aX aZ/\KeepT 70 aX aZ/\True)/\((1=1)/\(1=1)/\(aZ.cell? ((adr k.heap.size).add 1)=aX.cell? ((adr k.heap.size).add 1))/\True)/\True/\True/\(let ba:=aZ.alloc (.cells #[e0s,T9 aA,z0s,T9 aB,S9 aO aP aQ,S9 aU aV aW,P9 none,P9 aY,P9 none] 187);
 ((ba.cell? ((adr k.heap.size).add 1)=aZ.cell? ((adr k.heap.size).add 1))/\True)/\True/\(let bb:=ba.alloc (.cells #[(P9 (some (adr aZ.heap.size)))] 181);
 ((bb.cell? ((adr k.heap.size).add 1)=ba.cell? ((adr k.heap.size).add 1))/\True)/\∃ bc bd be,∃ bf,(Go.builtin .append #[301,301] 301 #[false,false] #[S9 aL aM aN,(S9 (some (adr ba.heap.size)) 1 1)]).run Tryz.prog bb=.ok (.value (S9 bc bd be)) bf/\(KeepT 30 bb bf/\KeepT 70 bb bf/\True)/\True/\Off bf ((adr k.heap.size).add 1) 1 [30,70]/\True/\(let bg:=(bf.setCell ((adr k.heap.size).add 1) (S9 bc bd be));
 True/\(au (wr (ax+1)) bg/\av (wr (ax+1)) bg<av ax ay))))))))) (R (R9 (P9 (some (adr k.heap.size)))) ay)))))))))):CP 80 #[P9 a,(.agg #[S9 b c d,S9 e f g])] w R:=
 vcq Tryz.func80 [3,7,9] [(8,⟨[(17,.int .i64)],[]⟩),(19,⟨[],[]⟩),(27,⟨[(76,.int .i64)],[]⟩)] [.l (.optr a),.agg [.slice b c d,.slice e f g]] h
theorem d_N (a:OA)(b:OA)(c d:Nat)(w:World)(R:EW)(h:
 ∃ (e:OA->Nat->Nat->Int->World->Prop) (f:OA->Nat->Nat->Int->World->Nat),e none 0 0 0 w/\
 (∀ (g:OA) (i j:Nat),∀ k:Int,∀ l:World,e g i j k l->
 (Br (decide (k<(c:Int))) (Ix b k c fun m=>L_ssslbll l (m.add (k.toNat*7)) fun n o p q r s t u v x y z A=>True/\True/\(let C:=l.alloc (.cells #[T9 n,T9 o,T9 p,S9 q r s,.bool t,S9 u v x,S9 y z A] 250);
 ∀ D,D=C.drew->Cp 183 #[P9 a,(.agg #[T9 p,S9 q r s,.bool t])] D (fun E F=>(KeepT 250 D F/\True)/\((1=1)/\(1=1)/\(1=1)/\(1=1)/\True)/\Cp 184 #[P9 a,S9 u v x] F (fun G H=>(KeepT 250 F H/\True)/\((1=1)/\(1=1)/\(1=1)/\True)/\Cl 144 #[P9 a,S9 y z A] H (fun I J K L=>(KeepT 250 H L/\True)/\((1=1)/\(1=1)/\True)/\Cp 142 #[P9 a] L (fun M N=>(KeepT 250 L N/\True)/\((1=1)/\(1=1)/\True)/\True/\True/\(let O:=N.alloc (.cells #[T9 n,T9 o,P9 G,P9 E,S9 I J K,P9 M,P9 none,P9 none] 391);
 True/\True/\(let P:=O.alloc (.cells #[(P9 (some (adr N.heap.size)))] 389);
 True/\∃ Q S U,∃ V,(Go.builtin .append #[172,172] 172 #[false,false] #[S9 g i j,(S9 (some (adr O.heap.size)) 1 1)]).run Tryz.prog P=.ok (.value (S9 Q S U)) V/\(KeepT 250 P V/\True)/\True/\True/\(e Q S U (wr (k+1)) V/\f Q S U (wr (k+1)) V<f g i j k l))))))))) (R (R9 (S9 g i j)) l)))):CP 182 #[P9 a,S9 b c d] w R:=
 vcq Tryz.func182 [7] [(8,⟨[(5,.slice),(10,.int .i64)],[]⟩)] [.l (.optr a),.l (.slice b c d)] h
theorem e_7 (a:OA)(b:OA)(c d:Nat)(w:World)(R:EW)(h:
 ∃ (e:OA->Nat->Nat->Int->World->Prop) (f:OA->Nat->Nat->Int->World->Nat),e none 0 0 0 w/\
 (∀ (g:OA) (i j:Nat),∀ k:Int,∀ l:World,e g i j k l->
 (Br (decide (k<(c:Int))) (Ix b k c fun m=>Ls l (m.add (k.toNat*8)) fun n=>Ls l ((m.add (k.toNat*8)).add 1) fun o=>Ls l ((m.add (k.toNat*8)).add 2) fun p=>Ll l ((m.add (k.toNat*8)).add 3) fun q r s=>Ll l ((m.add (k.toNat*8)).add 4) fun t u v=>Ll l ((m.add (k.toNat*8)).add 5) fun x y z=>Ll l ((m.add (k.toNat*8)).add 6) fun A B C=>Ll l ((m.add (k.toNat*8)).add 7) fun D E F=>True/\True/\(let H:=l.alloc (.cells #[T9 n,T9 o,T9 p,S9 q r s,S9 t u v,S9 x y z,S9 A B C,S9 D E F] 96);
 ∀ I:OA->World->Prop,(∀ J:OA,∀ K:World,
 (∀ L:World->Prop,(∀ M:World,
 (∃ (N:Int->World->Prop) (O:Int->World->Nat),N 0 M/\
 (∀ P:Int,∀ Q:World,N P Q->
 (Br (decide (P<(y:Int))) (Ix x P y fun S=>L_ssllslbl Q (S.add (P.toNat*8)) fun U V W X Y Z aa ab ac ad ae af ag ah ai aj=>True/\True/\(let al:=Q.alloc (.cells #[T9 U,T9 V,S9 W X Y,S9 Z aa ab,T9 ac,S9 ad ae af,.bool ag,S9 ah ai aj] 104);
 ∀ am,am=al.drew->Pt J fun an=>Ll am (an.add 5) fun ao ap aq=>Cl 182 #[P9 a,S9 W X Y] am (fun ar au av ax=>(KeepT 96 am ax/\KeepT 104 am ax/\True)/\((1=1)/\(1=1)/\(1=1)/\(1=1)/\(1=1)/\(ax.cell? (an.add 5)=am.cell? (an.add 5))/\True)/\Cp 184 #[P9 a,S9 Z aa ab] ax (fun ay az=>(KeepT 96 ax az/\KeepT 104 ax az/\True)/\((1=1)/\(1=1)/\(1=1)/\(1=1)/\(az.cell? (an.add 5)=ax.cell? (an.add 5))/\True)/\Cp 183 #[P9 a,(.agg #[T9 ac,S9 ad ae af,.bool ag])] az (fun aA aB=>(KeepT 96 az aB/\KeepT 104 az aB/\True)/\((1=1)/\(1=1)/\(1=1)/\(aB.cell? (an.add 5)=az.cell? (an.add 5))/\True)/\Cl 144 #[P9 a,S9 ah ai aj] aB (fun aC aD aE aF=>(KeepT 96 aB aF/\KeepT 104 aB aF/\True)/\((1=1)/\(1=1)/\(aF.cell? (an.add 5)=aB.cell? (an.add 5))/\True)/\Cp 142 #[P9 a] aF (fun aG aH=>(KeepT 96 aF aH/\KeepT 104 aF aH/\True)/\((1=1)/\(1=1)/\(aH.cell? (an.add 5)=aF.cell? (an.add 5))/\True)/\True/\True/\(let aI:=aH.alloc (.cells #[T9 U,T9 V,S9 ar au av,P9 ay,P9 aA,S9 aC aD aE,P9 aG,P9 none,P9 none] 176);
 ((aI.cell? (an.add 5)=aH.cell? (an.add 5))/\True)/\True/\(let aJ:=aI.alloc (.cells #[(P9 (some (adr aH.heap.size)))] 164);
 ((aJ.cell? (an.add 5)=aI.cell? (an.add 5))/\True)/\∃ aK aL aM,∃ aN,(Go.builtin .append #[269,269] 269 #[false,false] #[S9 ao ap aq,(S9 (some (adr aI.heap.size)) 1 1)]).run Tryz.prog aJ=.ok (.value (S9 aK aL aM)) aN/\(KeepT 96 aJ aN/\KeepT 104 aJ aN/\True)/\True/\Pt J fun aO=>Off aN (aO.add 5) 1 [96,104]/\True/\(let aP:=(aN.setCell (aO.add 5) (S9 aK aL aM));
 True/\(N (wr (P+1)) aP/\O (wr (P+1)) aP<O P Q))))))))))) (∃ (aQ:Int->World->Prop) (aS:Int->World->Nat),aQ 0 Q/\
 (∀ aU:Int,∀ aV:World,aQ aU aV->
 (Br (decide (aU<(E:Int))) (Ix D aU E fun aW=>L_ssl aV (aW.add (aU.toNat*3)) fun aX aY aZ ba bb=>True/\True/\(let bd:=aV.alloc (.cells #[T9 aX,T9 aY,S9 aZ ba bb] 259);
 ∀ be,be=bd.drew->Pt J fun bf=>Ll be (bf.add 7) fun bg bh bi=>Cl 144 #[P9 a,S9 aZ ba bb] be (fun bj bk bl bm=>(KeepT 96 be bm/\KeepT 259 be bm/\True)/\((1=1)/\(1=1)/\(bm.cell? (bf.add 7)=be.cell? (bf.add 7))/\True)/\Cp 142 #[P9 a] bm (fun bn bo=>(KeepT 96 bm bo/\KeepT 259 bm bo/\True)/\((1=1)/\(1=1)/\(bo.cell? (bf.add 7)=bm.cell? (bf.add 7))/\True)/\True/\True/\(let bp:=bo.alloc (.cells #[T9 aX,T9 aY,S9 bj bk bl,P9 bn,P9 none,P9 none] 388);
 ((bp.cell? (bf.add 7)=bo.cell? (bf.add 7))/\True)/\True/\(let bq:=bp.alloc (.cells #[(P9 (some (adr bo.heap.size)))] 386);
 ((bq.cell? (bf.add 7)=bp.cell? (bf.add 7))/\True)/\∃ br bs bt,∃ bu,(Go.builtin .append #[271,271] 271 #[false,false] #[S9 bg bh bi,(S9 (some (adr bp.heap.size)) 1 1)]).run Tryz.prog bq=.ok (.value (S9 br bs bt)) bu/\(KeepT 96 bq bu/\KeepT 259 bq bu/\True)/\True/\Pt J fun bv=>Off bu (bv.add 7) 1 [96,259]/\True/\(let bx:=(bu.setCell (bv.add 7) (S9 br bs bt));
 True/\(aQ (wr (aU+1)) bx/\aS (wr (aU+1)) bx<aS aU aV)))))))) (True/\(let bz:=aV.alloc (.cells #[P9 J] 165);
 ∃ bA bB bC,∃ bD,(Go.builtin .append #[289,289] 289 #[false,false] #[S9 g i j,(S9 (some (adr aV.heap.size)) 1 1)]).run Tryz.prog bz=.ok (.value (S9 bA bB bC)) bD/\(KeepT 96 bz bD/\True)/\(e bA bB bC (wr (k+1)) bD/\f bA bB bC (wr (k+1)) bD<f g i j k l)))))))))->
 L M)->
 Pt J fun bE=>Ls K bE fun bF=>∀ bG:Bool->World->Prop,(∀ bH:Bool,∀ bI:World,
 ((Br bH (L bI) (Pt a fun bJ=>Off bI (bJ.add 2) 1 [96]/\True/\(let bK:=(bI.setCell (bJ.add 2) (.bool true));
 L bK))))->
 bG bH bI)->
 (Br (bF.toList==(⟨#[83,67,65,76,65,82]⟩:BA).toList) (bG true K) ((Br (bF.toList==(⟨#[79,66,74,69,67,84]⟩:BA).toList) (bG true K) ((Br (bF.toList==(⟨#[73,78,84,69,82,70,65,67,69]⟩:BA).toList) (bG true K) ((Br (bF.toList==(⟨#[85,78,73,79,78]⟩:BA).toList) (bG true K) ((Br (bF.toList==(⟨#[69,78,85,77]⟩:BA).toList) (bG true K) (bG (bF.toList==(⟨#[73,78,80,85,84,95,79,66,74,69,67,84]⟩:BA).toList) K)))))))))))->
 I J K)->
 ∀ bL,bL=H.drew->((Cl 144 #[P9 a,S9 q r s] bL (fun bM bN bO bP=>(KeepT 96 bL bP/\True)/\((1=1)/\(1=1)/\(1=1)/\(1=1)/\(1=1)/\True)/\(((let bQ:=bP.alloc (.cells #[] 9);
 ((1=1)/\(1=1)/\(1=1)/\(1=1)/\(1=1)/\True)/\((∃ bS bU bV,∃ bW,(Go.builtin .append #[71,71] 71 #[false,false] #[(S9 (some (adr bP.heap.size)) 0 0),S9 t u v]).run Tryz.prog bQ=.ok (.value (S9 bS bU bV)) bW/\(KeepT 96 bQ bW/\True)/\((1=1)/\(1=1)/\(1=1)/\(1=1)/\True)/\(let bX:=bW.alloc (.cells #[] 9);
 ((1=1)/\(1=1)/\(1=1)/\(1=1)/\True)/\∃ bY bZ ca,∃ cb,(Go.builtin .append #[71,71] 71 #[false,false] #[(S9 (some (adr bW.heap.size)) 0 0),S9 A B C]).run Tryz.prog bX=.ok (.value (S9 bY bZ ca)) cb/\(KeepT 96 bX cb/\True)/\((1=1)/\(1=1)/\(1=1)/\True)/\Cp 142 #[P9 a] cb (fun cc cd=>(KeepT 96 cb cd/\True)/\((1=1)/\(1=1)/\(1=1)/\True)/\True/\True/\(let ce:=cd.alloc (.cells #[T9 n,T9 o,T9 p,S9 bM bN bO,S9 bS bU bV,z0s,S9 bY bZ ca,z0s,P9 cc,z0s,.bool false,P9 none,P9 none,P9 none] 274);
 True/\True/\I (some (adr cd.heap.size)) ce))))/\
 ((let cf:=bQ.alloc (.cells #[] 9);
 ((1=1)/\(1=1)/\(1=1)/\(1=1)/\(1=1)/\True)/\∃ cg ch ci,∃ cj,(Go.builtin .append #[71,71] 71 #[false,false] #[(S9 (some (adr bP.heap.size)) 0 0),S9 t u v]).run Tryz.prog cf=.ok (.value (S9 cg ch ci)) cj/\(KeepT 96 cf cj/\True)/\((1=1)/\(1=1)/\(1=1)/\(1=1)/\True)/\∃ ck cl cm,∃ cn,(Go.builtin .append #[71,71] 71 #[false,false] #[(S9 (some (adr bQ.heap.size)) 0 0),S9 A B C]).run Tryz.prog cj=.ok (.value (S9 ck cl cm)) cn/\(KeepT 96 cj cn/\True)/\((1=1)/\(1=1)/\(1=1)/\True)/\Cp 142 #[P9 a] cn (fun co cp=>(KeepT 96 cn cp/\True)/\((1=1)/\(1=1)/\(1=1)/\True)/\True/\True/\(let cq:=cp.alloc (.cells #[T9 n,T9 o,T9 p,S9 bM bN bO,S9 cg ch ci,z0s,S9 ck cl cm,z0s,P9 co,z0s,.bool false,P9 none,P9 none,P9 none] 274);
 True/\True/\I (some (adr cp.heap.size)) cq)))))))/\
 ((let cr:=bP.alloc (.cells #[] 9);
 ((1=1)/\(1=1)/\(1=1)/\(1=1)/\(1=1)/\True)/\(let ct:=cr.alloc (.cells #[] 9);
 ((1=1)/\(1=1)/\(1=1)/\(1=1)/\(1=1)/\True)/\∃ cu cv cx,∃ cy,(Go.builtin .append #[71,71] 71 #[false,false] #[(S9 (some (adr cr.heap.size)) 0 0),S9 t u v]).run Tryz.prog ct=.ok (.value (S9 cu cv cx)) cy/\(KeepT 96 ct cy/\True)/\((1=1)/\(1=1)/\(1=1)/\(1=1)/\True)/\∃ cz cA cB,∃ cC,(Go.builtin .append #[71,71] 71 #[false,false] #[(S9 (some (adr bP.heap.size)) 0 0),S9 A B C]).run Tryz.prog cy=.ok (.value (S9 cz cA cB)) cC/\(KeepT 96 cy cC/\True)/\((1=1)/\(1=1)/\(1=1)/\True)/\Cp 142 #[P9 a] cC (fun cD cE=>(KeepT 96 cC cE/\True)/\((1=1)/\(1=1)/\(1=1)/\True)/\True/\True/\(let cF:=cE.alloc (.cells #[T9 n,T9 o,T9 p,S9 bM bN bO,S9 cu cv cx,z0s,S9 cz cA cB,z0s,P9 cD,z0s,.bool false,P9 none,P9 none,P9 none] 274);
 True/\True/\I (some (adr cE.heap.size)) cF))))))))/\
 ((let cG:=bL.alloc (.cells #[] 9);
 ((1=1)/\(1=1)/\(1=1)/\(1=1)/\(1=1)/\(1=1)/\True)/\((Cl 144 #[P9 a,S9 q r s] cG (fun cH cI cJ cK=>(KeepT 96 cG cK/\True)/\((1=1)/\(1=1)/\(1=1)/\(1=1)/\(1=1)/\True)/\((∃ cL cM cN,∃ cO,(Go.builtin .append #[71,71] 71 #[false,false] #[(S9 (some (adr bL.heap.size)) 0 0),S9 t u v]).run Tryz.prog cK=.ok (.value (S9 cL cM cN)) cO/\(KeepT 96 cK cO/\True)/\((1=1)/\(1=1)/\(1=1)/\(1=1)/\True)/\(let cP:=cO.alloc (.cells #[] 9);
 ((1=1)/\(1=1)/\(1=1)/\(1=1)/\True)/\∃ cQ cS cU,∃ cV,(Go.builtin .append #[71,71] 71 #[false,false] #[(S9 (some (adr cO.heap.size)) 0 0),S9 A B C]).run Tryz.prog cP=.ok (.value (S9 cQ cS cU)) cV/\(KeepT 96 cP cV/\True)/\((1=1)/\(1=1)/\(1=1)/\True)/\Cp 142 #[P9 a] cV (fun cW cX=>(KeepT 96 cV cX/\True)/\((1=1)/\(1=1)/\(1=1)/\True)/\True/\True/\(let cY:=cX.alloc (.cells #[T9 n,T9 o,T9 p,S9 cH cI cJ,S9 cL cM cN,z0s,S9 cQ cS cU,z0s,P9 cW,z0s,.bool false,P9 none,P9 none,P9 none] 274);
 True/\True/\I (some (adr cX.heap.size)) cY))))/\
 ((let cZ:=cK.alloc (.cells #[] 9);
 ((1=1)/\(1=1)/\(1=1)/\(1=1)/\(1=1)/\True)/\∃ da db dc,∃ dd,(Go.builtin .append #[71,71] 71 #[false,false] #[(S9 (some (adr bL.heap.size)) 0 0),S9 t u v]).run Tryz.prog cZ=.ok (.value (S9 da db dc)) dd/\(KeepT 96 cZ dd/\True)/\((1=1)/\(1=1)/\(1=1)/\(1=1)/\True)/\∃ de df dg,∃ dh,(Go.builtin .append #[71,71] 71 #[false,false] #[(S9 (some (adr cK.heap.size)) 0 0),S9 A B C]).run Tryz.prog dd=.ok (.value (S9 de df dg)) dh/\(KeepT 96 dd dh/\True)/\((1=1)/\(1=1)/\(1=1)/\True)/\Cp 142 #[P9 a] dh (fun di dj=>(KeepT 96 dh dj/\True)/\((1=1)/\(1=1)/\(1=1)/\True)/\True/\True/\(let dk:=dj.alloc (.cells #[T9 n,T9 o,T9 p,S9 cH cI cJ,S9 da db dc,z0s,S9 de df dg,z0s,P9 di,z0s,.bool false,P9 none,P9 none,P9 none] 274);
 True/\True/\I (some (adr dj.heap.size)) dk)))))))/\
 ((let dl:=cG.alloc (.cells #[] 9);
 ((1=1)/\(1=1)/\(1=1)/\(1=1)/\(1=1)/\(1=1)/\True)/\Cl 144 #[P9 a,S9 q r s] dl (fun dm dn dp dq=>(KeepT 96 dl dq/\True)/\((1=1)/\(1=1)/\(1=1)/\(1=1)/\(1=1)/\True)/\∃ dr ds dt,∃ du,(Go.builtin .append #[71,71] 71 #[false,false] #[(S9 (some (adr bL.heap.size)) 0 0),S9 t u v]).run Tryz.prog dq=.ok (.value (S9 dr ds dt)) du/\(KeepT 96 dq du/\True)/\((1=1)/\(1=1)/\(1=1)/\(1=1)/\True)/\∃ dv dx dy,∃ dz,(Go.builtin .append #[71,71] 71 #[false,false] #[(S9 (some (adr cG.heap.size)) 0 0),S9 A B C]).run Tryz.prog du=.ok (.value (S9 dv dx dy)) dz/\(KeepT 96 du dz/\True)/\((1=1)/\(1=1)/\(1=1)/\True)/\Cp 142 #[P9 a] dz (fun dA dB=>(KeepT 96 dz dB/\True)/\((1=1)/\(1=1)/\(1=1)/\True)/\True/\True/\(let dC:=dB.alloc (.cells #[T9 n,T9 o,T9 p,S9 dm dn dp,S9 dr ds dt,z0s,S9 dv dx dy,z0s,P9 dA,z0s,.bool false,P9 none,P9 none,P9 none] 274);
 True/\True/\I (some (adr dB.heap.size)) dC))))))))/\
 ((let dD:=bL.alloc (.cells #[] 9);
 ((1=1)/\(1=1)/\(1=1)/\(1=1)/\(1=1)/\(1=1)/\True)/\((Cl 144 #[P9 a,S9 q r s] dD (fun dE dF dG dH=>(KeepT 96 dD dH/\True)/\((1=1)/\(1=1)/\(1=1)/\(1=1)/\(1=1)/\True)/\(let dI:=dH.alloc (.cells #[] 9);
 ((1=1)/\(1=1)/\(1=1)/\(1=1)/\(1=1)/\True)/\∃ dJ dK dL,∃ dM,(Go.builtin .append #[71,71] 71 #[false,false] #[(S9 (some (adr dH.heap.size)) 0 0),S9 t u v]).run Tryz.prog dI=.ok (.value (S9 dJ dK dL)) dM/\(KeepT 96 dI dM/\True)/\((1=1)/\(1=1)/\(1=1)/\(1=1)/\True)/\∃ dN dO dP,∃ dQ,(Go.builtin .append #[71,71] 71 #[false,false] #[(S9 (some (adr bL.heap.size)) 0 0),S9 A B C]).run Tryz.prog dM=.ok (.value (S9 dN dO dP)) dQ/\(KeepT 96 dM dQ/\True)/\((1=1)/\(1=1)/\(1=1)/\True)/\Cp 142 #[P9 a] dQ (fun dS dU=>(KeepT 96 dQ dU/\True)/\((1=1)/\(1=1)/\(1=1)/\True)/\True/\True/\(let dV:=dU.alloc (.cells #[T9 n,T9 o,T9 p,S9 dE dF dG,S9 dJ dK dL,z0s,S9 dN dO dP,z0s,P9 dS,z0s,.bool false,P9 none,P9 none,P9 none] 274);
 True/\True/\I (some (adr dU.heap.size)) dV)))))/\
 ((let dW:=dD.alloc (.cells #[] 9);
 ((1=1)/\(1=1)/\(1=1)/\(1=1)/\(1=1)/\(1=1)/\True)/\Cl 144 #[P9 a,S9 q r s] dW (fun dX dY dZ ea=>(KeepT 96 dW ea/\True)/\((1=1)/\(1=1)/\(1=1)/\(1=1)/\(1=1)/\True)/\∃ eb ec ed,∃ ee,(Go.builtin .append #[71,71] 71 #[false,false] #[(S9 (some (adr dD.heap.size)) 0 0),S9 t u v]).run Tryz.prog ea=.ok (.value (S9 eb ec ed)) ee/\(KeepT 96 ea ee/\True)/\((1=1)/\(1=1)/\(1=1)/\(1=1)/\True)/\∃ ef eg eh,∃ ei,(Go.builtin .append #[71,71] 71 #[false,false] #[(S9 (some (adr bL.heap.size)) 0 0),S9 A B C]).run Tryz.prog ee=.ok (.value (S9 ef eg eh)) ei/\(KeepT 96 ee ei/\True)/\((1=1)/\(1=1)/\(1=1)/\True)/\Cp 142 #[P9 a] ei (fun ej ek=>(KeepT 96 ei ek/\True)/\((1=1)/\(1=1)/\(1=1)/\True)/\True/\True/\(let el:=ek.alloc (.cells #[T9 n,T9 o,T9 p,S9 dX dY dZ,S9 eb ec ed,z0s,S9 ef eg eh,z0s,P9 ej,z0s,.bool false,P9 none,P9 none,P9 none] 274);
 True/\True/\I (some (adr ek.heap.size)) el))))))))))) (R (R9 (S9 g i j)) l)))):CP 181 #[P9 a,S9 b c d] w R:=
 vcq Tryz.func181 [7,10,12] [(8,⟨[(5,.slice),(15,.int .i64)],[]⟩),(19,⟨[(8,.ptr)],[]⟩),(21,⟨[],[]⟩),(25,⟨[(48,.bool)],[]⟩),(54,⟨[(58,.int .i64)],[]⟩),(71,⟨[(99,.int .i64)],[]⟩)] [.l (.optr a),.l (.slice b c d)] h
theorem c_X (a:OA)(b:OA)(c d:Nat)(w:World)(R:EW)(h:
 ∃ (e:OA->Nat->Nat->Int->World->Prop) (f:OA->Nat->Nat->Int->World->Nat),e none 0 0 0 w/\
 (∀ (g:OA) (i j:Nat),∀ k:Int,∀ l:World,e g i j k l->
 (Br (decide (k<(c:Int))) (Ix b k c fun m=>L_sll l (m.add (k.toNat*3)) fun n o p q r s t=>True/\True/\(let v:=l.alloc (.cells #[T9 n,S9 o p q,S9 r s t] 326);
 ∀ x,x=v.drew->Cl 144 #[P9 a,S9 o p q] x (fun y z A B=>(KeepT 326 x B/\True)/\((1=1)/\True)/\Cp 142 #[P9 a] B (fun C D=>(KeepT 326 B D/\True)/\((1=1)/\True)/\True/\True/\(let E:=D.alloc (.cells #[T9 n,S9 y z A,z0s,P9 C,P9 none,P9 none,P9 none] 382);
 True/\True/\∃ (F:Int->World->Prop) (G:Int->World->Nat),F 0 E/\
 (∀ H:Int,∀ I:World,F H I->
 (Br (decide (H<(s:Int))) (Ix r H s fun J=>L_ss I (J.add (H.toNat*2)) fun K L=>True/\True/\(let N:=I.alloc (.cells #[T9 K,T9 L] 218);
 ∀ O:World->Prop,(∀ P:World,
 (∀ Q,Q=P.drew->Ll Q ((adr D.heap.size).add 2) fun S U V=>Cp 142 #[P9 a] Q (fun W X=>(KeepT 326 Q X/\KeepT 218 Q X/\True)/\((1=1)/\(1=1)/\(X.cell? ((adr D.heap.size).add 2)=Q.cell? ((adr D.heap.size).add 2))/\True)/\True/\True/\(let Y:=X.alloc (.cells #[T9 K,T9 L,P9 W,P9 none] 385);
 ((Y.cell? ((adr D.heap.size).add 2)=X.cell? ((adr D.heap.size).add 2))/\True)/\True/\(let Z:=Y.alloc (.cells #[(P9 (some (adr X.heap.size)))] 383);
 ((Z.cell? ((adr D.heap.size).add 2)=Y.cell? ((adr D.heap.size).add 2))/\True)/\∃ aa ab ac,∃ ad,(Go.builtin .append #[380,380] 380 #[false,false] #[S9 S U V,(S9 (some (adr Y.heap.size)) 1 1)]).run Tryz.prog Z=.ok (.value (S9 aa ab ac)) ad/\(KeepT 326 Z ad/\KeepT 218 Z ad/\True)/\True/\Off ad ((adr D.heap.size).add 2) 1 [326,218]/\True/\(let ae:=(ad.setCell ((adr D.heap.size).add 2) (S9 aa ab ac));
 True/\(F (wr (H+1)) ae/\G (wr (H+1)) ae<G H I))))))->
 O P)->
 Pt a fun af=>Lb N (af.add 2) fun ag=>(Nr ag ((Br (!(K.toList==(⟨#[113,117,101,114,121]⟩:BA).toList)) ((Br (!(K.toList==(⟨#[109,117,116,97,116,105,111,110]⟩:BA).toList)) (Pt a fun ah=>Off N (ah.add 2) 1 [326,218]/\True/\(let ai:=(N.setCell (ah.add 2) (.bool (!(K.toList==(⟨#[115,117,98,115,99,114,105,112,116,105,111,110]⟩:BA).toList))));
 O ai)) (Pt a fun aj=>Off N (aj.add 2) 1 [326,218]/\True/\(let ak:=(N.setCell (aj.add 2) (.bool false));
 O ak)))) (Pt a fun al=>Off N (al.add 2) 1 [326,218]/\True/\(let am:=(N.setCell (al.add 2) (.bool false));
 O am)))) (Pt a fun an=>Off N (an.add 2) 1 [326,218]/\True/\(let ao:=(N.setCell (an.add 2) (.bool true));
 O ao))))) (True/\(let ap:=I.alloc (.cells #[(P9 (some (adr D.heap.size)))] 378);
 ∃ aq ar au,∃ av,(Go.builtin .append #[285,285] 285 #[false,false] #[S9 g i j,(S9 (some (adr I.heap.size)) 1 1)]).run Tryz.prog ap=.ok (.value (S9 aq ar au)) av/\(KeepT 326 ap av/\True)/\(e aq ar au (wr (k+1)) av/\f aq ar au (wr (k+1)) av<f g i j k l)))))))))) (R (R9 (S9 g i j)) l)))):CP 180 #[P9 a,S9 b c d] w R:=
 vcq Tryz.func180 [7,10] [(8,⟨[(5,.slice),(13,.int .i64)],[]⟩),(25,⟨[(30,.int .i64)],[]⟩),(36,⟨[],[]⟩)] [.l (.optr a),.l (.slice b c d)] h
theorem e_f (a:OA)(b:OA)(c d:Nat)(e:OA)(f g:Nat)(i:OA)(j k:Nat)(l:OA)(m n:Nat)(o:OA)(p q:Nat)(w:World)(R:EW)(h:
 True/\(let r:=w.alloc (.cells #[S9 b c d,S9 e f g,S9 i j k,S9 l m n,S9 o p q] 26);
 ∀ s,s=r.drew->Cl 180 #[P9 a,S9 b c d] s (fun t u v x=>(KeepT 26 s x/\True)/\((0=0)/\(0=0)/\(0=0)/\True)/\Cl 180 #[P9 a,S9 e f g] x (fun y z A B=>(KeepT 26 x B/\True)/\((0=0)/\(0=0)/\True)/\Cl 181 #[P9 a,S9 l m n] B (fun C D E F=>(KeepT 26 B F/\True)/\((0=0)/\True)/\Cl 181 #[P9 a,S9 o p q] F (fun G H I J=>(KeepT 26 F J/\True)/\True/\Cp 142 #[P9 a] J (fun K L=>(KeepT 26 J L/\True)/\True/\True/\True/\(let M:=L.alloc (.cells #[S9 t u v,S9 y z A,z0s,z0s,S9 C D E,S9 G H I,P9 K,P9 none] 291);
 True/\True/\∃ (N:Int->World->Prop) (O:Int->World->Nat),N 0 M/\
 (∀ P:Int,∀ Q:World,N P Q->
 (Br (decide (P<(j:Int))) (Ix i P j fun S=>L_ssllb Q (S.add (P.toNat*5)) fun U V W X Y Z aa ab ac=>True/\True/\(let ae:=Q.alloc (.cells #[T9 U,T9 V,S9 W X Y,S9 Z aa ab,.bool ac] 120);
 ∀ af,af=ae.drew->Cl 182 #[P9 a,S9 W X Y] af (fun ag ah ai aj=>(KeepT 26 af aj/\KeepT 120 af aj/\True)/\((1=1)/\(1=1)/\(1=1)/\True)/\Cp 142 #[P9 a] aj (fun ak al=>(KeepT 26 aj al/\KeepT 120 aj al/\True)/\((1=1)/\(1=1)/\(1=1)/\True)/\True/\True/\(let am:=al.alloc (.cells #[T9 U,T9 V,S9 ag ah ai,z0s,z0s,.bool ac,P9 ak,P9 none,P9 none] 295);
 True/\True/\∃ (an:Int->World->Prop) (ao:Int->World->Nat),an 0 am/\
 (∀ ap:Int,∀ aq:World,an ap aq->
 (Br (decide (ap<(aa:Int))) (Ix Z ap aa fun ar=>Ls aq (ar.add (ap.toNat*1)) fun au=>Ll aq ((adr al.heap.size).add 4) fun av ax ay=>True/\(let az:=aq.alloc (.cells #[T9 au] 348);
 ∃ aA aB aC,∃ aD,(Go.builtin .append #[293,293] 293 #[false,false] #[S9 av ax ay,(S9 (some (adr aq.heap.size)) 1 1)]).run Tryz.prog az=.ok (.value (S9 aA aB aC)) aD/\(KeepT 26 az aD/\KeepT 120 az aD/\True)/\Off aD ((adr al.heap.size).add 4) 1 [26,120]/\True/\(let aE:=(aD.setCell ((adr al.heap.size).add 4) (S9 aA aB aC));
 (an (wr (ap+1)) aE/\ao (wr (ap+1)) aE<ao ap aq)))) (Ll aq ((adr L.heap.size).add 2) fun aF aG aH=>True/\(let aI:=aq.alloc (.cells #[(P9 (some (adr al.heap.size)))] 292);
 ∃ aJ aK aL,∃ aM,(Go.builtin .append #[287,287] 287 #[false,false] #[S9 aF aG aH,(S9 (some (adr aq.heap.size)) 1 1)]).run Tryz.prog aI=.ok (.value (S9 aJ aK aL)) aM/\(KeepT 26 aI aM/\KeepT 120 aI aM/\True)/\Off aM ((adr L.heap.size).add 2) 1 [26,120]/\True/\(let aN:=(aM.setCell ((adr L.heap.size).add 2) (S9 aJ aK aL));
 (N (wr (P+1)) aN/\O (wr (P+1)) aN<O P Q))))))))))) (R (R9 (P9 (some (adr L.heap.size)))) Q))))))))))):CP 139 #[P9 a,(.agg #[S9 b c d,S9 e f g,S9 i j k,S9 l m n,S9 o p q])] w R:=
 vcq Tryz.func139 [3,7] [(8,⟨[(34,.int .i64)],[]⟩),(25,⟨[(55,.int .i64)],[]⟩)] [.l (.optr a),.agg [.slice b c d,.slice e f g,.slice i j k,.slice l m n,.slice o p q]] h
theorem b_7 (a:OA)(b:BA)(c:OA)(w:World)(R:EW)(h:
 ∀ d,d=w.drew->Pt a fun e=>Lm d (e.add 6) fun f=>Pt a fun g=>Lm d (g.add 6) fun i=>∃ j k l,(Instr.lookup 228 (.map i) (T9 b) false).run Tryz.prog d=.ok (S9 j k l) d/\True/\(let m:=d.alloc (.cells #[P9 c] 165);
 ((∀ n,i=some n->objAt m n=objAt d n)/\(m.cell? (g.add 6)=d.cell? (g.add 6))/\(m.cell? (e.add 6)=d.cell? (e.add 6))/\True)/\∃ o p q,∃ r,(Go.builtin .append #[288,288] 288 #[false,false] #[S9 j k l,(S9 (some (adr d.heap.size)) 1 1)]).run Tryz.prog m=.ok (.value (S9 o p q)) r/\True/\((r.cell? (e.add 6)=m.cell? (e.add 6))/\True)/\∃ s,(Instr.mapUpdate 228 (.map f) (T9 b) (S9 o p q)).run Tryz.prog r=.ok () s/\True/\True/\R (R9 (.tuple #[])) s)):CP 140 #[P9 a,T9 b,P9 c] w R:=
 vcq Tryz.func140 [] [] [.l (.optr a),.l (.str b),.l (.optr c)] h
theorem c_m (a:OA)(b:BA)(c:OA)(w:World)(R:EW)(h:
 ∀ d,d=w.drew->Pt a fun e=>Lm d (e.add 7) fun f=>Pt a fun g=>Lm d (g.add 7) fun i=>∃ j k l,(Instr.lookup 228 (.map i) (T9 b) false).run Tryz.prog d=.ok (S9 j k l) d/\True/\(let m:=d.alloc (.cells #[P9 c] 165);
 ((∀ n,i=some n->objAt m n=objAt d n)/\(m.cell? (g.add 7)=d.cell? (g.add 7))/\(m.cell? (e.add 7)=d.cell? (e.add 7))/\True)/\∃ o p q,∃ r,(Go.builtin .append #[288,288] 288 #[false,false] #[S9 j k l,(S9 (some (adr d.heap.size)) 1 1)]).run Tryz.prog m=.ok (.value (S9 o p q)) r/\True/\((r.cell? (e.add 7)=m.cell? (e.add 7))/\True)/\∃ s,(Instr.mapUpdate 228 (.map f) (T9 b) (S9 o p q)).run Tryz.prog r=.ok () s/\True/\True/\R (R9 (.tuple #[])) s)):CP 141 #[P9 a,T9 b,P9 c] w R:=
 vcq Tryz.func141 [] [] [.l (.optr a),.l (.str b),.l (.optr c)] h
theorem e_K (a:OA)(b:OA)(c d:Nat)(e:OA)(f g:Nat)(i:BA)(j:BA)(k:BA)(l:OA)(m n:Nat)(o:OA)(p q:Nat)(w:World)(R:EW)(h:
 True/\(let r:=w.alloc (.cells #[S9 b c d,S9 e f g,T9 i,T9 j,T9 k,S9 l m n,S9 o p q] 40);
 True/\Cp 139 #[P9 a,(.agg #[z0s,z0s,S9 e f g,S9 b c d,z0s])] r (fun s t=>(KeepT 40 r t/\True)/\let u:=t.alloc (.map #[] 0);
 let v:=u.alloc (.map #[] 0);
 let x:=v.alloc (.map #[] 0);
 let y:=x.alloc (.map #[] 0);
 True/\True/\(let z:=y.alloc (.cells #[P9 none,P9 none,P9 none,z0s,(.map (some t.heap.size)),(.map (some u.heap.size)),(.map (some v.heap.size)),(.map (some x.heap.size)),e0s,P9 none] 230);
 Pt s fun A=>Ll z (A.add 4) fun B C D=>∃ (E:Int->World->Prop) (F:Int->World->Nat),E 0 z/\
 (∀ G:Int,∀ H:World,E G H->
 (Br (decide (G<(C:Int))) (Ix B G C fun I=>Lp H (I.add (G.toNat*1)) fun J=>∀ K,K=H.drew->Lm K ((adr y.heap.size).add 4) fun L=>Pt J fun M=>Ls K (M.add 2) fun N=>∃ O,(Instr.mapUpdate 226 (.map L) (T9 N) (P9 J)).run Tryz.prog K=.ok () O/\(KeepT 40 K O/\True)/\True/\(E (wr (G+1)) O/\F (wr (G+1)) O<F G H)) (Pt s fun P=>Ll H (P.add 2) fun Q S U=>∃ (V:Int->World->Prop) (W:Int->World->Nat),V 0 H/\
 (∀ X:Int,∀ Y:World,V X Y->
 (Br (decide (X<(S:Int))) (Ix Q X S fun Z=>Lp Y (Z.add (X.toNat*1)) fun aa=>∀ ab,ab=Y.drew->Lm ab ((adr y.heap.size).add 5) fun ac=>Pt aa fun ad=>Ls ab (ad.add 1) fun ae=>∃ af,(Instr.mapUpdate 227 (.map ac) (T9 ae) (P9 aa)).run Tryz.prog ab=.ok () af/\(KeepT 40 ab af/\True)/\True/\(V (wr (X+1)) af/\W (wr (X+1)) af<W X Y)) (∀ ag,ag=Y.drew->Lm ag ((adr y.heap.size).add 4) fun ah=>∃ ai,(Instr.lookup 226 (.map ah) (T9 i) false).run Tryz.prog ag=.ok (P9 ai) ag/\Lm ag ((adr y.heap.size).add 4) fun aj=>∃ ak,(Instr.lookup 226 (.map aj) (T9 j) false).run Tryz.prog ag=.ok (P9 ak) ag/\Lm ag ((adr y.heap.size).add 4) fun al=>∃ am,(Instr.lookup 226 (.map al) (T9 k) false).run Tryz.prog ag=.ok (P9 am) ag/\Off ag (adr y.heap.size) 1 [40]/\True/\(let an:=(ag.setCell (adr y.heap.size) (P9 ai));
 True/\Off an ((adr y.heap.size).add 1) 1 [40]/\True/\(let ao:=(an.setCell ((adr y.heap.size).add 1) (P9 ak));
 True/\Off ao ((adr y.heap.size).add 2) 1 [40]/\True/\(let ap:=(ao.setCell ((adr y.heap.size).add 2) (P9 am));
 True/\∃ (aq:Int->World->Prop) (ar:Int->World->Nat),aq 0 ap/\
 (∀ au:Int,∀ av:World,aq au av->
 (Br (decide (au<(m:Int))) (Ix l au m fun ax=>L_sl av (ax.add (au.toNat*2)) fun ay az aA aB=>True/\True/\(let aD:=av.alloc (.cells #[T9 ay,S9 az aA aB] 99);
 ∃ (aE:Int->World->Prop) (aF:Int->World->Nat),aE 0 aD/\
 (∀ aG:Int,∀ aH:World,aE aG aH->
 (Br (decide (aG<(aA:Int))) (∀ aI:World->Prop,(∀ aJ:World,
 ((aE (wr (aG+1)) aJ/\aF (wr (aG+1)) aJ<aF aG aH))->
 aI aJ)->
 Ix az aG aA fun aK=>Ls aH (aK.add (aG.toNat*1)) fun aL=>Lm aH ((adr y.heap.size).add 4) fun aM=>∃ aN,(Instr.lookup 226 (.map aM) (T9 aL) false).run Tryz.prog aH=.ok (P9 aN) aH/\(Br (!aN.isNone) (C0 140 #[(P9 (some (adr y.heap.size))),T9 ay,P9 aN] aH (fun aO=>(KeepT 40 aH aO/\KeepT 99 aH aO/\True)/\aI aO)) (aI aH))) ((aq (wr (au+1)) aH/\ar (wr (au+1)) aH<ar au av)))))) (∃ (aP:Int->World->Prop) (aQ:Int->World->Nat),aP 0 av/\
 (∀ aS:Int,∀ aU:World,aP aS aU->
 (Br (decide (aS<(p:Int))) (Ix o aS p fun aV=>L_sl aU (aV.add (aS.toNat*2)) fun aW aX aY aZ=>True/\True/\(let bb:=aU.alloc (.cells #[T9 aW,S9 aX aY aZ] 99);
 ∃ (bc:Int->World->Prop) (bd:Int->World->Nat),bc 0 bb/\
 (∀ be:Int,∀ bf:World,bc be bf->
 (Br (decide (be<(aY:Int))) (∀ bg:World->Prop,(∀ bh:World,
 ((bc (wr (be+1)) bh/\bd (wr (be+1)) bh<bd be bf))->
 bg bh)->
 Ix aX be aY fun bi=>Ls bf (bi.add (be.toNat*1)) fun bj=>Lm bf ((adr y.heap.size).add 4) fun bk=>∃ bl,(Instr.lookup 226 (.map bk) (T9 bj) false).run Tryz.prog bf=.ok (P9 bl) bf/\(Br (!bl.isNone) (C0 141 #[(P9 (some (adr y.heap.size))),T9 aW,P9 bl] bf (fun bm=>(KeepT 40 bf bm/\KeepT 99 bf bm/\True)/\bg bm)) (bg bf))) ((aP (wr (aS+1)) bf/\aQ (wr (aS+1)) bf<aQ aS aU)))))) (R (R9 (P9 (some (adr y.heap.size)))) aU))))))))))))))))))):CP 79 #[P9 a,(.agg #[S9 b c d,S9 e f g,T9 i,T9 j,T9 k,S9 l m n,S9 o p q])] w R:=
 vcq Tryz.func79 [3,12,17] [(10,⟨[(39,.int .i64)],[]⟩),(27,⟨[(58,.int .i64)],[]⟩),(46,⟨[(105,.int .i64)],[]⟩),(60,⟨[(112,.int .i64)],[]⟩),(67,⟨[],[]⟩),(84,⟨[(134,.int .i64)],[]⟩),(98,⟨[(141,.int .i64)],[]⟩),(105,⟨[],[]⟩)] [.l (.optr a),.agg [.slice b c d,.slice e f g,.str i,.str j,.str k,.slice l m n,.slice o p q]] h
theorem g_E (w:World)(R:EW)(h:
 True/\True/\(let a:=w.alloc (.cells #[e0s,e0s,.bool false] 281);
 True/\True/\(let b:=a.alloc (.cells #[(P9 (some (adr w.heap.size))),N9 0,.bool false] 140);
 R (R9 (P9 (some (adr a.heap.size)))) b))):CP 78 #[] w R:=
 vcq Tryz.func78 [] [] [] h
end Go.VC
