/- Part of the proof of a law of a rule over documents (TextE), where what the arguments hold is of bulk at most 1048576. -/
import Derived.Test.YtmnhdjhlcgfpkaaGreatBaseB
set_option linter.unusedVariables false
namespace Go.VC
open Go Go.Proofs
set_option maxRecDepth 100000
theorem j_L (a:OA)(b c:Nat)(d:OA)(e f:Nat)(g:BA)(i:BA)(j:BA)(k:OA)(l m:Nat)(n:OA)(o p:Nat)(q:OA)(r s:Nat)(t:OA)(u v:Nat)(x:Value)(w:World)(R:EW)(h:
 True/\(let y:=w.alloc (.cells #[S9 a b c,S9 d e f,T9 g,T9 i,T9 j,S9 k l m,S9 n o p] 40);
 True/\(let z:=y.alloc (.cells #[S9 q r s,S9 t u v] 30);
 Cp 78 #[] z (fun A B=>(KeepT 40 z B/\KeepT 30 z B/\True)/\∀ C,C=B.drew->Cp 79 #[P9 A,(.agg #[S9 a b c,S9 d e f,T9 g,T9 i,T9 j,S9 k l m,S9 n o p])] C (fun D E=>(KeepT 40 C E/\KeepT 30 C E/\True)/\((0=0)/\True)/\Cp 80 #[P9 A,(.agg #[S9 q r s,S9 t u v])] E (fun F G=>(KeepT 40 E G/\KeepT 30 E G/\True)/\True/\True/\True/\Pt A fun H=>Lb G (H.add 2) fun I=>(Br I (R (R9 (.tuple #[N9 0,.bool false])) G) (True/\(let J:=G.alloc (.cells #[N9 0] 3);
 Off J (adr G.heap.size) 1 [40,30]/\True/\(let K:=(J.setCell (adr G.heap.size) (N9 0));
 True/\True/\(let L:=K.alloc (.cells #[z0s,z0s,z0s,z0s,z0s,z0s,z0s,z0s,z0s] 152);
 ∃ M N,x=.func (.func M) #[] N.toArray/\∃ O,Tryz.prog.funcs[M]? =some O/\(O.name== "runtime.NumGoroutine" ||O.body.isNone)=false/\CP M ([(P9 (some (adr K.heap.size))),(.func (.func 119) #[] #[(P9 (some (adr G.heap.size)))])]++N).toArray L (fun P Q=>P=R9 (.tuple #[])/\(KeepT 40 L Q/\KeepT 30 L Q/\True)/\C0 92 #[P9 D,P9 F,(P9 (some (adr K.heap.size)))] Q (fun S=>(KeepT 40 Q S/\KeepT 30 Q S/\True)/\Li S (adr G.heap.size) fun U=>R (R9 (.tuple #[N9 U,.bool true])) S))))))))))))):CP 54 #[(.agg #[S9 a b c,S9 d e f,T9 g,T9 i,T9 j,S9 k l m,S9 n o p]),(.agg #[S9 q r s,S9 t u v]),x] w R:=
 vcq Tryz.func54 [3,4] [] [.agg [.slice a b c,.slice d e f,.str g,.str i,.str j,.slice k l m,.slice n o p],.agg [.slice q r s,.slice t u v],.l (.val x)] h
theorem k_t (a:OA)(b:OA)(c:OA)(w:World)(R:EW)(h:
 True/\True/\(let d:=w.alloc (.cells #[P9 none,P9 none,P9 none,.map none,P9 none,.map none] 234);
 Off d (adr w.heap.size) 6 []/\True/\(let e:=((((((d.setCell (adr w.heap.size) (P9 c)).setCell ((adr w.heap.size).add 1) (P9 a)).setCell ((adr w.heap.size).add 2) (P9 b)).setCell ((adr w.heap.size).add 3) (.map none)).setCell ((adr w.heap.size).add 4) (P9 none)).setCell ((adr w.heap.size).add 5) (.map none));
 C0 149 #[(P9 (some (adr w.heap.size)))] e (fun f=>True/\R (R9 (.tuple #[])) f)))):CP 92 #[P9 a,P9 b,P9 c] w R:=
 vcq Tryz.func92 [] [] [.l (.optr a),.l (.optr b),.l (.optr c)] h
theorem e_G (a:OA)(w:World)(R:EW)(h:
 Pt a fun b=>Lp w (b.add 2) fun c=>Pt c fun d=>Ll w (d.add 1) fun e f g=>let i:=w.alloc (.map #[] 0);
 Pt a fun j=>Off i (j.add 5) 1 []/\True/\(let k:=(i.setCell (j.add 5) (.map (some w.heap.size)));
 Pt a fun l=>Lp k (l.add 2) fun m=>Pt m fun n=>Ll k (n.add 1) fun o p q=>∃ (r:Int->World->Prop) (s:Int->World->Nat),r 0 k/\
 (∀ t:Int,∀ u:World,r t u->
 (Br (decide (t<(p:Int))) (∀ v:World->Prop,(∀ x:World,
 ((r (wr (t+1)) x/\s (wr (t+1)) x<s t u))->
 v x)->
 Ix o t p fun y=>Lp u (y.add (t.toNat*1)) fun z=>∀ A,A=u.drew->Pt a fun B=>Lm A (B.add 5) fun C=>Pt z fun D=>Ls A (D.add 1) fun E=>∃ F,∃ G,(Instr.lookup 232 (.map C) (T9 E) true).run Tryz.prog A=.ok (.tuple #[P9 F,.bool G]) A/\True/\True/\(Br (!G) (∀ H,H=A.drew->Pt a fun I=>Lm H (I.add 5) fun J=>Pt z fun K=>Ls H (K.add 1) fun L=>∃ M,(Instr.mapUpdate 232 (.map J) (T9 L) (P9 z)).run Tryz.prog H=.ok () M/\True/\True/\v M) (v A))) (Pt a fun N=>Lp u (N.add 2) fun O=>Pt O fun P=>Ll u P fun Q S U=>∃ (V:Int->World->Prop) (W:Int->World->Nat),V 0 u/\
 (∀ X:Int,∀ Y:World,V X Y->
 (Br (decide (X<(S:Int))) (Ix Q X S fun Z=>Lp Y (Z.add (X.toNat*1)) fun aa=>let ab:=Y.alloc (.map #[] 0);
 Pt a fun ac=>Off ab (ac.add 3) 1 []/\True/\(let ad:=(ab.setCell (ac.add 3) (.map (some Y.heap.size)));
 C0 192 #[P9 a,P9 aa] ad (fun ae=>True/\(V (wr (X+1)) ae/\W (wr (X+1)) ae<W X Y)))) (Pt a fun af=>Lp Y (af.add 2) fun ag=>Pt ag fun ah=>Ll Y (ah.add 1) fun ai aj ak=>∃ (al:Int->World->Prop) (am:Int->World->Nat),al 0 Y/\
 (∀ an:Int,∀ ao:World,al an ao->
 (Br (decide (an<(aj:Int))) (Ix ai an aj fun ap=>Lp ao (ap.add (an.toNat*1)) fun aq=>let ar:=ao.alloc (.map #[] 0);
 Pt a fun au=>Off ar (au.add 3) 1 []/\True/\(let av:=(ar.setCell (au.add 3) (.map (some ao.heap.size)));
 C0 193 #[P9 a,P9 aq] av (fun ax=>True/\(al (wr (an+1)) ax/\am (wr (an+1)) ax<am an ao)))) (R (R9 (.tuple #[])) ao))))))))))):CP 149 #[P9 a] w R:=
 vcq Tryz.func149 [] [(6,⟨[(30,.int .i64)],[]⟩),(13,⟨[],[]⟩),(29,⟨[(66,.int .i64)],[]⟩),(47,⟨[(86,.int .i64)],[]⟩)] [.l (.optr a)] h
theorem c_j (a:OA)(b:OA)(w:World)(R:EW)(h:
 Pt a fun c=>Off w (c.add 4) 1 []/\True/\(let d:=(w.setCell (c.add 4) (P9 b));
 Pt b fun e=>Ll d (e.add 3) fun f g i=>∃ (j:Int->World->Prop) (k:Int->World->Nat),j 0 d/\
 (∀ l:Int,∀ m:World,j l m->
 (Br (decide (l<(g:Int))) (∀ n:World->Prop,(∀ o:World,
 ((j (wr (l+1)) o/\k (wr (l+1)) o<k l m))->
 n o)->
 Ix f l g fun p=>Lp m (p.add (l.toNat*1)) fun q=>∀ r,r=m.drew->Pt a fun s=>Lp r (s.add 1) fun t=>Pt t fun u=>Lm r (u.add 4) fun v=>Pt q fun x=>Lp r (x.add 2) fun y=>Cs 205 #[P9 y] r (fun z A=>True/\((A.cell? (u.add 4)=r.cell? (u.add 4))/\(A.cell? (s.add 1)=r.cell? (s.add 1))/\True)/\∃ B,(Instr.lookup 226 (.map v) (T9 z) false).run Tryz.prog A=.ok (P9 B) A/\Pt q fun C=>Off A (C.add 7) 1 []/\True/\(let D:=(A.setCell (C.add 7) (P9 B));
 True/\Pt a fun E=>Lp D E fun F=>Pt F fun G=>Ll D (G.add 8) fun H I J=>∃ (K:Int->World->Prop) (L:Int->World->Nat),K 0 D/\
 (∀ M:Int,∀ N:World,K M N->
 (Br (decide (M<(I:Int))) (Ix H M I fun O=>Lv N (O.add (M.toNat*1)) fun P=>∃ Q S,P=.func (.func Q) #[] S.toArray/\∃ U,Tryz.prog.funcs[Q]? =some U/\(U.name== "runtime.NumGoroutine" ||U.body.isNone)=false/\CP Q ([P9 a,P9 q]++S).toArray N (fun V W=>V=R9 (.tuple #[])/\True/\(K (wr (M+1)) W/\L (wr (M+1)) W<L M N))) (Pt q fun X=>Lp N (X.add 3) fun Y=>(Br (!Y.isNone) (∀ Z,Z=N.drew->Pt q fun aa=>Lp Z (aa.add 3) fun ab=>Pt q fun ac=>Lp Z (ac.add 2) fun ad=>Pt ab fun ae=>Off Z (ae.add 7) 1 []/\True/\(let af:=(Z.setCell (ae.add 7) (P9 ad));
 True/\∀ ag,ag=af.drew->Pt q fun ah=>Lp ag (ah.add 3) fun ai=>Pt a fun aj=>Lp ag (aj.add 1) fun ak=>Pt ak fun al=>Lm ag (al.add 4) fun am=>Pt q fun an=>Lp ag (an.add 2) fun ao=>Cs 205 #[P9 ao] ag (fun ap aq=>True/\((aq.cell? (al.add 4)=ag.cell? (al.add 4))/\(aq.cell? (aj.add 1)=ag.cell? (aj.add 1))/\(aq.cell? (ah.add 3)=ag.cell? (ah.add 3))/\True)/\∃ ar,(Instr.lookup 226 (.map am) (T9 ap) false).run Tryz.prog aq=.ok (P9 ar) aq/\Pt ai fun au=>Off aq (au.add 5) 1 []/\True/\(let av:=(aq.setCell (au.add 5) (P9 ar));
 True/\n av)))) (n N)))))))) (∀ ax:OA->BA->World->Prop,(∀ ay:OA,∀ az:BA,∀ aA:World,
 (Pt b fun aB=>Ll aA (aB.add 3) fun aC aD aE=>∃ (aF:Int->World->Prop) (aG:Int->World->Nat),aF 0 aA/\
 (∀ aH:Int,∀ aI:World,aF aH aI->
 (Br (decide (aH<(aD:Int))) (Ix aC aH aD fun aJ=>Lp aI (aJ.add (aH.toNat*1)) fun aK=>∀ aL:World->Prop,(∀ aM:World,
 (∀ aN,aN=aM.drew->Pt aK fun aO=>Lp aN (aO.add 7) fun aP=>Pt aK fun aQ=>Ll aN (aQ.add 4) fun aS aU aV=>C0 207 #[P9 a,P9 aP,S9 aS aU aV,(T9 (⟨#[86,65,82,73,65,66,76,69,95,68,69,70,73,78,73,84,73,79,78]⟩:BA))] aN (fun aW=>True/\True/\(aF (wr (aH+1)) aW/\aG (wr (aH+1)) aW<aG aH aI)))->
 aL aM)->
 Pt aK fun aX=>Lp aI (aX.add 3) fun aY=>(Br (!aY.isNone) (Pt aK fun aZ=>Lp aI (aZ.add 3) fun ba=>C0 206 #[P9 a,P9 ba] aI (fun bb=>True/\aL bb)) (aL aI))) (Pt b fun bc=>Ll aI (bc.add 4) fun bd be bf=>C0 207 #[P9 a,P9 ay,S9 bd be bf,T9 az] aI (fun bg=>True/\Pt b fun bh=>Ll bg (bh.add 5) fun bi bj bk=>C0 208 #[P9 a,P9 ay,S9 bi bj bk] bg (fun bl=>True/\Pt a fun bm=>Lp bl bm fun bn=>Pt bn fun bo=>Ll bl bo fun bp bq br=>∃ (bs:Int->World->Prop) (bt:Int->World->Nat),bs 0 bl/\
 (∀ bu:Int,∀ bv:World,bs bu bv->
 (Br (decide (bu<(bq:Int))) (Ix bp bu bq fun bx=>Lv bv (bx.add (bu.toNat*1)) fun bz=>∃ bA bB,bz=.func (.func bA) #[] bB.toArray/\∃ bC,Tryz.prog.funcs[bA]? =some bC/\(bC.name== "runtime.NumGoroutine" ||bC.body.isNone)=false/\CP bA ([P9 a,P9 b]++bB).toArray bv (fun bD bE=>bD=R9 (.tuple #[])/\True/\(bs (wr (bu+1)) bE/\bt (wr (bu+1)) bE<bt bu bv))) (Pt a fun bF=>Off bv (bF.add 4) 1 []/\True/\(let bG:=(bv.setCell (bF.add 4) (P9 none));
 R (R9 (.tuple #[])) bG))))))))))->
 ax ay az aA)->
 Pt b fun bH=>Ls m (bH.add 1) fun bI=>∀ bJ:Bool->World->Prop,(∀ bK:Bool,∀ bL:World,
 ((Br bK (Pt a fun bM=>Lp bL (bM.add 1) fun bN=>Pt bN fun bO=>Lp bL bO fun bP=>ax bP (⟨#[81,85,69,82,89]⟩:BA) bL) ((Br (bI.toList==(⟨#[109,117,116,97,116,105,111,110]⟩:BA).toList) (Pt a fun bQ=>Lp bL (bQ.add 1) fun bS=>Pt bS fun bU=>Lp bL (bU.add 1) fun bV=>ax bV (⟨#[77,85,84,65,84,73,79,78]⟩:BA) bL) ((Br (bI.toList==(⟨#[115,117,98,115,99,114,105,112,116,105,111,110]⟩:BA).toList) (Pt a fun bW=>Lp bL (bW.add 1) fun bX=>Pt bX fun bY=>Lp bL (bY.add 2) fun bZ=>ax bZ (⟨#[83,85,66,83,67,82,73,80,84,73,79,78]⟩:BA) bL) (ax none (⟨#[]⟩:BA) bL)))))))->
 bJ bK bL)->
 (Br (bI.toList==(⟨#[113,117,101,114,121]⟩:BA).toList) (bJ true m) (bJ (bI.toList==(⟨#[]⟩:BA).toList) m))))))):CP 192 #[P9 a,P9 b] w R:=
 vcq Tryz.func192 [] [(6,⟨[(23,.int .i64)],[]⟩),(13,⟨[],[]⟩),(23,⟨[(51,.int .i64)],[]⟩),(48,⟨[(8,.ptr),(9,.str)],[]⟩),(52,⟨[(99,.bool)],[]⟩),(79,⟨[(132,.int .i64)],[]⟩),(90,⟨[],[]⟩),(106,⟨[(181,.int .i64)],[]⟩)] [.l (.optr a),.l (.optr b)] h
theorem c_o (a:OA)(b:OA)(w:World)(R:EW)(h:
 ∀ c,c=w.drew->Pt a fun d=>Lp c (d.add 1) fun e=>Pt e fun f=>Lm c (f.add 4) fun g=>Pt b fun i=>Ls c (i.add 3) fun j=>∃ k,(Instr.lookup 226 (.map g) (T9 j) false).run Tryz.prog c=.ok (P9 k) c/\True/\Pt b fun l=>Off c (l.add 6) 1 []/\True/\(let m:=(c.setCell (l.add 6) (P9 k));
 Pt b fun n=>Ll m (n.add 4) fun o p q=>C0 207 #[P9 a,P9 k,S9 o p q,(T9 (⟨#[70,82,65,71,77,69,78,84,95,68,69,70,73,78,73,84,73,79,78]⟩:BA))] m (fun r=>True/\Pt b fun s=>Ll r (s.add 5) fun t u v=>C0 208 #[P9 a,P9 k,S9 t u v] r (fun x=>True/\Pt a fun y=>Lp x y fun z=>Pt z fun A=>Ll x (A.add 2) fun B C D=>∃ (E:Int->World->Prop) (F:Int->World->Nat),E 0 x/\
 (∀ G:Int,∀ H:World,E G H->
 (Br (decide (G<(C:Int))) (Ix B G C fun I=>Lv H (I.add (G.toNat*1)) fun J=>∃ K L,J=.func (.func K) #[] L.toArray/\∃ M,Tryz.prog.funcs[K]? =some M/\(M.name== "runtime.NumGoroutine" ||M.body.isNone)=false/\CP K ([P9 a,P9 b]++L).toArray H (fun N O=>N=R9 (.tuple #[])/\True/\(E (wr (G+1)) O/\F (wr (G+1)) O<F G H))) (R (R9 (.tuple #[])) H))))))):CP 193 #[P9 a,P9 b] w R:=
 vcq Tryz.func193 [] [(11,⟨[(45,.int .i64)],[]⟩)] [.l (.optr a),.l (.optr b)] h
theorem c_W (a:OA)(b:OA)(w:World)(R:EW)(h:
 ∀ c:World->Prop,(∀ d:World,
 (∀ e:World->Prop,(∀ f:World,
 (∀ g:World->Prop,(∀ i:World,
 (Pt a fun j=>Lp i j fun k=>Pt k fun l=>Ll i (l.add 7) fun m n o=>∃ (p:Int->World->Prop) (q:Int->World->Nat),p 0 i/\
 (∀ r:Int,∀ s:World,p r s->
 (Br (decide (r<(n:Int))) (Ix m r n fun t=>Lv s (t.add (r.toNat*1)) fun u=>∃ v x,u=.func (.func v) #[] x.toArray/\∃ y,Tryz.prog.funcs[v]? =some y/\(y.name== "runtime.NumGoroutine" ||y.body.isNone)=false/\CP v ([P9 a,P9 b]++x).toArray s (fun z A=>z=R9 (.tuple #[])/\True/\(p (wr (r+1)) A/\q (wr (r+1)) A<q r s))) (R (R9 (.tuple #[])) s))))->
 g i)->
 Pt b fun B=>Li f (B.add 2) fun C=>(Br (C==8) (Pt b fun D=>Ll f (D.add 1) fun E F G=>∃ (H:Int->World->Prop) (I:Int->World->Nat),H 0 f/\
 (∀ J:Int,∀ K:World,H J K->
 (Br (decide (J<(F:Int))) (Ix E J F fun L=>Lp K (L.add (J.toNat*1)) fun M=>∀ N:World->Prop,(∀ O:World,
 (Pt M fun P=>Lp O (P.add 1) fun Q=>C0 206 #[P9 a,P9 Q] O (fun S=>True/\(H (wr (J+1)) S/\I (wr (J+1)) S<I J K)))->
 N O)->
 ∀ U:Bool->World->Prop,(∀ V:Bool,∀ W:World,
 ((Br V (∀ X,X=W.drew->Pt M fun Y=>Lp X (Y.add 1) fun Z=>Pt b fun aa=>Lp X (aa.add 7) fun ab=>Pt ab fun ac=>Lp X (ac.add 1) fun ad=>Pt Z fun ae=>Off X (ae.add 7) 1 []/\True/\(let af:=(X.setCell (ae.add 7) (P9 ad));
 True/\∀ ag,ag=af.drew->Pt M fun ah=>Lp ag (ah.add 1) fun ai=>Pt b fun aj=>Lp ag (aj.add 5) fun ak=>Pt ai fun al=>Off ag (al.add 5) 1 []/\True/\(let am:=(ag.setCell (al.add 5) (P9 ak));
 True/\N am))) (N W)))->
 U V W)->
 Pt b fun an=>Lp K (an.add 7) fun ao=>(Br (!ao.isNone) (Pt b fun ap=>Lp K (ap.add 7) fun aq=>Pt aq fun ar=>Lp K (ar.add 1) fun au=>U (!au.isNone) K) (U false K))) (g K)))) (g f)))->
 e f)->
 Pt b fun av=>Li d (av.add 2) fun ax=>(Br (ax==9) (Pt b fun ay=>Ll d (ay.add 1) fun az aA aB=>∃ (aC:Int->World->Prop) (aD:Int->World->Nat),aC 0 d/\
 (∀ aE:Int,∀ aF:World,aC aE aF->
 (Br (decide (aE<(aA:Int))) (Ix az aE aA fun aG=>Lp aF (aG.add (aE.toNat*1)) fun aH=>∀ aI:World->Prop,(∀ aJ:World,
 (Pt aH fun aK=>Lp aJ (aK.add 1) fun aL=>C0 206 #[P9 a,P9 aL] aJ (fun aM=>True/\(aC (wr (aE+1)) aM/\aD (wr (aE+1)) aM<aD aE aF)))->
 aI aJ)->
 Pt b fun aN=>Lp aF (aN.add 5) fun aO=>(Br (!aO.isNone) (∀ aP,aP=aF.drew->Pt b fun aQ=>Lp aP (aQ.add 5) fun aS=>Pt aS fun aU=>Ll aP (aU.add 5) fun aV aW aX=>Pt aH fun aY=>Ls aP aY fun aZ=>Cp 216 #[S9 aV aW aX,T9 aZ] aP (fun ba bb=>True/\True/\True/\(Br (!ba.isNone) (∀ bc,bc=bb.drew->Pt aH fun bd=>Lp bc (bd.add 1) fun be=>Pt ba fun bf=>Lp bc (bf.add 4) fun bg=>Pt be fun bh=>Off bc (bh.add 7) 1 []/\True/\(let bi:=(bc.setCell (bh.add 7) (P9 bg));
 True/\∀ bj:World->Prop,(∀ bk:World,
 (∀ bl,bl=bk.drew->Pt aH fun bm=>Lp bl (bm.add 1) fun bn=>Pt a fun bo=>Lp bl (bo.add 1) fun bp=>Pt bp fun bq=>Lm bl (bq.add 4) fun br=>Pt ba fun bs=>Lp bl (bs.add 4) fun bt=>Cs 205 #[P9 bt] bl (fun bu bv=>True/\((bv.cell? (bq.add 4)=bl.cell? (bq.add 4))/\(bv.cell? (bo.add 1)=bl.cell? (bo.add 1))/\(bv.cell? (bm.add 1)=bl.cell? (bm.add 1))/\True)/\∃ bx,(Instr.lookup 226 (.map br) (T9 bu) false).run Tryz.prog bv=.ok (P9 bx) bv/\Pt bn fun bz=>Off bv (bz.add 5) 1 []/\True/\(let bA:=(bv.setCell (bz.add 5) (P9 bx));
 True/\aI bA)))->
 bj bk)->
 ∀ bB,bB=bi.drew->Pt aH fun bC=>Lp bB (bC.add 1) fun bD=>Pt ba fun bE=>Lp bB (bE.add 3) fun bF=>(Br (!bF.isNone) (Pt ba fun bG=>Lp bB (bG.add 3) fun bH=>Pt bH fun bI=>Li bB (bI.add 2) fun bJ=>Pt bD fun bK=>Off bB (bK.add 8) 1 []/\True/\(let bL:=(bB.setCell (bK.add 8) (.bool (bJ !=6)));
 True/\bj bL)) (Pt bD fun bM=>Off bB (bM.add 8) 1 []/\True/\(let bN:=(bB.setCell (bM.add 8) (.bool false));
 True/\bj bN))))) (aI bb)))) (aI aF))) (e aF)))) (e d)))->
 c d)->
 ∀ bO:Bool->World->Prop,(∀ bP:Bool,∀ bQ:World,
 ((Br bP (∀ bS,bS=bQ.drew->Pt a fun bU=>Lp bS (bU.add 4) fun bV=>Pt bV fun bW=>Ll bS (bW.add 3) fun bX bY bZ=>Pt b fun ca=>Ls bS ca fun cb=>Cp 215 #[S9 bX bY bZ,T9 cb] bS (fun cc cd=>True/\True/\Pt b fun ce=>Off cd (ce.add 6) 1 []/\True/\(let cf:=(cd.setCell (ce.add 6) (P9 cc));
 True/\Pt b fun cg=>Lp cf (cg.add 6) fun ch=>(Br (!ch.isNone) (Pt b fun ci=>Lp cf (ci.add 6) fun cj=>Pt cj fun ck=>Off cf (ck.add 8) 1 []/\True/\(let cl:=(cf.setCell (ck.add 8) (.bool true));
 c cl)) (c cf))))) (c bQ)))->
 bO bP bQ)->
 Pt b fun cm=>Li w (cm.add 2) fun cn=>(Br (cn==0) (Pt a fun co=>Lp w (co.add 4) fun cp=>bO (!cp.isNone) w) (bO false w))):CP 206 #[P9 a,P9 b] w R:=
 vcq Tryz.func206 [] [(0,⟨[],[]⟩),(1,⟨[(22,.bool)],[]⟩),(12,⟨[],[]⟩),(19,⟨[(59,.int .i64)],[]⟩),(30,⟨[],[]⟩),(41,⟨[],[]⟩),(49,⟨[],[]⟩),(56,⟨[(149,.int .i64)],[]⟩),(67,⟨[],[]⟩),(68,⟨[(167,.bool)],[]⟩),(81,⟨[(206,.int .i64)],[]⟩)] [.l (.optr a),.l (.optr b)] h
theorem b_8 (a:OA)(b:OA)(c:OA)(d e:Nat)(f:BA)(w:World)(R:EW)(h:
 ∃ (g:Int->World->Prop) (i:Int->World->Nat),g 0 w/\
 (∀ j:Int,∀ k:World,g j k->
 (Br (decide (j<(d:Int))) (Ix c j d fun l=>Lp k (l.add (j.toNat*1)) fun m=>∀ n,n=k.drew->Pt a fun o=>Lp n (o.add 1) fun p=>Pt p fun q=>Lm n (q.add 5) fun r=>Pt m fun s=>Ls n s fun t=>∃ u,(Instr.lookup 227 (.map r) (T9 t) false).run Tryz.prog n=.ok (P9 u) n/\True/\Pt m fun v=>Off n (v.add 4) 1 []/\True/\(let x:=(n.setCell (v.add 4) (P9 u));
 Pt m fun y=>Off x (y.add 3) 1 []/\True/\(let z:=(x.setCell (y.add 3) (P9 b));
 Pt m fun A=>Off z (A.add 5) 1 []/\True/\(let B:=(z.setCell (A.add 5) (T9 f));
 Pt m fun C=>Ll B (C.add 1) fun D E F=>∃ (G:Int->World->Prop) (H:Int->World->Nat),G 0 B/\
 (∀ I:Int,∀ J:World,G I J->
 (Br (decide (I<(E:Int))) (Ix D I E fun K=>Lp J (K.add (I.toNat*1)) fun L=>∀ M:OA->World->Prop,(∀ N:OA,∀ O:World,
 (C0 218 #[P9 a,P9 N,P9 L] O (fun P=>True/\(G (wr (I+1)) P/\H (wr (I+1)) P<H I J)))->
 M N O)->
 (Br (!u.isNone) (∀ Q,Q=J.drew->Pt u fun S=>Ll Q (S.add 2) fun U V W=>Pt L fun X=>Ls Q X fun Y=>Cp 217 #[S9 U V W,T9 Y] Q (fun Z aa=>True/\True/\True/\M Z aa)) (M none J))) (Pt a fun ab=>Lp J ab fun ac=>Pt ac fun ad=>Ll J (ad.add 5) fun ae af ag=>∃ (ah:Int->World->Prop) (ai:Int->World->Nat),ah 0 J/\
 (∀ aj:Int,∀ ak:World,ah aj ak->
 (Br (decide (aj<(af:Int))) (Ix ae aj af fun al=>Lv ak (al.add (aj.toNat*1)) fun am=>∃ an ao,am=.func (.func an) #[] ao.toArray/\∃ ap,Tryz.prog.funcs[an]? =some ap/\(ap.name== "runtime.NumGoroutine" ||ap.body.isNone)=false/\CP an ([P9 a,P9 m]++ao).toArray ak (fun aq ar=>aq=R9 (.tuple #[])/\True/\(ah (wr (aj+1)) ar/\ai (wr (aj+1)) ar<ai aj ak))) ((g (wr (j+1)) ak/\i (wr (j+1)) ak<i j k))))))))))) (Pt a fun au=>Lp k au fun av=>Pt av fun ax=>Ll k (ax.add 6) fun ay az aA=>∃ (aB:Int->World->Prop) (aC:Int->World->Nat),aB 0 k/\
 (∀ aD:Int,∀ aE:World,aB aD aE->
 (Br (decide (aD<(az:Int))) (Ix ay aD az fun aF=>Lv aE (aF.add (aD.toNat*1)) fun aG=>∃ aH aI,aG=.func (.func aH) #[] aI.toArray/\∃ aJ,Tryz.prog.funcs[aH]? =some aJ/\(aJ.name== "runtime.NumGoroutine" ||aJ.body.isNone)=false/\CP aH ([P9 a,S9 c d e]++aI).toArray aE (fun aK aL=>aK=R9 (.tuple #[])/\True/\(aB (wr (aD+1)) aL/\aC (wr (aD+1)) aL<aC aD aE))) (R (R9 (.tuple #[])) aE))))))):CP 207 #[P9 a,P9 b,S9 c d e,T9 f] w R:=
 vcq Tryz.func207 [] [(4,⟨[(20,.int .i64)],[]⟩),(27,⟨[(53,.int .i64)],[]⟩),(40,⟨[(13,.ptr)],[]⟩),(51,⟨[(81,.int .i64)],[]⟩),(68,⟨[(99,.int .i64)],[]⟩)] [.l (.optr a),.l (.optr b),.l (.slice c d e),.l (.str f)] h
theorem b_X (a:OA)(b:OA)(c:OA)(d e:Nat)(w:World)(R:EW)(h:
 ∃ (f:Int->World->Prop) (g:Int->World->Nat),f 0 w/\
 (∀ i:Int,∀ j:World,f i j->
 (Br (decide (i<(d:Int))) (Ix c i d fun k=>Lo j (k.add (i.toNat*1)) fun l=>C0 219 #[P9 a,P9 b,(ifcV l)] j (fun m=>True/\(f (wr (i+1)) m/\g (wr (i+1)) m<g i j))) (R (R9 (.tuple #[])) j)))):CP 208 #[P9 a,P9 b,S9 c d e] w R:=
 vcq Tryz.func208 [] [(3,⟨[(10,.int .i64)],[]⟩)] [.l (.optr a),.l (.optr b),.l (.slice c d e)] h
theorem b_l (a:OA)(b c:Nat)(d:BA)(w:World)(R:EW)(h:
 ∃ (e:Int->World->Prop) (f:Int->World->Nat),e 0 w/\
 (∀ g:Int,∀ i:World,e g i->
 (Br (decide (g<(b:Int))) (Ix a g b fun j=>Lp i (j.add (g.toNat*1)) fun k=>Pt k fun l=>Ls i (l.add 1) fun m=>(Br (m.toList==d.toList) (R (R9 (P9 k)) i) ((e (wr (g+1)) i/\f (wr (g+1)) i<f g i)))) (R (R9 (P9 none)) i)))):CP 215 #[S9 a b c,T9 d] w R:=
 vcq Tryz.func215 [] [(6,⟨[(9,.int .i64)],[]⟩)] [.l (.slice a b c),.l (.str d)] h
theorem c_V (a:OA)(b c:Nat)(d:BA)(w:World)(R:EW)(h:
 ∃ (e:Int->World->Prop) (f:Int->World->Nat),e 0 w/\
 (∀ g:Int,∀ i:World,e g i->
 (Br (decide (g<(b:Int))) (Ix a g b fun j=>Lp i (j.add (g.toNat*1)) fun k=>Pt k fun l=>Ls i (l.add 1) fun m=>(Br (m.toList==d.toList) (R (R9 (P9 k)) i) ((e (wr (g+1)) i/\f (wr (g+1)) i<f g i)))) (R (R9 (P9 none)) i)))):CP 216 #[S9 a b c,T9 d] w R:=
 vcq Tryz.func216 [] [(6,⟨[(9,.int .i64)],[]⟩)] [.l (.slice a b c),.l (.str d)] h
theorem c_n (a:OA)(b:OA)(c:OA)(w:World)(R:EW)(h:
 ∀ d:World->Prop,(∀ e:World,
 (Pt c fun f=>Lp e (f.add 1) fun g=>C0 206 #[P9 a,P9 g] e (fun i=>True/\R (R9 (.tuple #[])) i))->
 d e)->
 (Br (!b.isNone) (∀ j,j=w.drew->Pt c fun k=>Lp j (k.add 1) fun l=>Pt b fun m=>Lp j (m.add 3) fun n=>Pt l fun o=>Off j (o.add 7) 1 []/\True/\(let p:=(j.setCell (o.add 7) (P9 n));
 True/\∀ q:World->Prop,(∀ r:World,
 (∀ s,s=r.drew->Pt c fun t=>Lp s (t.add 1) fun u=>Pt a fun v=>Lp s (v.add 1) fun x=>Pt x fun y=>Lm s (y.add 4) fun z=>Pt b fun A=>Lp s (A.add 3) fun B=>Cs 205 #[P9 B] s (fun C D=>True/\((D.cell? (y.add 4)=s.cell? (y.add 4))/\(D.cell? (v.add 1)=s.cell? (v.add 1))/\(D.cell? (t.add 1)=s.cell? (t.add 1))/\True)/\∃ E,(Instr.lookup 226 (.map z) (T9 C) false).run Tryz.prog D=.ok (P9 E) D/\Pt u fun F=>Off D (F.add 5) 1 []/\True/\(let G:=(D.setCell (F.add 5) (P9 E));
 True/\d G)))->
 q r)->
 ∀ H,H=p.drew->Pt c fun I=>Lp H (I.add 1) fun J=>Pt b fun K=>Lp H (K.add 2) fun L=>(Br (!L.isNone) (Pt b fun M=>Lp H (M.add 2) fun N=>Pt N fun O=>Li H (O.add 2) fun P=>Pt J fun Q=>Off H (Q.add 8) 1 []/\True/\(let S:=(H.setCell (Q.add 8) (.bool (P !=6)));
 True/\q S)) (Pt J fun U=>Off H (U.add 8) 1 []/\True/\(let V:=(H.setCell (U.add 8) (.bool false));
 True/\q V))))) (d w))):CP 218 #[P9 a,P9 b,P9 c] w R:=
 vcq Tryz.func218 [] [(0,⟨[],[]⟩),(6,⟨[],[]⟩)] [.l (.optr a),.l (.optr b),.l (.optr c)] h
theorem a_K (a:OA)(b:OA)(c:Option (TypeId × Value))(w:World)(R:EW)(h:
 ∀ d:Bool->OA->World->Prop,(∀ e:Bool,∀ f:OA,∀ g:World,
 ((Br e (∀ i:OA->World->Prop,(∀ j:OA,∀ k:World,
 (Pt f fun l=>Off k (l.add 7) 1 []/\True/\(let m:=(k.setCell (l.add 7) (P9 j));
 Pt f fun n=>Off m (n.add 8) 1 []/\True/\(let o:=(m.setCell (n.add 8) (P9 b));
 ∀ p:OA->World->Prop,(∀ q:OA,∀ r:World,
 (Pt f fun s=>Ll r (s.add 2) fun t u v=>∃ (x:Int->World->Prop) (y:Int->World->Nat),x 0 r/\
 (∀ z:Int,∀ A:World,x z A->
 (Br (decide (z<(u:Int))) (Ix t z u fun B=>Lp A (B.add (z.toNat*1)) fun C=>∀ D:OA->World->Prop,(∀ E:OA,∀ F:World,
 (C0 218 #[P9 a,P9 E,P9 C] F (fun G=>True/\(x (wr (z+1)) G/\y (wr (z+1)) G<y z A)))->
 D E F)->
 (Br (!j.isNone) (∀ H,H=A.drew->Pt j fun I=>Ll H (I.add 2) fun J K L=>Pt C fun M=>Ls H M fun N=>Cp 217 #[S9 J K L,T9 N] H (fun O P=>True/\True/\True/\D O P)) (D none A))) (Pt f fun Q=>Ll A (Q.add 3) fun S U V=>C0 207 #[P9 a,P9 q,S9 S U V,(T9 (⟨#[70,73,69,76,68]⟩:BA))] A (fun W=>True/\Pt f fun X=>Ll W (X.add 4) fun Y Z aa=>C0 208 #[P9 a,P9 q,S9 Y Z aa] W (fun ab=>True/\Pt a fun ac=>Lp ab ac fun ad=>Pt ad fun ae=>Ll ab (ae.add 1) fun af ag ah=>∃ (ai:Int->World->Prop) (aj:Int->World->Nat),ai 0 ab/\
 (∀ ak:Int,∀ al:World,ai ak al->
 (Br (decide (ak<(ag:Int))) (Ix af ak ag fun am=>Lv al (am.add (ak.toNat*1)) fun an=>∃ ao ap,an=.func (.func ao) #[] ap.toArray/\∃ aq,Tryz.prog.funcs[ao]? =some aq/\(aq.name== "runtime.NumGoroutine" ||aq.body.isNone)=false/\CP ao ([P9 a,P9 f]++ap).toArray al (fun ar au=>ar=R9 (.tuple #[])/\True/\(ai (wr (ak+1)) au/\aj (wr (ak+1)) au<aj ak al))) (R (R9 (.tuple #[])) al)))))))))->
 p q r)->
 (Br (!j.isNone) (∀ av,av=o.drew->Pt a fun ax=>Lp av (ax.add 1) fun ay=>Pt ay fun az=>Lm av (az.add 4) fun aA=>Pt j fun aB=>Lp av (aB.add 4) fun aC=>Cs 205 #[P9 aC] av (fun aD aE=>True/\((aE.cell? (az.add 4)=av.cell? (az.add 4))/\(aE.cell? (ax.add 1)=av.cell? (ax.add 1))/\True)/\∃ aF,(Instr.lookup 226 (.map aA) (T9 aD) false).run Tryz.prog aE=.ok (P9 aF) aE/\True/\p aF aE)) (p none o)))))->
 i j k)->
 Pt f fun aG=>Ls g (aG.add 1) fun aH=>(Br (aH.toList==(⟨#[95,95,116,121,112,101,110,97,109,101]⟩:BA).toList) (Cp 228 #[(T9 (⟨#[83,116,114,105,110,103]⟩:BA)),P9 none] g (fun aI aJ=>True/\True/\True/\(let aK:=aJ.alloc (.cells #[e0s,(T9 (⟨#[95,95,116,121,112,101,110,97,109,101]⟩:BA)),z0s,P9 none,P9 aI,z0s,P9 none,P9 none,P9 none] 176);
 i (some (adr aJ.heap.size)) aK))) ((Br (!b.isNone) (∀ aL,aL=g.drew->Pt b fun aM=>Ll aL (aM.add 5) fun aN aO aP=>Pt f fun aQ=>Ls aL (aQ.add 1) fun aS=>Cp 216 #[S9 aN aO aP,T9 aS] aL (fun aU aV=>True/\True/\True/\i aU aV)) (i none g))))) (∀ aW:Bool->OA->World->Prop,(∀ aX:Bool,∀ aY:OA,∀ aZ:World,
 ((Br aX (Pt aY fun ba=>Off aZ (ba.add 3) 1 []/\True/\(let bb:=(aZ.setCell (ba.add 3) (P9 b));
 ∀ bc:OA->World->Prop,(∀ bd:OA,∀ be:World,
 (Pt aY fun bf=>Ll be (bf.add 1) fun bg bh bi=>C0 207 #[P9 a,P9 bd,S9 bg bh bi,(T9 (⟨#[73,78,76,73,78,69,95,70,82,65,71,77,69,78,84]⟩:BA))] be (fun bj=>True/\Pt aY fun bk=>Ll bj (bk.add 2) fun bl bm bn=>C0 208 #[P9 a,P9 bd,S9 bl bm bn] bj (fun bo=>True/\Pt a fun bp=>Lp bo bp fun bq=>Pt bq fun br=>Ll bo (br.add 3) fun bs bt bu=>∃ (bv:Int->World->Prop) (bx:Int->World->Nat),bv 0 bo/\
 (∀ bz:Int,∀ bA:World,bv bz bA->
 (Br (decide (bz<(bt:Int))) (Ix bs bz bt fun bB=>Lv bA (bB.add (bz.toNat*1)) fun bC=>∃ bD bE,bC=.func (.func bD) #[] bE.toArray/\∃ bF,Tryz.prog.funcs[bD]? =some bF/\(bF.name== "runtime.NumGoroutine" ||bF.body.isNone)=false/\CP bD ([P9 a,P9 aY]++bE).toArray bA (fun bG bH=>bG=R9 (.tuple #[])/\True/\(bv (wr (bz+1)) bH/\bx (wr (bz+1)) bH<bx bz bA))) (R (R9 (.tuple #[])) bA))))))->
 bc bd be)->
 Pt aY fun bI=>Ls bb bI fun bJ=>(Br (!(bJ.toList==(⟨#[]⟩:BA).toList)) (∀ bK,bK=bb.drew->Pt a fun bL=>Lp bK (bL.add 1) fun bM=>Pt bM fun bN=>Lm bK (bN.add 4) fun bO=>Pt aY fun bP=>Ls bK bP fun bQ=>∃ bS,(Instr.lookup 226 (.map bO) (T9 bQ) false).run Tryz.prog bK=.ok (P9 bS) bK/\True/\bc bS bK) (bc b bb)))) (∀ bU:Bool->OA->World->Prop,(∀ bV:Bool,∀ bW:OA,∀ bX:World,
 ((Br bV (∀ bY,bY=bX.drew->Pt a fun bZ=>Lm bY (bZ.add 5) fun ca=>Pt bW fun cb=>Ls bY cb fun cc=>∃ cd,(Instr.lookup 232 (.map ca) (T9 cc) false).run Tryz.prog bY=.ok (P9 cd) bY/\True/\Pt bW fun ce=>Off bY (ce.add 3) 1 []/\True/\(let cf:=(bY.setCell (ce.add 3) (P9 cd));
 Pt bW fun cg=>Off cf (cg.add 2) 1 []/\True/\(let ch:=(cf.setCell (cg.add 2) (P9 b));
 ∀ ci:OA->World->Prop,(∀ cj:OA,∀ ck:World,
 (Pt bW fun cl=>Ll ck (cl.add 1) fun cm cn co=>C0 207 #[P9 a,P9 cj,S9 cm cn co,(T9 (⟨#[70,82,65,71,77,69,78,84,95,83,80,82,69,65,68]⟩:BA))] ck (fun cp=>True/\∀ cq:World->Prop,(∀ cr:World,
 (Pt a fun ct=>Lp cr ct fun cu=>Pt cu fun cv=>Ll cr (cv.add 4) fun cx cy cz=>∃ (cA:Int->World->Prop) (cB:Int->World->Nat),cA 0 cr/\
 (∀ cC:Int,∀ cD:World,cA cC cD->
 (Br (decide (cC<(cy:Int))) (Ix cx cC cy fun cE=>Lv cD (cE.add (cC.toNat*1)) fun cF=>∃ cG cH,cF=.func (.func cG) #[] cH.toArray/\∃ cI,Tryz.prog.funcs[cG]? =some cI/\(cI.name== "runtime.NumGoroutine" ||cI.body.isNone)=false/\CP cG ([P9 a,P9 bW]++cH).toArray cD (fun cJ cK=>cJ=R9 (.tuple #[])/\True/\(cA (wr (cC+1)) cK/\cB (wr (cC+1)) cK<cB cC cD))) (R (R9 (.tuple #[])) cD))))->
 cq cr)->
 ∀ cL:Bool->World->Prop,(∀ cM:Bool,∀ cN:World,
 ((Br cM (∀ cO,cO=cN.drew->Pt a fun cP=>Lm cO (cP.add 3) fun cQ=>Pt cd fun cS=>Ls cO (cS.add 1) fun cU=>∃ cV,(Instr.mapUpdate 231 (.map cQ) (T9 cU) (.bool true)).run Tryz.prog cO=.ok () cV/\True/\True/\Pt cd fun cW=>Ll cV (cW.add 4) fun cX cY cZ=>C0 207 #[P9 a,P9 cj,S9 cX cY cZ,(T9 (⟨#[70,82,65,71,77,69,78,84,95,68,69,70,73,78,73,84,73,79,78]⟩:BA))] cV (fun da=>True/\Pt cd fun db=>Ll da (db.add 5) fun dc dd de=>C0 208 #[P9 a,P9 cj,S9 dc dd de] da (fun df=>True/\cq df))) (cq cN)))->
 cL cM cN)->
 ∀ dg,dg=cp.drew->(Br (!cd.isNone) (Pt a fun dh=>Lm dg (dh.add 3) fun di=>Pt cd fun dj=>Ls dg (dj.add 1) fun dk=>∃ dl,(Instr.lookup 231 (.map di) (T9 dk) false).run Tryz.prog dg=.ok (.bool dl) dg/\cL (!dl) dg) (cL false dg))))->
 ci cj ck)->
 (Br (!cd.isNone) (∀ dm,dm=ch.drew->Pt a fun dn=>Lp dm (dn.add 1) fun dp=>Pt dp fun dq=>Lm dm (dq.add 4) fun dr=>Pt cd fun ds=>Ls dm (ds.add 3) fun dt=>∃ du,(Instr.lookup 226 (.map dr) (T9 dt) false).run Tryz.prog dm=.ok (P9 du) dm/\True/\ci du dm) (ci none ch))))) (CP 148 #[(T9 (⟨#[117,110,115,117,112,112,111,114,116,101,100,32,115,101,108,101,99,116,105,111,110]⟩:BA))] bX (fun dv dx=>∃ dy:Option (TypeId × Value),dv=R9 (ifcV dy)/\True/\False))))->
 bU bV bW bX)->
 ((∀ dz,c=some (180,dz)->∃ dB,dz=(P9 dB)/\bU true dB aZ)/\((∀ dA,c≠some (180,dA))->bU false none aZ)))))->
 aW aX aY aZ)->
 ((∀ dC,c=some (190,dC)->∃ dE,dC=(P9 dE)/\aW true dE g)/\((∀ dD,c≠some (190,dD))->aW false none g)))))->
 d e f g)->
 ((∀ dF,c=some (155,dF)->∃ dH,dF=(P9 dH)/\d true dH w)/\((∀ dG,c≠some (155,dG))->d false none w))):CP 219 #[P9 a,P9 b,(ifcV c)] w R:=
 vcq Tryz.func219 [] [(3,⟨[(27,.bool),(28,.ptr)],[]⟩),(10,⟨[(7,.ptr)],[]⟩),(26,⟨[(8,.ptr)],[]⟩),(36,⟨[(76,.int .i64)],[]⟩),(49,⟨[(11,.ptr)],[]⟩),(64,⟨[(118,.int .i64)],[]⟩),(77,⟨[(128,.bool),(129,.ptr)],[]⟩),(86,⟨[(15,.ptr)],[]⟩),(99,⟨[(174,.int .i64)],[]⟩),(112,⟨[(184,.bool),(185,.ptr)],[]⟩),(125,⟨[(20,.ptr)],[]⟩),(133,⟨[],[]⟩),(134,⟨[(237,.bool)],[]⟩),(146,⟨[(268,.int .i64)],[]⟩)] [.l (.optr a),.l (.optr b),.l (.ifc c)] h
theorem g_z (a:BA)(b:OA)(w:World)(R:EW)(h:
 True/\True/\(let c:=w.alloc (.cells #[T9 a,P9 none,.bool false,P9 b] 262);
 R (R9 (P9 (some (adr w.heap.size)))) c)):CP 228 #[T9 a,P9 b] w R:=
 vcq Tryz.func228 [] [] [.l (.str a),.l (.optr b)] h
theorem b_H (a:OA)(w:World)(R:EW)(h:
 Pt a fun b=>Ls w b fun c=>(Br (!(c.toList==(⟨#[]⟩:BA).toList)) (Pt a fun d=>Ls w d fun e=>R (R9 (T9 e)) w) (Pt a fun f=>Lp w (f.add 1) fun g=>Cs 205 #[P9 g] w (fun i j=>True/\R (R9 (T9 i)) j)))):CP 205 #[P9 a] w R:=
 vcq Tryz.func205 [] [] [.l (.optr a)] h
theorem b_k (a:OA)(b c:Nat)(d:BA)(w:World)(R:EW)(h:
 ∃ (e:Int->World->Prop) (f:Int->World->Nat),e 0 w/\
 (∀ g:Int,∀ i:World,e g i->
 (Br (decide (g<(b:Int))) (Ix a g b fun j=>Lp i (j.add (g.toNat*1)) fun k=>Pt k fun l=>Ls i (l.add 1) fun m=>(Br (m.toList==d.toList) (R (R9 (P9 k)) i) ((e (wr (g+1)) i/\f (wr (g+1)) i<f g i)))) (R (R9 (P9 none)) i)))):CP 217 #[S9 a b c,T9 d] w R:=
 vcq Tryz.func217 [] [(6,⟨[(9,.int .i64)],[]⟩)] [.l (.slice a b c),.l (.str d)] h
theorem h_j (a:OA)(b c:Nat)(d:Addr)(w:World)(R:EW)(h:
 Li w d fun e=>Off w d 1 []/\True/\(let f:=(w.setCell d (N9 (wr (e+1))));
 R (R9 (.tuple #[])) f)):CP 119 #[S9 a b c,(P9 (some d))] w R:=
 vcq Tryz.func119 [] [] [.l (.slice a b c),.l (.ptr d)] h
theorem h_i (a:BA)(b:OA)(c d:Nat)(w:World)(R:EW)(h:
 True/\(let e:=w.alloc (.cells #[T9 a] 9);
 R (R9 (.func (.func 174) #[] #[(P9 (some (adr w.heap.size)))])) e)):CP 123 #[T9 a,S9 b c d] w R:=
 vcq Tryz.func123 [] [] [.l (.str a),.l (.slice b c d)] h
theorem m_M (a:OA)(w:World)(R:EW)(h:
 True/\(let b:=w.alloc (.cells #[P9 a] 162);
 R (R9 (.func (.func 175) #[] #[(P9 (some (adr w.heap.size)))])) b)):CP 124 #[P9 a] w R:=
 vcq Tryz.func124 [] [] [.l (.optr a)] h
theorem g_G (a:OA)(b c:Nat)(d:OA)(e f:Nat)(w:World)(R:EW)(h:
 True/\(let g:=w.alloc (.cells #[S9 a b c,S9 d e f] 30);
 (Br (decide ((b:Int)>2147483647)) (R (R9 (.bool false)) g) ((Br (decide ((e:Int)>2147483647)) (R (R9 (.bool false)) g) (R (R9 (.bool true)) g)))))):CP 9 #[(.agg #[S9 a b c,S9 d e f])] w R:=
 vcq Tryz.func9 [1] [] [.agg [.slice a b c,.slice d e f]] h
theorem k_w (a:Int)(b:Bool)(c:Bool)(w:World)(R:EW)(h:
 ∀ d:Bool->World->Prop,(∀ e:Bool,∀ f:World,
 (R (R9 (.bool e)) f)->
 d e f)->
 (Br b ((Br (decide (a≥0)) (d ((decide (a>0))==c) w) (d false w))) (d false w))):CP 16 #[N9 a,.bool b,.bool c] w R:=
 vcq Tryz.func16 [] [(2,⟨[(6,.bool)],[]⟩)] [.l (.int .i64 a),.l (.bool b),.l (.bool c)] h
end Go.VC
