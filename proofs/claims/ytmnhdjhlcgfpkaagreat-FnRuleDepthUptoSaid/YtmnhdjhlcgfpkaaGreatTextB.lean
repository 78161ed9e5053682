/- Part of the proof of a law of a rule over documents (TextB), where what the arguments hold is of bulk at most 1048576. -/
import Derived.Test.YtmnhdjhlcgfpkaaGreatBaseB
set_option linter.unusedVariables false
namespace Go.VC
open Go Go.Proofs
set_option maxRecDepth 100000
theorem l_J (a:BA)(b:Bool)(w:World)(R:EW)(h:
 CP 220 #[T9 a] w (fun c d=>∃ e f g,∃ i,∃ j,c=R9 (.tuple #[S9 e f g,.bool i,.bool j])/\True/\∀ k:Bool->World->Prop,(∀ l:Bool,∀ m:World,
 ((Br l (R (R9 (.bool false)) m) (∀ n:Bool->World->Prop,(∀ o:Bool,∀ p:World,
 (R (R9 (.bool o)) p)->
 n o p)->
 (Br b (Ix e 0 f fun q=>Li m (q.add ((0:Int).toNat*6)) fun r=>(Nr (r==17) ((Br (!b) (Ix e 0 f fun s=>Li m (s.add ((0:Int).toNat*6)) fun t=>n (t==16) m) (n false m))) (n true m))) ((Br (!b) (Ix e 0 f fun u=>Li m (u.add ((0:Int).toNat*6)) fun v=>n (v==16) m) (n false m)))))))->
 k l m)->
 (Nr (!i) ((Nr ((f:Int) !=1) (Ix e 0 f fun x=>Ls d ((x.add ((0:Int).toNat*6)).add 1) fun y=>k (!(y.toList==a.toList)) d) (k true d))) (k true d)))):CP 209 #[T9 a,.bool b] w R:=
 vcq Tryz.func209 [] [(5,⟨[(28,.bool)],[]⟩),(12,⟨[(4,.bool)],[]⟩)] [.l (.str a),.l (.bool b)] h
theorem p_m (a:BA)(w:World)(R:EW)(h:
 ∃ b c d,∃ e,(convert 9 434 (T9 a)).run Tryz.prog w=.ok (S9 b c d) e/\True/\True/\True/\(let f:=e.alloc (.cells #[S9 b c d,N9 0,z0s,.bool true,N9 0,N9 1,N9 0] 436);
 ∃ (g:World->Prop) (i:World->Nat),g f/\
 (∀ j:World,g j->
 ∀ k,k=j.drew->Li k ((adr e.heap.size).add 1) fun l=>Ll k (adr e.heap.size) fun m n o=>(Br (decide (l<(n:Int))) (Cb 229 #[(P9 (some (adr e.heap.size)))] k (fun p q=>True/\(Br (!p) (∀ r,r=q.drew->Lb r ((adr e.heap.size).add 3) fun s=>((r.cell? ((adr e.heap.size).add 3)=r.cell? ((adr e.heap.size).add 3))/\True)/\((r.cell? ((adr e.heap.size).add 3)=r.cell? ((adr e.heap.size).add 3))/\True)/\True/\R (R9 (.tuple #[z0s,.bool false,.bool s])) r) ((g q/\i q<i j))))) (∀ t,t=k.drew->Ll t ((adr e.heap.size).add 2) fun u v x=>Lb t ((adr e.heap.size).add 3) fun y=>((t.cell? ((adr e.heap.size).add 3)=t.cell? ((adr e.heap.size).add 3))/\True)/\((t.cell? ((adr e.heap.size).add 3)=t.cell? ((adr e.heap.size).add 3))/\True)/\True/\R (R9 (.tuple #[S9 u v x,.bool true,.bool y])) t))))):CP 220 #[T9 a] w R:=
 vcq Tryz.func220 [] [(6,⟨[],[]⟩)] [.l (.str a)] h
theorem i_J (a:OA)(w:World)(R:EW)(h:
 ∀ b,b=w.drew->Pt a fun c=>Ll b c fun d e f=>Pt a fun g=>Li b (g.add 1) fun i=>Ix d i e fun j=>∃ k,b.cell? (j.add (i.toNat*1))=some (.int .i32 k)/\Pt a fun l=>Li b (l.add 1) fun m=>((b.cell? (l.add 1)=b.cell? (l.add 1))/\True)/\True/\∀ n:World->Prop,(∀ o:World,
 (R (R9 (.bool true)) o)->
 n o)->
 ∀ p:Bool->World->Prop,(∀ q:Bool,∀ r:World,
 ((Br q (∀ s:World->Prop,(∀ t:World,
 (Pt a fun u=>Li t (u.add 1) fun v=>Pt a fun x=>Off t (x.add 1) 1 []/\True/\(let y:=(t.setCell (x.add 1) (N9 (wr (v+1))));
 n y))->
 s t)->
 ∀ z:Bool->World->Prop,(∀ A:Bool,∀ B:World,
 ((Br A (Pt a fun C=>Off B (C.add 3) 1 []/\True/\(let D:=(B.setCell (C.add 3) (.bool false));
 s D)) (s B)))->
 z A B)->
 (Br (k==65279) (Pt a fun E=>Li r (E.add 1) fun F=>z (decide (F>0)) r) (z false r))) ((Br (k==35) (∃ (G:World->Prop) (H:World->Nat),G r/\
 (∀ I:World,G I->
 ∀ J:Bool->World->Prop,(∀ K:Bool,∀ L:World,
 ((Br K (Pt a fun M=>Li L (M.add 1) fun N=>Pt a fun O=>Off L (O.add 1) 1 []/\True/\(let P:=(L.setCell (O.add 1) (N9 (wr (N+1))));
 (G P/\H P<H I))) (∀ Q,Q=L.drew->Pt a fun S=>Ll Q S fun U V W=>Pt a fun X=>Li Q (X.add 1) fun Y=>(0<=m/\m<=Y/\Y<=(W:Int))/\∃ Z,∃ aa,(convert 434 9 (S9 (if W=m.toNat then U else Option.map (·.add (m.toNat*1)) U) (Y.toNat-m.toNat) (W-m.toNat))).run Tryz.prog Q=.ok (T9 Z) aa/\True/\True/\C0 234 #[P9 a,N9 20,T9 Z,N9 m] aa (fun ab=>True/\True/\n ab))))->
 J K L)->
 ∀ ac,ac=I.drew->Pt a fun ad=>Li ac (ad.add 1) fun ae=>Pt a fun af=>Ll ac af fun ag ah ai=>(Br (decide (ae<(ah:Int))) (Pt a fun aj=>Ll ac aj fun ak al am=>Pt a fun an=>Li ac (an.add 1) fun ao=>Ix ak ao al fun ap=>∃ aq,ac.cell? (ap.add (ao.toNat*1))=some (.int .i32 aq)/\(Br (aq !=10) (Pt a fun ar=>Ll ac ar fun au av ax=>Pt a fun ay=>Li ac (ay.add 1) fun az=>Ix au az av fun aA=>∃ aB,ac.cell? (aA.add (az.toNat*1))=some (.int .i32 aB)/\(Br (aB !=13) (Pt a fun aC=>Ll ac aC fun aD aE aF=>Pt a fun aG=>Li ac (aG.add 1) fun aH=>Ix aD aH aE fun aI=>∃ aJ,ac.cell? (aI.add (aH.toNat*1))=some (.int .i32 aJ)/\Cb 233 #[.int .i32 aJ] ac (fun aK aL=>True/\True/\J aK aL)) (J false ac))) (J false ac))) (J false ac)))) (Ci 235 #[.int .i32 k] r (fun aM aN=>True/\(Br (decide (aM>0)) (Pt a fun aO=>Li aN (aO.add 1) fun aP=>Pt a fun aQ=>Off aN (aQ.add 1) 1 []/\True/\(let aS:=(aN.setCell (aQ.add 1) (N9 (wr (aP+1))));
 Ci 235 #[.int .i32 k] aS (fun aU aV=>True/\C0 234 #[P9 a,N9 aU,e0s,N9 m] aV (fun aW=>True/\n aW)))) ((Br (k==46) (∀ aX:Bool->World->Prop,(∀ aY:Bool,∀ aZ:World,
 ((Br aY (R (R9 (.bool false)) aZ) (Pt a fun ba=>Li aZ (ba.add 1) fun bb=>Pt a fun bc=>Off aZ (bc.add 1) 1 []/\True/\(let bd:=(aZ.setCell (bc.add 1) (N9 (wr (bb+3))));
 C0 234 #[P9 a,N9 6,e0s,N9 m] bd (fun be=>True/\n be)))))->
 aX aY aZ)->
 CP 236 #[P9 a,N9 1] aN (fun bf bg=>∃ bh,bf=R9 (.int .i32 bh)/\True/\(Nr (bh !=46) (CP 236 #[P9 a,N9 2] bg (fun bi bj=>∃ bk,bi=R9 (.int .i32 bk)/\True/\aX (bk !=46) bj)) (aX true bg)))) (Cb 151 #[.int .i32 k] aN (fun bl bm=>True/\(Br bl (∃ (bn:World->Prop) (bo:World->Nat),bn bm/\
 (∀ bp:World,bn bp->
 ∀ bq:Bool->World->Prop,(∀ br:Bool,∀ bs:World,
 ((Br br (Pt a fun bt=>Li bs (bt.add 1) fun bu=>Pt a fun bv=>Off bs (bv.add 1) 1 []/\True/\(let bx:=(bs.setCell (bv.add 1) (N9 (wr (bu+1))));
 (bn bx/\bo bx<bo bp))) (∀ bz,bz=bs.drew->Pt a fun bA=>Ll bz bA fun bB bC bD=>Pt a fun bE=>Li bz (bE.add 1) fun bF=>(0<=m/\m<=bF/\bF<=(bD:Int))/\∃ bG,∃ bH,(convert 434 9 (S9 (if bD=m.toNat then bB else Option.map (·.add (m.toNat*1)) bB) (bF.toNat-m.toNat) (bD-m.toNat))).run Tryz.prog bz=.ok (T9 bG) bH/\True/\True/\C0 234 #[P9 a,N9 15,T9 bG,N9 m] bH (fun bI=>True/\True/\n bI))))->
 bq br bs)->
 CP 236 #[P9 a,N9 0] bp (fun bJ bK=>∃ bL,bJ=R9 (.int .i32 bL)/\True/\Cb 151 #[.int .i32 bL] bK (fun bM bN=>True/\(Nr bM (CP 236 #[P9 a,N9 0] bN (fun bO bP=>∃ bQ,bO=R9 (.int .i32 bQ)/\True/\Cb 152 #[.int .i32 bQ] bP (fun bS bU=>True/\bq bS bU))) (bq true bN)))))) (∀ bV:Bool->World->Prop,(∀ bW:Bool,∀ bX:World,
 ((Br bW (Cb 237 #[P9 a] bX (fun bY bZ=>True/\R (R9 (.bool bY)) bZ)) (∀ ca:Bool->World->Prop,(∀ cb:Bool,∀ cc:World,
 ((Br cb (Cb 238 #[P9 a] cc (fun cd ce=>True/\R (R9 (.bool cd)) ce)) ((Br (k==34) (Cb 239 #[P9 a] cc (fun cf cg=>True/\R (R9 (.bool cf)) cg)) (R (R9 (.bool false)) cc)))))->
 ca cb cc)->
 (Br (k==34) (CP 236 #[P9 a,N9 1] bX (fun ch ci=>∃ cj,ch=R9 (.int .i32 cj)/\True/\(Br (cj==34) (CP 236 #[P9 a,N9 2] ci (fun ck cl=>∃ cm,ck=R9 (.int .i32 cm)/\True/\ca (cm==34) cl)) (ca false ci)))) (ca false bX)))))->
 bV bW bX)->
 (Nr (k==45) (Cb 152 #[.int .i32 k] bm (fun cn co=>True/\bV cn co)) (bV true bm)))))))))))))))->
 p q r)->
 (Nr (k==65279) ((Nr (k==32) ((Nr (k==44) ((Nr (k==9) ((Nr (k==10) (p (k==13) b) (p true b))) (p true b))) (p true b))) (p true b))) (p true b))):CP 229 #[P9 a] w R:=
 vcq Tryz.func229 [] [(4,⟨[],[]⟩),(6,⟨[(19,.bool)],[]⟩),(9,⟨[],[]⟩),(10,⟨[(50,.bool)],[]⟩),(21,⟨[],[]⟩),(23,⟨[(112,.bool)],[]⟩),(41,⟨[(160,.bool)],[]⟩),(56,⟨[],[]⟩),(58,⟨[(181,.bool)],[]⟩),(66,⟨[(203,.bool)],[]⟩),(72,⟨[(212,.bool)],[]⟩)] [.l (.optr a)] h
theorem h_R (a:Int)(w:World)(R:EW)(h:
 ∀ b:Bool->World->Prop,(∀ c:Bool,∀ d:World,
 (R (R9 (.bool c)) d)->
 b c d)->
 (Nr (a==9) ((Nr (a==10) ((Nr (a==13) (b (decide (a≥32)) w) (b true w))) (b true w))) (b true w))):CP 233 #[.int .i32 a] w R:=
 vcq Tryz.func233 [] [(2,⟨[(2,.bool)],[]⟩)] [.l (.int .i32 a)] h
theorem k_x (a:OA)(b:Int)(c:BA)(d:Int)(w:World)(R:EW)(h:
 C0 240 #[P9 a,N9 d] w (fun e=>True/\∀ f,f=e.drew->Pt a fun g=>Ll f (g.add 2) fun i j k=>Pt a fun l=>Li f (l.add 1) fun m=>Pt a fun n=>Li f (n.add 5) fun o=>Pt a fun p=>Li f (p.add 6) fun q=>True/\True/\(let r:=f.alloc (.cells #[N9 b,T9 c,N9 d,N9 m,N9 o,(N9 (wr ((wr (d-q))+1)))] 422);
 ((r.cell? (g.add 2)=f.cell? (g.add 2))/\True)/\∃ s t u,∃ v,(Go.builtin .append #[418,418] 418 #[false,false] #[S9 i j k,(S9 (some (adr f.heap.size)) 1 1)]).run Tryz.prog r=.ok (.value (S9 s t u)) v/\True/\True/\Pt a fun x=>Off v (x.add 2) 1 []/\True/\(let y:=(v.setCell (x.add 2) (S9 s t u));
 True/\R (R9 (.tuple #[])) y)))):CP 234 #[P9 a,N9 b,T9 c,N9 d] w R:=
 vcq Tryz.func234 [] [] [.l (.optr a),.l (.int .i64 b),.l (.str c),.l (.int .i64 d)] h
theorem o_2 (a:Int)(w:World)(R:EW)(h:
 (Br (a==33) (R (R9 (N9 1)) w) ((Br (a==36) (R (R9 (N9 2)) w) ((Br (a==38) (R (R9 (N9 3)) w) ((Br (a==40) (R (R9 (N9 4)) w) ((Br (a==41) (R (R9 (N9 5)) w) ((Br (a==58) (R (R9 (N9 7)) w) ((Br (a==61) (R (R9 (N9 8)) w) ((Br (a==64) (R (R9 (N9 9)) w) ((Br (a==91) (R (R9 (N9 10)) w) ((Br (a==93) (R (R9 (N9 11)) w) ((Br (a==123) (R (R9 (N9 12)) w) ((Br (a==125) (R (R9 (N9 13)) w) ((Br (a==124) (R (R9 (N9 14)) w) (R (R9 (N9 0)) w))))))))))))))))))))))))))):CP 235 #[.int .i32 a] w R:=
 vcq Tryz.func235 [] [] [.l (.int .i32 a)] h
theorem f_m (a:OA)(b:Int)(w:World)(R:EW)(h:
 ∀ c,c=w.drew->Pt a fun d=>Li c (d.add 1) fun e=>Pt a fun f=>Ll c f fun g i j=>(Br (decide ((wr (e+b))<(i:Int))) (∀ k,k=c.drew->Pt a fun l=>Ll k l fun m n o=>Pt a fun p=>Li k (p.add 1) fun q=>Ix m (wr (q+b)) n fun r=>∃ s,k.cell? (r.add ((wr (q+b)).toNat*1))=some (.int .i32 s)/\True/\R (R9 (.int .i32 s)) k) (R (R9 (.int .i32 0)) c))):CP 236 #[P9 a,N9 b] w R:=
 vcq Tryz.func236 [] [] [.l (.optr a),.l (.int .i64 b)] h
theorem h_m (a:OA)(w:World)(R:EW)(h:
 Pt a fun b=>Li w (b.add 1) fun c=>∀ d:World->Prop,(∀ e:World,
 (∀ f:Bool->World->Prop,(∀ g:Bool,∀ i:World,
 ((Br g (R (R9 (.bool false)) i) (∀ j:Int->World->Prop,(∀ k:Int,∀ l:World,
 (∀ m:Int->World->Prop,(∀ n:Int,∀ o:World,
 (∀ p:World->Prop,(∀ q:World,
 (∀ r,r=q.drew->Pt a fun s=>Ll r s fun t u v=>Pt a fun x=>Li r (x.add 1) fun y=>(0<=c/\c<=y/\y<=(v:Int))/\∃ z,∃ A,(convert 434 9 (S9 (if v=c.toNat then t else Option.map (·.add (c.toNat*1)) t) (y.toNat-c.toNat) (v-c.toNat))).run Tryz.prog r=.ok (T9 z) A/\True/\True/\C0 234 #[P9 a,N9 n,T9 z,N9 c] A (fun B=>True/\True/\R (R9 (.bool true)) B))->
 p q)->
 ∀ C:Bool->World->Prop,(∀ D:Bool,∀ E:World,
 ((Br D (Pt a fun F=>Off E (F.add 3) 1 []/\True/\(let G:=(E.setCell (F.add 3) (.bool false));
 p G)) (p E)))->
 C D E)->
 CP 236 #[P9 a,N9 0] o (fun H I=>∃ J,H=R9 (.int .i32 J)/\True/\Cb 151 #[.int .i32 J] I (fun K L=>True/\(Nr K (CP 236 #[P9 a,N9 0] L (fun M N=>∃ O,M=R9 (.int .i32 O)/\True/\C (O==46) N)) (C true L)))))->
 m n o)->
 ∀ P:Bool->World->Prop,(∀ Q:Bool,∀ S:World,
 ((Br Q (Pt a fun U=>Li S (U.add 1) fun V=>Pt a fun W=>Off S (W.add 1) 1 []/\True/\(let X:=(S.setCell (W.add 1) (N9 (wr (V+1))));
 ∀ Y:World->Prop,(∀ Z:World,
 (Cb 241 #[P9 a] Z (fun aa ab=>True/\(Br (!aa) (R (R9 (.bool false)) ab) (m 17 ab))))->
 Y Z)->
 ∀ ac:Bool->World->Prop,(∀ ad:Bool,∀ ae:World,
 ((Br ad (Pt a fun af=>Li ae (af.add 1) fun ag=>Pt a fun ah=>Off ae (ah.add 1) 1 []/\True/\(let ai:=(ae.setCell (ah.add 1) (N9 (wr (ag+1))));
 Y ai)) (Y ae)))->
 ac ad ae)->
 CP 236 #[P9 a,N9 0] X (fun aj ak=>∃ al,aj=R9 (.int .i32 al)/\True/\(Nr (al==43) (CP 236 #[P9 a,N9 0] ak (fun am an=>∃ ao,am=R9 (.int .i32 ao)/\True/\ac (ao==45) an)) (ac true ak))))) (m k S)))->
 P Q S)->
 CP 236 #[P9 a,N9 0] l (fun ap aq=>∃ ar,ap=R9 (.int .i32 ar)/\True/\(Nr (ar==101) (CP 236 #[P9 a,N9 0] aq (fun au av=>∃ ax,au=R9 (.int .i32 ax)/\True/\P (ax==69) av)) (P true aq))))->
 j k l)->
 CP 236 #[P9 a,N9 0] i (fun ay az=>∃ aA,ay=R9 (.int .i32 aA)/\True/\(Br (aA==46) (Pt a fun aB=>Li az (aB.add 1) fun aC=>Pt a fun aD=>Off az (aD.add 1) 1 []/\True/\(let aE:=(az.setCell (aD.add 1) (N9 (wr (aC+1))));
 Cb 241 #[P9 a] aE (fun aF aG=>True/\(Br (!aF) (R (R9 (.bool false)) aG) (j 17 aG))))) (j 16 az))))))->
 f g i)->
 CP 236 #[P9 a,N9 0] e (fun aH aI=>∃ aJ,aH=R9 (.int .i32 aJ)/\True/\(Br (aJ==48) (CP 236 #[P9 a,N9 1] aI (fun aK aL=>∃ aM,aK=R9 (.int .i32 aM)/\True/\Cb 152 #[.int .i32 aM] aL (fun aN aO=>True/\(Nr aN (Cb 241 #[P9 a] aO (fun aP aQ=>True/\f (!aP) aQ)) (f true aO))))) (Cb 241 #[P9 a] aI (fun aS aU=>True/\f (!aS) aU)))))->
 d e)->
 CP 236 #[P9 a,N9 0] w (fun aV aW=>∃ aX,aV=R9 (.int .i32 aX)/\True/\(Br (aX==45) (Pt a fun aY=>Li aW (aY.add 1) fun aZ=>Pt a fun ba=>Off aW (ba.add 1) 1 []/\True/\(let bb:=(aW.setCell (ba.add 1) (N9 (wr (aZ+1))));
 d bb)) (d aW)))):CP 237 #[P9 a] w R:=
 vcq Tryz.func237 [] [(4,⟨[],[]⟩),(11,⟨[(31,.bool)],[]⟩),(18,⟨[(4,.int .i64)],[]⟩),(34,⟨[(4,.int .i64)],[]⟩),(35,⟨[(52,.bool)],[]⟩),(42,⟨[],[]⟩),(43,⟨[(67,.bool)],[]⟩),(56,⟨[],[]⟩),(57,⟨[(85,.bool)],[]⟩)] [.l (.optr a)] h
theorem i_H (a:OA)(w:World)(R:EW)(h:
 Pt a fun b=>Li w (b.add 1) fun c=>Pt a fun d=>Li w (d.add 1) fun e=>Pt a fun f=>Off w (f.add 1) 1 []/\True/\(let g:=(w.setCell (f.add 1) (N9 (wr (e+3))));
 ∃ (i:OA->Nat->Nat->World->Prop) (j:OA->Nat->Nat->World->Nat),i none 0 0 g/\
 (∀ (k:OA) (l m:Nat),∀ n:World,i k l m n->
 ∀ o,o=n.drew->Pt a fun p=>Li o (p.add 1) fun q=>Pt a fun r=>Ll o r fun s t u=>(Br (decide (q<(t:Int))) (∀ v,v=o.drew->Pt a fun x=>Ll v x fun y z A=>Pt a fun B=>Li v (B.add 1) fun C=>Ix y C z fun D=>∃ E,v.cell? (D.add (C.toNat*1))=some (.int .i32 E)/\True/\∀ F:Bool->World->Prop,(∀ G:Bool,∀ H:World,
 ((Br G (Pt a fun I=>Li H (I.add 1) fun J=>Pt a fun K=>Off H (K.add 1) 1 []/\True/\(let L:=(H.setCell (K.add 1) (N9 (wr (J+3))));
 ∀ M:World->Prop,(∀ N:World,
 (∃ O,∃ P,(convert 434 9 (S9 k l m)).run Tryz.prog N=.ok (T9 O) P/\True/\Cs 243 #[T9 O] P (fun Q S=>True/\C0 234 #[P9 a,N9 19,T9 Q,N9 c] S (fun U=>True/\R (R9 (.bool true)) U)))->
 M N)->
 Pt a fun V=>Lb L (V.add 3) fun W=>(Br W (∃ X,∃ Y,(convert 434 9 (S9 k l m)).run Tryz.prog L=.ok (T9 X) Y/\True/\Cb 242 #[T9 X] Y (fun Z aa=>True/\(Br Z (CP 236 #[P9 a,N9 0] aa (fun ab ac=>∃ ad,ab=R9 (.int .i32 ad)/\True/\Pt a fun ae=>Off ac (ae.add 3) 1 []/\True/\(let af:=(ac.setCell (ae.add 3) (.bool (ad !=34)));
 M af))) (Pt a fun ag=>Off aa (ag.add 3) 1 []/\True/\(let ah:=(aa.setCell (ag.add 3) (.bool false));
 M ah))))) (Pt a fun ai=>Off L (ai.add 3) 1 []/\True/\(let aj:=(L.setCell (ai.add 3) (.bool false));
 M aj))))) (∀ ak:Bool->World->Prop,(∀ al:Bool,∀ am:World,
 ((Br al (True/\(let an:=am.alloc (.cells #[.int .i32 34,.int .i32 34,.int .i32 34] 21);
 ∃ ao ap aq,∃ ar,(Go.builtin .append #[434,434] 434 #[false,false] #[S9 k l m,(S9 (some (adr am.heap.size)) 3 3)]).run Tryz.prog an=.ok (.value (S9 ao ap aq)) ar/\True/\Pt a fun au=>Li ar (au.add 1) fun av=>Pt a fun ax=>Off ar (ax.add 1) 1 []/\True/\(let ay:=(ar.setCell (ax.add 1) (N9 (wr (av+4))));
 (i ao ap aq ay/\j ao ap aq ay<j k l m n)))) (Cb 233 #[.int .i32 E] am (fun az aA=>True/\(Br (!az) (R (R9 (.bool false)) aA) (True/\(let aB:=aA.alloc (.cells #[.int .i32 E] 21);
 ∃ aC aD aE,∃ aF,(Go.builtin .append #[434,434] 434 #[false,false] #[S9 k l m,(S9 (some (adr aA.heap.size)) 1 1)]).run Tryz.prog aB=.ok (.value (S9 aC aD aE)) aF/\True/\Pt a fun aG=>Li aF (aG.add 1) fun aH=>Pt a fun aI=>Off aF (aI.add 1) 1 []/\True/\(let aJ:=(aF.setCell (aI.add 1) (N9 (wr (aH+1))));
 (i aC aD aE aJ/\j aC aD aE aJ<j k l m n)))))))))->
 ak al am)->
 (Br (E==92) (CP 236 #[P9 a,N9 1] H (fun aK aL=>∃ aM,aK=R9 (.int .i32 aM)/\True/\(Br (aM==34) (CP 236 #[P9 a,N9 2] aL (fun aN aO=>∃ aP,aN=R9 (.int .i32 aP)/\True/\(Br (aP==34) (CP 236 #[P9 a,N9 3] aO (fun aQ aS=>∃ aU,aQ=R9 (.int .i32 aU)/\True/\ak (aU==34) aS)) (ak false aO)))) (ak false aL)))) (ak false H)))))->
 F G H)->
 (Br (E==34) (CP 236 #[P9 a,N9 1] v (fun aV aW=>∃ aX,aV=R9 (.int .i32 aX)/\True/\(Br (aX==34) (CP 236 #[P9 a,N9 2] aW (fun aY aZ=>∃ ba,aY=R9 (.int .i32 ba)/\True/\F (ba==34) aZ)) (F false aW)))) (F false v))) (R (R9 (.bool false)) o))))):CP 238 #[P9 a] w R:=
 vcq Tryz.func238 [] [(10,⟨[(4,.slice)],[]⟩),(20,⟨[(6,.bool)],[]⟩),(28,⟨[],[]⟩),(35,⟨[(93,.bool)],[]⟩)] [.l (.optr a)] h
theorem h_n (a:OA)(w:World)(R:EW)(h:
 Pt a fun b=>Li w (b.add 1) fun c=>Pt a fun d=>Li w (d.add 1) fun e=>Pt a fun f=>Off w (f.add 1) 1 []/\True/\(let g:=(w.setCell (f.add 1) (N9 (wr (e+1))));
 ∃ (i:OA->Nat->Nat->World->Prop) (j:OA->Nat->Nat->World->Nat),i none 0 0 g/\
 (∀ (k:OA) (l m:Nat),∀ n:World,i k l m n->
 ∀ o,o=n.drew->Pt a fun p=>Li o (p.add 1) fun q=>Pt a fun r=>Ll o r fun s t u=>(Br (decide (q<(t:Int))) (∀ v,v=o.drew->Pt a fun x=>Ll v x fun y z A=>Pt a fun B=>Li v (B.add 1) fun C=>Ix y C z fun D=>∃ E,v.cell? (D.add (C.toNat*1))=some (.int .i32 E)/\True/\Pt a fun F=>Li v (F.add 1) fun G=>Pt a fun H=>Off v (H.add 1) 1 []/\True/\(let I:=(v.setCell (H.add 1) (N9 (wr (G+1))));
 (Br (E==34) (∃ J,∃ K,(convert 434 9 (S9 k l m)).run Tryz.prog I=.ok (T9 J) K/\True/\C0 234 #[P9 a,N9 18,T9 J,N9 c] K (fun L=>True/\R (R9 (.bool true)) L)) (∀ M:Bool->World->Prop,(∀ N:Bool,∀ O:World,
 ((Br N (R (R9 (.bool false)) O) ((Br (E==92) (CP 244 #[P9 a] O (fun P Q=>∃ S,∃ U,P=R9 (.tuple #[.int .i32 S,.bool U])/\True/\(Br (!U) (R (R9 (.bool false)) Q) (True/\(let V:=Q.alloc (.cells #[.int .i32 S] 21);
 ∃ W X Y,∃ Z,(Go.builtin .append #[434,434] 434 #[false,false] #[S9 k l m,(S9 (some (adr Q.heap.size)) 1 1)]).run Tryz.prog V=.ok (.value (S9 W X Y)) Z/\True/\(i W X Y Z/\j W X Y Z<j k l m n)))))) (True/\(let aa:=O.alloc (.cells #[.int .i32 E] 21);
 ∃ ab ac ad,∃ ae,(Go.builtin .append #[434,434] 434 #[false,false] #[S9 k l m,(S9 (some (adr O.heap.size)) 1 1)]).run Tryz.prog aa=.ok (.value (S9 ab ac ad)) ae/\True/\(i ab ac ad ae/\j ab ac ad ae<j k l m n)))))))->
 M N O)->
 (Nr (E==10) ((Nr (E==13) (Cb 233 #[.int .i32 E] I (fun af ag=>True/\M (!af) ag)) (M true I))) (M true I)))))) (R (R9 (.bool false)) o))))):CP 239 #[P9 a] w R:=
 vcq Tryz.func239 [] [(10,⟨[(4,.slice)],[]⟩),(31,⟨[(58,.bool)],[]⟩)] [.l (.optr a)] h
theorem i_I (a:OA)(b:Int)(w:World)(R:EW)(h:
 ∃ (c:World->Prop) (d:World->Nat),c w/\
 (∀ e:World,c e->
 Pt a fun f=>Li e (f.add 4) fun g=>(Br (decide (g<b)) (∀ i:World->Prop,(∀ j:World,
 (Pt a fun k=>Li j (k.add 4) fun l=>Pt a fun m=>Off j (m.add 4) 1 []/\True/\(let n:=(j.setCell (m.add 4) (N9 (wr (l+1))));
 (c n/\d n<d e)))->
 i j)->
 ∀ o,o=e.drew->Pt a fun p=>Ll o p fun q r s=>Pt a fun t=>Li o (t.add 4) fun u=>Ix q u r fun v=>∃ x,o.cell? (v.add (u.toNat*1))=some (.int .i32 x)/\True/\∀ y:Bool->World->Prop,(∀ z:Bool,∀ A:World,
 ((Br z (i A) (∀ B:Bool->World->Prop,(∀ C:Bool,∀ D:World,
 ((Br C (∀ E,E=D.drew->Pt a fun F=>Li E (F.add 5) fun G=>Pt a fun H=>Li E (H.add 4) fun I=>Pt a fun J=>Off E (J.add 5) 1 []/\True/\(let K:=(E.setCell (J.add 5) (N9 (wr (G+1))));
 True/\Pt a fun L=>Off K (L.add 6) 1 []/\True/\(let M:=(K.setCell (L.add 6) (N9 (wr (I+1))));
 True/\i M))) (i D)))->
 B C D)->
 (Nr (x==10) (B (x==13) A) (B true A)))))->
 y z A)->
 ∀ N,N=o.drew->(Br (x==13) (Pt a fun O=>Li N (O.add 4) fun P=>Pt a fun Q=>Ll N Q fun S U V=>(Br (decide ((wr (P+1))<(U:Int))) (Pt a fun W=>Ll N W fun X Y Z=>Pt a fun aa=>Li N (aa.add 4) fun ab=>Ix X (wr (ab+1)) Y fun ac=>∃ ad,N.cell? (ac.add ((wr (ab+1)).toNat*1))=some (.int .i32 ad)/\y (ad==10) N) (y false N))) (y false N))) (R (R9 (.tuple #[])) e)))):CP 240 #[P9 a,N9 b] w R:=
 vcq Tryz.func240 [] [(1,⟨[],[]⟩),(8,⟨[],[]⟩),(13,⟨[(56,.bool)],[]⟩),(18,⟨[(62,.bool)],[]⟩)] [.l (.optr a),.l (.int .i64 b)] h
theorem h_k (a:OA)(w:World)(R:EW)(h:
 Pt a fun b=>Li w (b.add 1) fun c=>∃ (d:World->Prop) (e:World->Nat),d w/\
 (∀ f:World,d f->
 CP 236 #[P9 a,N9 0] f (fun g i=>∃ j,g=R9 (.int .i32 j)/\True/\Cb 152 #[.int .i32 j] i (fun k l=>True/\(Br k (Pt a fun m=>Li l (m.add 1) fun n=>Pt a fun o=>Off l (o.add 1) 1 []/\True/\(let p:=(l.setCell (o.add 1) (N9 (wr (n+1))));
 (d p/\e p<e f))) (Pt a fun q=>Li l (q.add 1) fun r=>R (R9 (.bool (decide (r>c)))) l)))))):CP 241 #[P9 a] w R:=
 vcq Tryz.func241 [] [(6,⟨[],[]⟩)] [.l (.optr a)] h
theorem o_u (a:BA)(w:World)(R:EW)(h:
 ∃ (b:Int->World->Prop) (c:Int->World->Nat),b 0 w/\
 (∀ d:Int,∀ e:World,b d e->
 (Br (decide (d<(a.size:Int))) ((0<=d/\d<(a.size:Int))/\(Br ((sget a d)==13) (R (R9 (.bool false)) e) ((b (wr (d+1)) e/\c (wr (d+1)) e<c d e)))) (Cl 245 #[T9 a] e (fun f g i j=>True/\∀ k:Bool->World->Prop,(∀ l:Bool,∀ m:World,
 (R (R9 (.bool l)) m)->
 k l m)->
 ∀ n,n=j.drew->Ix f 0 g fun o=>Ls n (o.add ((0:Int).toNat*1)) fun p=>Ix f 0 g fun q=>Ls n (q.add ((0:Int).toNat*1)) fun r=>Ci 246 #[T9 p] n (fun s t=>True/\((t.cell? (q.add ((0:Int).toNat*1))=n.cell? (q.add ((0:Int).toNat*1)))/\True)/\(Br (s==(r.size:Int)) (True/\k true t) ((Br ((g:Int)==1) (Ci 246 #[T9 a] t (fun u v=>True/\True/\True/\k (u==0) v)) (True/\k false t)))))))))):CP 242 #[T9 a] w R:=
 vcq Tryz.func242 [] [(6,⟨[(3,.int .i64)],[]⟩),(25,⟨[(2,.bool)],[]⟩)] [.l (.str a)] h
theorem j_y (a:BA)(w:World)(R:EW)(h:
 Cl 245 #[T9 a] w (fun b c d e=>True/\∃ (f:Int->Int->World->Prop) (g:Int->Int->World->Nat),f (-1:Int) 0 e/\
 (∀ i:Int,∀ j:Int,∀ k:World,f i j k->
 (Br (decide (j<(c:Int))) (∀ l:Int->World->Prop,(∀ m:Int,∀ n:World,
 ((f m (wr (j+1)) n/\g m (wr (j+1)) n<g i j k))->
 l m n)->
 Ix b j c fun o=>Ls k (o.add (j.toNat*1)) fun p=>Ci 246 #[T9 p] k (fun q r=>True/\∀ s:Bool->World->Prop,(∀ t:Bool,∀ u:World,
 ((Br t (l q u) (l i u)))->
 s t u)->
 (Br (decide (j>0)) ((Br (decide (q<(p.size:Int))) ((Nr (decide (i<0)) (s (decide (q<i)) r) (s true r))) (s false r))) (s false r)))) (∃ (v:Int->World->Prop) (x:Int->World->Nat),v 0 k/\
 (∀ y:Int,∀ z:World,v y z->
 (Br (decide (y<(c:Int))) (∀ A:World->Prop,(∀ B:World,
 ((v (wr (y+1)) B/\x (wr (y+1)) B<x y z))->
 A B)->
 Ix b y c fun C=>Ls z (C.add (y.toNat*1)) fun D=>∀ E:Bool->World->Prop,(∀ F:Bool,∀ G:World,
 ((Br F (∃ H,∃ I,(Go.builtin .min #[3,3] 3 #[false,false] #[N9 i,(N9 (D.size:Int))]).run Tryz.prog G=.ok (.value (N9 H)) I/\True/\(0<=H/\H<=(D.size:Int)/\(D.size:Int)<=(D.size:Int))/\Ix b y c fun J=>Off I (J.add (y.toNat*1)) 1 []/\True/\(let K:=(I.setCell (J.add (y.toNat*1)) (T9 (D.extract H.toNat (D.size:Int).toNat)));
 A K)) (A G)))->
 E F G)->
 (Br (decide (y>0)) (E (decide (i>0)) z) (E false z))) (∃ (L:OA->Nat->Nat->World->Prop) (M:OA->Nat->Nat->World->Nat),L b c d z/\
 (∀ (N:OA) (O P:Nat),∀ Q:World,L N O P Q->
 ∀ S:Bool->World->Prop,(∀ U:Bool,∀ V:World,
 ((Br U ((0<=(1:Int)/\1<=(O:Int)/\(O:Int)<=(P:Int))/\(L (if P=(1:Int).toNat then N else Option.map (·.add ((1:Int).toNat*1)) N) ((O:Int).toNat-(1:Int).toNat) (P-(1:Int).toNat) V/\M (if P=(1:Int).toNat then N else Option.map (·.add ((1:Int).toNat*1)) N) ((O:Int).toNat-(1:Int).toNat) (P-(1:Int).toNat) V<M N O P Q)) (∃ (W:OA->Nat->Nat->World->Prop) (X:OA->Nat->Nat->World->Nat),W N O P V/\
 (∀ (Y:OA) (Z aa:Nat),∀ ab:World,W Y Z aa ab->
 ∀ ac:Bool->World->Prop,(∀ ad:Bool,∀ ae:World,
 ((Br ad ((0<=(0:Int)/\0<=(wr ((Z:Int)-1))/\(wr ((Z:Int)-1))<=(aa:Int))/\(W (if aa=(0:Int).toNat then Y else Option.map (·.add ((0:Int).toNat*1)) Y) ((wr ((Z:Int)-1)).toNat-(0:Int).toNat) (aa-(0:Int).toNat) ae/\X (if aa=(0:Int).toNat then Y else Option.map (·.add ((0:Int).toNat*1)) Y) ((wr ((Z:Int)-1)).toNat-(0:Int).toNat) (aa-(0:Int).toNat) ae<X Y Z aa ab)) (∃ (af:BA->Int->World->Prop) (ag:BA->Int->World->Nat),af (⟨#[]⟩:BA) 0 ae/\
 (∀ ah:BA,∀ ai:Int,∀ aj:World,af ah ai aj->
 (Br (decide (ai<(Z:Int))) (Ix Y ai Z fun ak=>Ls aj (ak.add (ai.toNat*1)) fun al=>∀ am:BA->World->Prop,(∀ an:BA,∀ ao:World,
 (∃ ap,∃ aq,(eqGuard .add 9 (Operand.tmp 118) (Operand.tmp 119) (T9 an) (T9 al)).run Tryz.prog ao=.ok () ao/\(binOp .add 9 (T9 an) (T9 al)).run Tryz.prog ao=.ok (T9 ap) aq/\True/\(af ap (wr (ai+1)) aq/\ag ap (wr (ai+1)) aq<ag ah ai aj))->
 am an ao)->
 (Br (decide (ai>0)) (∃ ar,∃ au,(eqGuard .add 9 (Operand.tmp 116) (Operand.const (T9 (⟨#[10]⟩:BA))) (T9 ah) (T9 (⟨#[10]⟩:BA))).run Tryz.prog aj=.ok () aj/\(binOp .add 9 (T9 ah) (T9 (⟨#[10]⟩:BA))).run Tryz.prog aj=.ok (T9 ar) au/\True/\am ar au) (am ah aj))) (R (R9 (T9 ah)) aj))))))->
 ac ad ae)->
 ∀ av,av=ab.drew->(Br (decide ((Z:Int)>0)) (Ix Y (wr ((Z:Int)-1)) Z fun ax=>Ls av (ax.add ((wr ((Z:Int)-1)).toNat*1)) fun ay=>Ix Y (wr ((Z:Int)-1)) Z fun az=>Ls av (az.add ((wr ((Z:Int)-1)).toNat*1)) fun aA=>Ci 246 #[T9 ay] av (fun aB aC=>True/\((aC.cell? (az.add ((wr ((Z:Int)-1)).toNat*1))=av.cell? (az.add ((wr ((Z:Int)-1)).toNat*1)))/\True)/\ac (aB==(aA.size:Int)) aC)) (ac false av))))))->
 S U V)->
 ∀ aD,aD=Q.drew->(Br (decide ((O:Int)>0)) (Ix N 0 O fun aE=>Ls aD (aE.add ((0:Int).toNat*1)) fun aF=>Ix N 0 O fun aG=>Ls aD (aG.add ((0:Int).toNat*1)) fun aH=>Ci 246 #[T9 aF] aD (fun aI aJ=>True/\((aJ.cell? (aG.add ((0:Int).toNat*1))=aD.cell? (aG.add ((0:Int).toNat*1)))/\True)/\S (aI==(aH.size:Int)) aJ)) (S false aD))))))))))):CP 243 #[T9 a] w R:=
 vcq Tryz.func243 [] [(10,⟨[(4,.int .i64),(17,.int .i64)],[]⟩),(17,⟨[(4,.int .i64)],[]⟩),(23,⟨[(40,.bool)],[]⟩),(33,⟨[(45,.int .i64)],[]⟩),(40,⟨[],[]⟩),(44,⟨[(55,.bool)],[]⟩),(52,⟨[(3,.slice)],[]⟩),(54,⟨[(79,.bool)],[]⟩),(63,⟨[(3,.slice)],[]⟩),(65,⟨[(101,.bool)],[]⟩),(78,⟨[(10,.str),(109,.int .i64)],[]⟩),(89,⟨[(10,.str)],[]⟩)] [.l (.str a)] h
theorem h_l (a:OA)(w:World)(R:EW)(h:
 CP 236 #[P9 a,N9 0] w (fun b c=>∃ d,b=R9 (.int .i32 d)/\True/\Pt a fun e=>Li c (e.add 1) fun f=>Pt a fun g=>Off c (g.add 1) 1 []/\True/\(let i:=(c.setCell (g.add 1) (N9 (wr (f+1))));
 ∀ j:Bool->World->Prop,(∀ k:Bool,∀ l:World,
 ((Br k (R (R9 (.tuple #[.int .i32 d,.bool true])) l) ((Br (d==98) (R (R9 (.tuple #[.int .i32 8,.bool true])) l) ((Br (d==102) (R (R9 (.tuple #[.int .i32 12,.bool true])) l) ((Br (d==110) (R (R9 (.tuple #[.int .i32 10,.bool true])) l) ((Br (d==114) (R (R9 (.tuple #[.int .i32 13,.bool true])) l) ((Br (d==116) (R (R9 (.tuple #[.int .i32 9,.bool true])) l) ((Br (d==117) (CP 236 #[P9 a,N9 0] l (fun m n=>∃ o,m=R9 (.int .i32 o)/\True/\(Br (o==123) (Pt a fun p=>Off n (p.add 3) 1 []/\True/\(let q:=(n.setCell (p.add 3) (.bool false));
 R (R9 (.tuple #[.int .i32 0,.bool false])) q)) (∃ (r:Int->Int->World->Prop) (s:Int->Int->World->Nat),r 0 0 n/\
 (∀ t:Int,∀ u:Int,∀ v:World,r t u v->
 (Br (decide (u<4)) (CP 236 #[P9 a,N9 0] v (fun x y=>∃ z,x=R9 (.int .i32 z)/\True/\Ci 247 #[.int .i32 z] y (fun A B=>True/\(Br (decide (A<0)) (R (R9 (.tuple #[.int .i32 0,.bool false])) B) (Pt a fun C=>Li B (C.add 1) fun D=>Pt a fun E=>Off B (E.add 1) 1 []/\True/\(let F:=(B.setCell (E.add 1) (N9 (wr (D+1))));
 (r (wr ((wr (16*t))+A)) (wr (u+1)) F/\s (wr ((wr (16*t))+A)) (wr (u+1)) F<s t u v))))))) (∀ G:World->Prop,(∀ H:World,
 (R (R9 (.tuple #[(.int .i32 (IntKind.i32.wrap t)),.bool true])) H)->
 G H)->
 ∀ I:Bool->World->Prop,(∀ J:Bool,∀ K:World,
 ((Br J (Pt a fun L=>Off K (L.add 3) 1 []/\True/\(let M:=(K.setCell (L.add 3) (.bool false));
 G M)) (G K)))->
 I J K)->
 (Br (decide (t≥55296)) (I (decide (t<57344)) v) (I false v))))))))) (R (R9 (.tuple #[.int .i32 0,.bool false])) l)))))))))))))))->
 j k l)->
 (Br (d==34) (j true i) ((Br (d==92) (j true i) (j (d==47) i))))))):CP 244 #[P9 a] w R:=
 vcq Tryz.func244 [] [(10,⟨[(17,.bool)],[]⟩),(77,⟨[(5,.int .i64),(40,.int .i64)],[]⟩),(100,⟨[],[]⟩),(101,⟨[(64,.bool)],[]⟩)] [.l (.optr a)] h
theorem o_v (a:BA)(w:World)(R:EW)(h:
 (let b:=w.alloc (.cells #[] 9);
 ∃ (c:OA->Nat->Nat->Int->Int->World->Prop) (d:OA->Nat->Nat->Int->Int->World->Nat),c (some (adr w.heap.size)) 0 0 0 0 b/\
 (∀ (e:OA) (f g:Nat),∀ i:Int,∀ j:Int,∀ k:World,c e f g i j k->
 (Br (decide (j<(a.size:Int))) (∀ l:OA->Nat->Nat->Int->Int->World->Prop,(∀ (m:OA) (n o:Nat),∀ p:Int,∀ q:Int,∀ r:World,
 ((c m n o p (wr (q+1)) r/\d m n o p (wr (q+1)) r<d e f g i j k))->
 l m n o p q r)->
 ∀ s:Bool->World->Prop,(∀ t:Bool,∀ u:World,
 ((Br t (l e f g i j u) ((0<=i/\i<=j/\j<=(a.size:Int))/\True/\(let v:=u.alloc (.cells #[(T9 (a.extract i.toNat j.toNat))] 9);
 ∃ x y z,∃ A,(Go.builtin .append #[71,71] 71 #[false,false] #[S9 e f g,(S9 (some (adr u.heap.size)) 1 1)]).run Tryz.prog v=.ok (.value (S9 x y z)) A/\True/\∀ B:Int->World->Prop,(∀ C:Int,∀ D:World,
 (l x y z (wr (C+1)) C D)->
 B C D)->
 ∀ E:Bool->World->Prop,(∀ F:Bool,∀ G:World,
 ((Br F (B (wr (j+1)) G) (B j G)))->
 E F G)->
 (0<=j/\j<(a.size:Int))/\(Br ((sget a j)==13) ((Br (decide ((wr (j+1))<(a.size:Int))) ((0<=(wr (j+1))/\(wr (j+1))<(a.size:Int))/\E ((sget a (wr (j+1)))==10) A) (E false A))) (E false A))))))->
 s t u)->
 (0<=j/\j<(a.size:Int))/\(Br ((sget a j) !=10) ((0<=j/\j<(a.size:Int))/\s ((sget a j) !=13) k) (s false k))) ((0<=i/\i<=(a.size:Int)/\(a.size:Int)<=(a.size:Int))/\True/\(let H:=k.alloc (.cells #[(T9 (a.extract i.toNat (a.size:Int).toNat))] 9);
 ∃ I J K,∃ L,(Go.builtin .append #[71,71] 71 #[false,false] #[S9 e f g,(S9 (some (adr k.heap.size)) 1 1)]).run Tryz.prog H=.ok (.value (S9 I J K)) L/\True/\R (R9 (S9 I J K)) L)))))):CP 245 #[T9 a] w R:=
 vcq Tryz.func245 [] [(10,⟨[(3,.slice),(4,.int .i64),(5,.int .i64)],[]⟩),(17,⟨[(3,.slice),(4,.int .i64),(5,.int .i64)],[]⟩),(20,⟨[(22,.bool)],[]⟩),(27,⟨[(5,.int .i64)],[]⟩),(28,⟨[(47,.bool)],[]⟩)] [.l (.str a)] h
theorem m_Q (a:BA)(w:World)(R:EW)(h:
 ∃ (b:Int->World->Prop) (c:Int->World->Nat),b 0 w/\
 (∀ d:Int,∀ e:World,b d e->
 ∀ f:Bool->World->Prop,(∀ g:Bool,∀ i:World,
 ((Br g ((b (wr (d+1)) i/\c (wr (d+1)) i<c d e)) (R (R9 (N9 d)) i)))->
 f g i)->
 (Br (decide (d<(a.size:Int))) ((0<=d/\d<(a.size:Int))/\(Nr ((sget a d)==32) ((0<=d/\d<(a.size:Int))/\f ((sget a d)==9) e) (f true e))) (f false e)))):CP 246 #[T9 a] w R:=
 vcq Tryz.func246 [] [(6,⟨[(3,.int .i64)],[]⟩),(8,⟨[(19,.bool)],[]⟩)] [.l (.str a)] h
theorem p_l (a:Int)(w:World)(R:EW)(h:
 Cb 152 #[.int .i32 a] w (fun b c=>True/\(Br b (R (R9 (N9 (wr (IntKind.i32.wrap (a-48))))) c) (∀ d:Bool->World->Prop,(∀ e:Bool,∀ f:World,
 ((Br e (R (R9 (N9 (wr ((wr (IntKind.i32.wrap (a-97)))+10)))) f) (∀ g:Bool->World->Prop,(∀ i:Bool,∀ j:World,
 ((Br i (R (R9 (N9 (wr ((wr (IntKind.i32.wrap (a-65)))+10)))) j) (R (R9 (N9 (-1:Int))) j)))->
 g i j)->
 (Br (decide (a≥65)) (g (decide (a<=70)) f) (g false f)))))->
 d e f)->
 (Br (decide (a≥97)) (d (decide (a<=102)) c) (d false c)))))):CP 247 #[.int .i32 a] w R:=
 vcq Tryz.func247 [] [(10,⟨[(9,.bool)],[]⟩),(16,⟨[(20,.bool)],[]⟩)] [.l (.int .i32 a)] h
theorem m_H (a:Int)(b:BA)(c:OA)(d e:Nat)(f:Bool)(g:Int)(w:World)(R:EW)(h:
 True/\(let i:=w.alloc (.cells #[N9 a,T9 b,S9 c d e] 115);
 ∀ j:Bool->World->Prop,(∀ k:Bool,∀ l:World,
 ((Br k (R (R9 (.bool false)) l) ((Br (a==0) (∀ m:Bool->World->Prop,(∀ n:Bool,∀ o:World,
 (R (R9 (.bool n)) o)->
 m n o)->
 (Br (!f) (Cb 98 #[T9 b] l (fun p q=>(KeepT 115 l q/\True)/\m p q)) (m false l))) (∀ r:Bool->World->Prop,(∀ s:Bool,∀ t:World,
 ((Br s (Cb 209 #[T9 b,(.bool (a==2))] t (fun u v=>(KeepT 115 t v/\True)/\R (R9 (.bool u)) v)) ((Br (a==3) (Cb 210 #[T9 b] t (fun x y=>(KeepT 115 t y/\True)/\R (R9 (.bool x)) y)) ((Br (a==4) (Cb 197 #[T9 b] t (fun z A=>(KeepT 115 t A/\True)/\R (R9 (.bool z)) A)) (∀ B:Bool->World->Prop,(∀ C:Bool,∀ D:World,
 ((Br C (∀ E:Bool->World->Prop,(∀ F:Bool,∀ G:World,
 (R (R9 (.bool F)) G)->
 E F G)->
 ∀ H,H=D.drew->Cb 98 #[T9 b] H (fun I J=>(KeepT 115 H J/\True)/\True/\(Br I (Ci 199 #[T9 b] J (fun K L=>(KeepT 115 J L/\True)/\((0=0)/\True)/\True/\E (K==a) L)) (True/\E false J)))) (∀ M:Bool->World->Prop,(∀ N:Bool,∀ O:World,
 ((Br N (∃ (P:Int->World->Prop) (Q:Int->World->Nat),P 0 O/\
 (∀ S:Int,∀ U:World,P S U->
 (Br (decide (S<(d:Int))) (Ix c S d fun V=>L_sisl U (V.add (S.toNat*4)) fun W X Y Z aa ab=>True/\True/\(let ad:=U.alloc (.cells #[T9 W,N9 X,T9 Y,S9 Z aa ab] 256);
 ∀ ae:Bool->World->Prop,(∀ af:Bool,∀ ag:World,
 ((Br af (R (R9 (.bool false)) ag) ((P (wr (S+1)) ag/\Q (wr (S+1)) ag<Q S U))))->
 ae af ag)->
 ∀ ah,ah=ad.drew->Cb 98 #[T9 W] ah (fun ai aj=>(KeepT 115 ah aj/\KeepT 256 ah aj/\True)/\((0=0)/\True)/\(Br (!((a==9)==ai)) (ae true aj) ((Br (a==8) ((Br (!(W.toList==(⟨#[]⟩:BA).toList)) (ae true aj) (Cb 194 #[(.agg #[N9 X,T9 Y,S9 Z aa ab]),.bool f,(N9 (wr (g-1)))] aj (fun ak al=>(KeepT 115 aj al/\KeepT 256 aj al/\True)/\True/\ae (!ak) al)))) (Cb 194 #[(.agg #[N9 X,T9 Y,S9 Z aa ab]),.bool f,(N9 (wr (g-1)))] aj (fun am an=>(KeepT 115 aj an/\KeepT 256 aj an/\True)/\True/\ae (!am) an)))))))) (R (R9 (.bool (b.toList==(⟨#[]⟩:BA).toList))) U)))) (R (R9 (.bool false)) O)))->
 M N O)->
 (Br (a==8) (M true D) (M (a==9) D)))))->
 B C D)->
 (Br (a==5) (B true t) ((Br (a==6) (B true t) (B (a==7) t)))))))))))->
 r s t)->
 (Br (a==1) (r true l) (r (a==2) l)))))))->
 j k l)->
 (Nr (decide (g<0)) ((Br (decide (a<8)) (j (decide ((d:Int)>0)) i) (j false i))) (j true i)))):CP 194 #[(.agg #[N9 a,T9 b,S9 c d e]),.bool f,N9 g] w R:=
 vcq Tryz.func194 [3,8] [(3,⟨[(21,.bool)],[]⟩),(17,⟨[(6,.bool)],[]⟩),(20,⟨[(33,.bool)],[]⟩),(42,⟨[(52,.bool)],[]⟩),(53,⟨[(6,.bool)],[]⟩),(56,⟨[(67,.bool)],[]⟩),(67,⟨[(73,.int .i64)],[]⟩),(78,⟨[(102,.bool)],[]⟩)] [.agg [.int .i64 a,.str b,.slice c d e],.l (.bool f),.l (.int .i64 g)] h
end Go.VC
