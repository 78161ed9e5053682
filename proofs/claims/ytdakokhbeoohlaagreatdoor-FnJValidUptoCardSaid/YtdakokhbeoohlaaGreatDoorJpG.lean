/- Part of the proof of a law of a rule over documents (JpG), where what the arguments hold is of bulk at most 1048576. -/
import Derived.Test.YtdakokhbeoohlaaGreatDoorBaseB
import Derived.Test.YtdakokhbeoohlaaGreatDoorJpE
import Derived.Test.YtdakokhbeoohlaaGreatDoorJpA
set_option linter.unusedVariables false
set_option linter.unusedSectionVars false
namespace Go.VC
open Go Go.Proofs
variable {cs:List Value}{g:Nat}{T:TypeId}
set_option maxRecDepth 100000
theorem z_y (a:OA)(b c:Nat)(w:World)(R:EW)(h:
 ∃ (d:Int->World->Prop) (e:Int->World->Nat),d 0 w/\
 (∀ f:Int,∀ g:World,d f g->
 (Br (decide (f<(b:Int))) (∀ i:Bool->World->Prop,(∀ j:Bool,∀ k:World,
 ((Br j (R (R9 (.bool false)) k) ((d (wr (f+1)) k/\e (wr (f+1)) k<e f g))))->
 i j k)->
 Cb 36 #[S9 a b c,(N9 (wr (f+1)))] g (fun l m=>True/\(Nr (!l) (Ix a f b fun n=>L_iillliiiilbllbibiblblbibibibibliiibibillllliiiiibliil m (n.add (f.toNat*53)) fun o p q r s t u v x y z A B C D E F G H I J K L M N O P Q S U V W X Y Z aa ab ac ad ae af ag ah ai aj ak al am an ao ap aq ar au av ax ay az aA aB aC aD aE aF aG aH aI aJ aK aL aM aN aO aP aQ aS aU aV aW aX aY aZ ba bb bc=>Cb 37 #[(.agg #[N9 o,N9 p,S9 q r s,S9 t u v,S9 x y z,N9 A,N9 B,N9 C,N9 D,S9 E F G,.bool H,S9 I J K,S9 L M N,.bool O,N9 P,.bool Q,N9 S,.bool U,S9 V W X,.bool Y,S9 Z aa ab,.bool ac,N9 ad,.bool ae,N9 af,.bool ag,N9 ah,.bool ai,N9 aj,.bool ak,S9 al am an,N9 ao,N9 ap,N9 aq,.bool ar,N9 au,.bool av,N9 ax,S9 ay az aA,S9 aB aC aD,S9 aE aF aG,S9 aH aI aJ,S9 aK aL aM,N9 aN,N9 aO,N9 aP,N9 aQ,N9 aS,.bool aU,S9 aV aW aX,N9 aY,N9 aZ,S9 ba bb bc])] m (fun bd be=>True/\i (!bd) be)) (i true m)))) (R (R9 (.bool (decide ((b:Int)>0)))) g)))):CP 28 #[S9 a b c] w R:=
 vcq Tryz.func28 [] [(6,⟨[(3,.int .i64)],[]⟩),(15,⟨[(22,.bool)],[]⟩)] [.l (.slice a b c)] h
theorem A_v (a:OA)(b c:Nat)(d:Int)(w:World)(R:EW)(h:
 Ix a (wr (d-1)) b fun e=>L_iillliiiilbllbibiblblbibibibibliiibibillllliiiiibliil w (e.add ((wr (d-1)).toNat*53)) fun f g i j k l m n o p q r s t u v x y z A B C D E F G H I J K L M N O P Q S U V W X Y Z aa ab ac ad ae af ag ah ai aj ak al am an ao ap aq ar au av ax ay az aA aB aC aD aE aF aG aH aI aJ aK aL aM aN aO aP aQ aS aU=>True/\True/\(let aW:=w.alloc (.cells #[N9 f,N9 g,S9 i j k,S9 l m n,S9 o p q,N9 r,N9 s,N9 t,N9 u,S9 v x y,.bool z,S9 A B C,S9 D E F,.bool G,N9 H,.bool I,N9 J,.bool K,S9 L M N,.bool O,S9 P Q S,.bool U,N9 V,.bool W,N9 X,.bool Y,N9 Z,.bool aa,N9 ab,.bool ac,S9 ad ae af,N9 ag,N9 ah,N9 ai,.bool aj,N9 ak,.bool al,N9 am,S9 an ao ap,S9 aq ar au,S9 av ax ay,S9 az aA aB,S9 aC aD aE,N9 aF,N9 aG,N9 aH,N9 aI,N9 aJ,.bool aK,S9 aL aM aN,N9 aO,N9 aP,S9 aQ aS aU] 44);
 ∀ aX:Bool->World->Prop,(∀ aY:Bool,∀ aZ:World,
 ((Br aY (R (R9 (.bool false)) aZ) (∀ ba:Bool->World->Prop,(∀ bb:Bool,∀ bc:World,
 ((Br bb (R (R9 (.bool false)) bc) (∀ bd:Bool->World->Prop,(∀ be:Bool,∀ bf:World,
 ((Br be (R (R9 (.bool false)) bf) (∃ (bg:Int->World->Prop) (bh:Int->World->Nat),bg 0 bf/\
 (∀ bi:Int,∀ bj:World,bg bi bj->
 (Br (decide (bi<(x:Int))) (Ix v bi x fun bk=>Ls bj (bk.add (bi.toNat*1)) fun bl=>Cb 56 #[T9 bl] bj (fun bm bn=>(KeepT 44 bj bn/\True)/\(Br (!bm) (R (R9 (.bool false)) bn) ((bg (wr (bi+1)) bn/\bh (wr (bi+1)) bn<bh bi bj))))) (∀ bo:Bool->World->Prop,(∀ bp:Bool,∀ bq:World,
 (R (R9 (.bool bp)) bq)->
 bo bp bq)->
 True/\(let br:=bj.alloc (.cells #[S9 i j k,S9 l m n,S9 o p q,S9 ad ae af] 32);
 Cb 57 #[(S9 (some (adr bj.heap.size)) 4 4)] br (fun bs bt=>(KeepT 44 br bt/\True)/\(Br bs (Cb 58 #[S9 a b c,N9 d,(.agg #[N9 f,N9 g,S9 i j k,S9 l m n,S9 o p q,N9 r,N9 s,N9 t,N9 u,S9 v x y,.bool z,S9 A B C,S9 D E F,.bool G,N9 H,.bool I,N9 J,.bool K,S9 L M N,.bool O,S9 P Q S,.bool U,N9 V,.bool W,N9 X,.bool Y,N9 Z,.bool aa,N9 ab,.bool ac,S9 ad ae af,N9 ag,N9 ah,N9 ai,.bool aj,N9 ak,.bool al,N9 am,S9 an ao ap,S9 aq ar au,S9 av ax ay,S9 az aA aB,S9 aC aD aE,N9 aF,N9 aG,N9 aH,N9 aI,N9 aJ,.bool aK,S9 aL aM aN,N9 aO,N9 aP,S9 aQ aS aU])] bt (fun bu bv=>(KeepT 44 bt bv/\True)/\(Br bu (Cb 59 #[(.agg #[N9 f,N9 g,S9 i j k,S9 l m n,S9 o p q,N9 r,N9 s,N9 t,N9 u,S9 v x y,.bool z,S9 A B C,S9 D E F,.bool G,N9 H,.bool I,N9 J,.bool K,S9 L M N,.bool O,S9 P Q S,.bool U,N9 V,.bool W,N9 X,.bool Y,N9 Z,.bool aa,N9 ab,.bool ac,S9 ad ae af,N9 ag,N9 ah,N9 ai,.bool aj,N9 ak,.bool al,N9 am,S9 an ao ap,S9 aq ar au,S9 av ax ay,S9 az aA aB,S9 aC aD aE,N9 aF,N9 aG,N9 aH,N9 aI,N9 aJ,.bool aK,S9 aL aM aN,N9 aO,N9 aP,S9 aQ aS aU])] bv (fun bx bz=>(KeepT 44 bv bz/\True)/\bo bx bz)) (bo false bv)))) (bo false bt))))))))))->
 bd be bf)->
 True/\(let bA:=bc.alloc (.cells #[N9 ag,N9 ah,N9 ai,N9 aH,N9 aI,N9 aG] 3);
 Cb 55 #[S9 a b c,N9 0,(S9 (some (adr bc.heap.size)) 6 6)] bA (fun bB bC=>(KeepT 44 bA bC/\True)/\(Nr (!bB) (Cb 55 #[S9 a b c,N9 0,S9 ad ae af] bC (fun bD bE=>(KeepT 44 bC bE/\True)/\bd (!bD) bE)) (bd true bC)))))))->
 ba bb bc)->
 True/\(let bF:=aZ.alloc (.cells #[N9 g,N9 r,N9 s,N9 t,N9 u] 3);
 Cb 55 #[S9 a b c,N9 d,(S9 (some (adr aZ.heap.size)) 5 5)] bF (fun bG bH=>(KeepT 44 bF bH/\True)/\(Nr (!bG) (Cb 55 #[S9 a b c,N9 d,S9 i j k] bH (fun bI bJ=>(KeepT 44 bH bJ/\True)/\(Nr (!bI) (Cb 55 #[S9 a b c,N9 d,S9 l m n] bJ (fun bK bL=>(KeepT 44 bJ bL/\True)/\(Nr (!bK) (Cb 55 #[S9 a b c,N9 d,S9 o p q] bL (fun bM bN=>(KeepT 44 bL bN/\True)/\ba (!bM) bN)) (ba true bL)))) (ba true bJ)))) (ba true bH)))))))->
 aX aY aZ)->
 (Nr (decide (f<0)) ((Nr (decide (f>2)) ((Nr (decide (aF<0)) ((Nr (decide (aF>3)) (aX (decide ((E:Int)>1)) aW) (aX true aW))) (aX true aW))) (aX true aW))) (aX true aW)))):CP 36 #[S9 a b c,N9 d] w R:=
 vcq Tryz.func36 [5] [(5,⟨[(37,.bool)],[]⟩),(13,⟨[(76,.bool)],[]⟩),(21,⟨[(100,.bool)],[]⟩),(32,⟨[(6,.int .i64)],[]⟩),(49,⟨[(4,.bool)],[]⟩)] [.l (.slice a b c),.l (.int .i64 d)] h
theorem E_x (a:Int)(b:Int)(c:OA)(d e:Nat)(f:OA)(g i:Nat)(j:OA)(k l:Nat)(m:Int)(n:Int)(o:Int)(p:Int)(q:OA)(r s:Nat)(t:Bool)(u:OA)(v x:Nat)(y:OA)(z A:Nat)(B:Bool)(C:Int)(D:Bool)(E:Int)(F:Bool)(G:OA)(H I:Nat)(J:Bool)(K:OA)(L M:Nat)(N:Bool)(O:Int)(P:Bool)(Q:Int)(S:Bool)(U:Int)(V:Bool)(W:Int)(X:Bool)(Y:OA)(Z aa:Nat)(ab:Int)(ac:Int)(ad:Int)(ae:Bool)(af:Int)(ag:Bool)(ah:Int)(ai:OA)(aj ak:Nat)(al:OA)(am an:Nat)(ao:OA)(ap aq:Nat)(ar:OA)(au av:Nat)(ax:OA)(ay az:Nat)(aA:Int)(aB:Int)(aC:Int)(aD:Int)(aE:Int)(aF:Bool)(aG:OA)(aH aI:Nat)(aJ:Int)(aK:Int)(aL:OA)(aM aN:Nat)(w:World)(R:EW)(h:
 True/\(let aO:=w.alloc (.cells #[N9 a,N9 b,S9 c d e,S9 f g i,S9 j k l,N9 m,N9 n,N9 o,N9 p,S9 q r s,.bool t,S9 u v x,S9 y z A,.bool B,N9 C,.bool D,N9 E,.bool F,S9 G H I,.bool J,S9 K L M,.bool N,N9 O,.bool P,N9 Q,.bool S,N9 U,.bool V,N9 W,.bool X,S9 Y Z aa,N9 ab,N9 ac,N9 ad,.bool ae,N9 af,.bool ag,N9 ah,S9 ai aj ak,S9 al am an,S9 ao ap aq,S9 ar au av,S9 ax ay az,N9 aA,N9 aB,N9 aC,N9 aD,N9 aE,.bool aF,S9 aG aH aI,N9 aJ,N9 aK,S9 aL aM aN] 44);
 ∀ aP:Bool->World->Prop,(∀ aQ:Bool,∀ aS:World,
 (R (R9 (.bool aQ)) aS)->
 aP aQ aS)->
 (Br (aE==0) ((Br (!aF) ((Br ((aH:Int)==0) ((Br (aJ==0) ((Br (aK==0) (aP ((aM:Int)==0) aO) (aP false aO))) (aP false aO))) (aP false aO))) (aP false aO))) (aP false aO)))):CP 37 #[(.agg #[N9 a,N9 b,S9 c d e,S9 f g i,S9 j k l,N9 m,N9 n,N9 o,N9 p,S9 q r s,.bool t,S9 u v x,S9 y z A,.bool B,N9 C,.bool D,N9 E,.bool F,S9 G H I,.bool J,S9 K L M,.bool N,N9 O,.bool P,N9 Q,.bool S,N9 U,.bool V,N9 W,.bool X,S9 Y Z aa,N9 ab,N9 ac,N9 ad,.bool ae,N9 af,.bool ag,N9 ah,S9 ai aj ak,S9 al am an,S9 ao ap aq,S9 ar au av,S9 ax ay az,N9 aA,N9 aB,N9 aC,N9 aD,N9 aE,.bool aF,S9 aG aH aI,N9 aJ,N9 aK,S9 aL aM aN])] w R:=
 vcq Tryz.func37 [1] [(2,⟨[(2,.bool)],[]⟩)] [.agg [.int .i64 a,.int .i64 b,.slice c d e,.slice f g i,.slice j k l,.int .i64 m,.int .i64 n,.int .i64 o,.int .i64 p,.slice q r s,.bool t,.slice u v x,.slice y z A,.bool B,.int .i64 C,.bool D,.int .i64 E,.bool F,.slice G H I,.bool J,.slice K L M,.bool N,.int .i64 O,.bool P,.int .i64 Q,.bool S,.int .i64 U,.bool V,.int .i64 W,.bool X,.slice Y Z aa,.int .i64 ab,.int .i64 ac,.int .i64 ad,.bool ae,.int .i64 af,.bool ag,.int .i64 ah,.slice ai aj ak,.slice al am an,.slice ao ap aq,.slice ar au av,.slice ax ay az,.int .i64 aA,.int .i64 aB,.int .i64 aC,.int .i64 aD,.int .i64 aE,.bool aF,.slice aG aH aI,.int .i64 aJ,.int .i64 aK,.slice aL aM aN]] h
theorem D_D (a:OA)(b c:Nat)(d:Int)(e:OA)(f g:Nat)(w:World)(R:EW)(h:
 ∃ (i:Int->World->Prop) (j:Int->World->Nat),i 0 w/\
 (∀ k:Int,∀ l:World,i k l->
 (Br (decide (k<(f:Int))) (∀ m:Bool->World->Prop,(∀ n:Bool,∀ o:World,
 ((Br n (R (R9 (.bool false)) o) ((i (wr (k+1)) o/\j (wr (k+1)) o<j k l))))->
 m n o)->
 Ix e k f fun p=>Li l (p.add (k.toNat*1)) fun q=>(Br (q !=0) (Ix e k f fun r=>Li l (r.add (k.toNat*1)) fun s=>(Nr (decide (s<=d)) (Ix e k f fun t=>Li l (t.add (k.toNat*1)) fun u=>(Nr (decide (u<0)) (Ix e k f fun v=>Li l (v.add (k.toNat*1)) fun x=>m (decide (x>(b:Int))) l) (m true l))) (m true l))) (Ix e k f fun y=>Li l (y.add (k.toNat*1)) fun z=>(Nr (decide (z<0)) (Ix e k f fun A=>Li l (A.add (k.toNat*1)) fun B=>m (decide (B>(b:Int))) l) (m true l))))) (R (R9 (.bool true)) l)))):CP 55 #[S9 a b c,N9 d,S9 e f g] w R:=
 vcq Tryz.func55 [] [(6,⟨[(7,.int .i64)],[]⟩),(15,⟨[(42,.bool)],[]⟩)] [.l (.slice a b c),.l (.int .i64 d),.l (.slice e f g)] h
theorem D_J (a:OA)(b c:Nat)(w:World)(R:EW)(h:
 ∃ (d:Int->World->Prop) (e:Int->World->Nat),d 0 w/\
 (∀ f:Int,∀ g:World,d f g->
 (Br (decide (f<(b:Int))) (∃ (i:Int->World->Prop) (j:Int->World->Nat),i 0 g/\
 (∀ k:Int,∀ l:World,i k l->
 Ix a f b fun m=>Ll l (m.add (f.toNat*1)) fun n o p=>(Br (decide (k<(o:Int))) (Ix a f b fun q=>Ll l (q.add (f.toNat*1)) fun r s t=>Ix r k s fun u=>Li l (u.add (k.toNat*1)) fun v=>(Br (v==0) (R (R9 (.bool false)) l) ((i (wr (k+1)) l/\j (wr (k+1)) l<j k l)))) ((d (wr (f+1)) l/\e (wr (f+1)) l<e f g))))) (R (R9 (.bool true)) g)))):CP 57 #[S9 a b c] w R:=
 vcq Tryz.func57 [] [(6,⟨[(3,.int .i64)],[]⟩),(18,⟨[(4,.int .i64)],[]⟩)] [.l (.slice a b c)] h
theorem z_Q (a:OA)(b c:Nat)(d:Int)(e:Int)(f:Int)(g:OA)(i j:Nat)(k:OA)(l m:Nat)(n:OA)(o p:Nat)(q:Int)(r:Int)(s:Int)(t:Int)(u:OA)(v x:Nat)(y:Bool)(z:OA)(A B:Nat)(C:OA)(D E:Nat)(F:Bool)(G:Int)(H:Bool)(I:Int)(J:Bool)(K:OA)(L M:Nat)(N:Bool)(O:OA)(P Q:Nat)(S:Bool)(U:Int)(V:Bool)(W:Int)(X:Bool)(Y:Int)(Z:Bool)(aa:Int)(ab:Bool)(ac:OA)(ad ae:Nat)(af:Int)(ag:Int)(ah:Int)(ai:Bool)(aj:Int)(ak:Bool)(al:Int)(am:OA)(an ao:Nat)(ap:OA)(aq ar:Nat)(au:OA)(av ax:Nat)(ay:OA)(az aA:Nat)(aB:OA)(aC aD:Nat)(aE:Int)(aF:Int)(aG:Int)(aH:Int)(aI:Int)(aJ:Bool)(aK:OA)(aL aM:Nat)(aN:Int)(aO:Int)(aP:OA)(aQ aS:Nat)(w:World)(R:EW)(h:
 True/\(let aU:=w.alloc (.cells #[N9 e,N9 f,S9 g i j,S9 k l m,S9 n o p,N9 q,N9 r,N9 s,N9 t,S9 u v x,.bool y,S9 z A B,S9 C D E,.bool F,N9 G,.bool H,N9 I,.bool J,S9 K L M,.bool N,S9 O P Q,.bool S,N9 U,.bool V,N9 W,.bool X,N9 Y,.bool Z,N9 aa,.bool ab,S9 ac ad ae,N9 af,N9 ag,N9 ah,.bool ai,N9 aj,.bool ak,N9 al,S9 am an ao,S9 ap aq ar,S9 au av ax,S9 ay az aA,S9 aB aC aD,N9 aE,N9 aF,N9 aG,N9 aH,N9 aI,.bool aJ,S9 aK aL aM,N9 aN,N9 aO,S9 aP aQ aS] 44);
 ∃ (aV:Int->World->Prop) (aW:Int->World->Nat),aV 0 aU/\
 (∀ aX:Int,∀ aY:World,aV aX aY->
 (Br (decide (aX<(av:Int))) (∀ aZ:Bool->World->Prop,(∀ ba:Bool,∀ bb:World,
 ((Br ba (R (R9 (.bool false)) bb) ((aV (wr (aX+1)) bb/\aW (wr (aX+1)) bb<aW aX aY))))->
 aZ ba bb)->
 Ix au aX av fun bc=>Li aY ((bc.add (aX.toNat*2)).add 1) fun bd=>(Nr (bd==0) (Ix au aX av fun be=>Li aY ((be.add (aX.toNat*2)).add 1) fun bf=>True/\(let bg:=aY.alloc (.cells #[N9 bf] 3);
 Cb 55 #[S9 a b c,N9 d,(S9 (some (adr aY.heap.size)) 1 1)] bg (fun bh bi=>(KeepT 44 bg bi/\True)/\aZ (!bh) bi))) (aZ true aY))) (∃ (bj:Int->World->Prop) (bk:Int->World->Nat),bj 0 aY/\
 (∀ bl:Int,∀ bm:World,bj bl bm->
 (Br (decide (bl<(az:Int))) (∀ bn:Bool->World->Prop,(∀ bo:Bool,∀ bp:World,
 ((Br bo (R (R9 (.bool false)) bp) ((bj (wr (bl+1)) bp/\bk (wr (bl+1)) bp<bk bl bm))))->
 bn bo bp)->
 Ix ay bl az fun bq=>Li bm ((bq.add (bl.toNat*2)).add 1) fun br=>(Nr (br==0) (Ix ay bl az fun bs=>Li bm ((bs.add (bl.toNat*2)).add 1) fun bt=>True/\(let bu:=bm.alloc (.cells #[N9 bt] 3);
 Cb 55 #[S9 a b c,N9 0,(S9 (some (adr bm.heap.size)) 1 1)] bu (fun bv bx=>(KeepT 44 bu bx/\True)/\bn (!bv) bx))) (bn true bm))) (∃ (bz:Int->World->Prop) (bA:Int->World->Nat),bz 0 bm/\
 (∀ bB:Int,∀ bC:World,bz bB bC->
 (Br (decide (bB<(aC:Int))) (∀ bD:Bool->World->Prop,(∀ bE:Bool,∀ bF:World,
 ((Br bE (R (R9 (.bool false)) bF) ((bz (wr (bB+1)) bF/\bA (wr (bB+1)) bF<bA bB bC))))->
 bD bE bF)->
 Ix aB bB aC fun bG=>Li bC ((bG.add (bB.toNat*2)).add 1) fun bH=>(Nr (bH==0) (Ix aB bB aC fun bI=>Li bC ((bI.add (bB.toNat*2)).add 1) fun bJ=>True/\(let bK:=bC.alloc (.cells #[N9 bJ] 3);
 Cb 55 #[S9 a b c,N9 0,(S9 (some (adr bC.heap.size)) 1 1)] bK (fun bL bM=>(KeepT 44 bK bM/\True)/\bD (!bL) bM))) (bD true bC))) (∃ (bN:Int->World->Prop) (bO:Int->World->Nat),bN 0 bC/\
 (∀ bP:Int,∀ bQ:World,bN bP bQ->
 (Br (decide (bP<(A:Int))) (Ix z bP A fun bS=>L_ibisll bQ (bS.add (bP.toNat*6)) fun bU bV bW bX bY bZ ca cb cc cd=>Cb 38 #[(.agg #[N9 bU,.bool bV,N9 bW,T9 bX,S9 bY bZ ca,S9 cb cc cd])] bQ (fun ce cf=>(KeepT 44 bQ cf/\True)/\(Br (!ce) (R (R9 (.bool false)) cf) ((bN (wr (bP+1)) cf/\bO (wr (bP+1)) cf<bO bP bQ))))) (∀ cg:Bool->World->Prop,(∀ ch:Bool,∀ ci:World,
 (R (R9 (.bool ch)) ci)->
 cg ch ci)->
 (Nr ((D:Int)==0) (Ix C 0 D fun cj=>L_ibisll bQ (cj.add ((0:Int).toNat*6)) fun ck cl cm cn co cp cq cr ct cu=>Cb 38 #[(.agg #[N9 ck,.bool cl,N9 cm,T9 cn,S9 co cp cq,S9 cr ct cu])] bQ (fun cv cx=>(KeepT 44 bQ cx/\True)/\(Br cv ((Nr (aE !=3) (cg (decide (aF>0)) cx) (cg true cx))) (cg false cx)))) ((Nr (aE !=3) (cg (decide (aF>0)) bQ) (cg true bQ)))))))))))))))))):CP 58 #[S9 a b c,N9 d,(.agg #[N9 e,N9 f,S9 g i j,S9 k l m,S9 n o p,N9 q,N9 r,N9 s,N9 t,S9 u v x,.bool y,S9 z A B,S9 C D E,.bool F,N9 G,.bool H,N9 I,.bool J,S9 K L M,.bool N,S9 O P Q,.bool S,N9 U,.bool V,N9 W,.bool X,N9 Y,.bool Z,N9 aa,.bool ab,S9 ac ad ae,N9 af,N9 ag,N9 ah,.bool ai,N9 aj,.bool ak,N9 al,S9 am an ao,S9 ap aq ar,S9 au av ax,S9 ay az aA,S9 aB aC aD,N9 aE,N9 aF,N9 aG,N9 aH,N9 aI,.bool aJ,S9 aK aL aM,N9 aN,N9 aO,S9 aP aQ aS])] w R:=
 vcq Tryz.func58 [5] [(6,⟨[(7,.int .i64)],[]⟩),(15,⟨[(37,.bool)],[]⟩),(27,⟨[(8,.int .i64)],[]⟩),(36,⟨[(63,.bool)],[]⟩),(48,⟨[(9,.int .i64)],[]⟩),(57,⟨[(89,.bool)],[]⟩),(69,⟨[(10,.int .i64)],[]⟩),(86,⟨[(6,.bool)],[]⟩)] [.l (.slice a b c),.l (.int .i64 d),.agg [.int .i64 e,.int .i64 f,.slice g i j,.slice k l m,.slice n o p,.int .i64 q,.int .i64 r,.int .i64 s,.int .i64 t,.slice u v x,.bool y,.slice z A B,.slice C D E,.bool F,.int .i64 G,.bool H,.int .i64 I,.bool J,.slice K L M,.bool N,.slice O P Q,.bool S,.int .i64 U,.bool V,.int .i64 W,.bool X,.int .i64 Y,.bool Z,.int .i64 aa,.bool ab,.slice ac ad ae,.int .i64 af,.int .i64 ag,.int .i64 ah,.bool ai,.int .i64 aj,.bool ak,.int .i64 al,.slice am an ao,.slice ap aq ar,.slice au av ax,.slice ay az aA,.slice aB aC aD,.int .i64 aE,.int .i64 aF,.int .i64 aG,.int .i64 aH,.int .i64 aI,.bool aJ,.slice aK aL aM,.int .i64 aN,.int .i64 aO,.slice aP aQ aS]] h
theorem z_D (a:Int)(b:Int)(c:OA)(d e:Nat)(f:OA)(g i:Nat)(j:OA)(k l:Nat)(m:Int)(n:Int)(o:Int)(p:Int)(q:OA)(r s:Nat)(t:Bool)(u:OA)(v x:Nat)(y:OA)(z A:Nat)(B:Bool)(C:Int)(D:Bool)(E:Int)(F:Bool)(G:OA)(H I:Nat)(J:Bool)(K:OA)(L M:Nat)(N:Bool)(O:Int)(P:Bool)(Q:Int)(S:Bool)(U:Int)(V:Bool)(W:Int)(X:Bool)(Y:OA)(Z aa:Nat)(ab:Int)(ac:Int)(ad:Int)(ae:Bool)(af:Int)(ag:Bool)(ah:Int)(ai:OA)(aj ak:Nat)(al:OA)(am an:Nat)(ao:OA)(ap aq:Nat)(ar:OA)(au av:Nat)(ax:OA)(ay az:Nat)(aA:Int)(aB:Int)(aC:Int)(aD:Int)(aE:Int)(aF:Bool)(aG:OA)(aH aI:Nat)(aJ:Int)(aK:Int)(aL:OA)(aM aN:Nat)(w:World)(R:EW)(h:
 True/\(let aO:=w.alloc (.cells #[N9 a,N9 b,S9 c d e,S9 f g i,S9 j k l,N9 m,N9 n,N9 o,N9 p,S9 q r s,.bool t,S9 u v x,S9 y z A,.bool B,N9 C,.bool D,N9 E,.bool F,S9 G H I,.bool J,S9 K L M,.bool N,N9 O,.bool P,N9 Q,.bool S,N9 U,.bool V,N9 W,.bool X,S9 Y Z aa,N9 ab,N9 ac,N9 ad,.bool ae,N9 af,.bool ag,N9 ah,S9 ai aj ak,S9 al am an,S9 ao ap aq,S9 ar au av,S9 ax ay az,N9 aA,N9 aB,N9 aC,N9 aD,N9 aE,.bool aF,S9 aG aH aI,N9 aJ,N9 aK,S9 aL aM aN] 44);
 True/\(let aP:=aO.alloc (.cells #[.bool B,N9 C,.bool D,N9 E,.bool N,N9 O,.bool P,N9 Q,.bool S,N9 U,.bool V,N9 W,.bool ae,N9 af,.bool ag,N9 ah] 34);
 ∃ (aQ:Int->World->Prop) (aS:Int->World->Nat),aQ 0 aP/\
 (∀ aU:Int,∀ aV:World,aQ aU aV->
 (Br (decide (aU<8)) (∀ aW:Bool->World->Prop,(∀ aX:Bool,∀ aY:World,
 ((Br aX (R (R9 (.bool false)) aY) ((aQ (wr (aU+1)) aY/\aS (wr (aU+1)) aY<aS aU aV))))->
 aW aX aY)->
 Ix (some (adr aO.heap.size)) aU 8 fun aZ=>Lb aV (aZ.add (aU.toNat*2)) fun ba=>(Br ba (Ix (some (adr aO.heap.size)) aU 8 fun bb=>Li aV ((bb.add (aU.toNat*2)).add 1) fun bc=>aW (decide (bc<0)) aV) (aW false aV))) (R (R9 (.bool true)) aV)))))):CP 59 #[(.agg #[N9 a,N9 b,S9 c d e,S9 f g i,S9 j k l,N9 m,N9 n,N9 o,N9 p,S9 q r s,.bool t,S9 u v x,S9 y z A,.bool B,N9 C,.bool D,N9 E,.bool F,S9 G H I,.bool J,S9 K L M,.bool N,N9 O,.bool P,N9 Q,.bool S,N9 U,.bool V,N9 W,.bool X,S9 Y Z aa,N9 ab,N9 ac,N9 ad,.bool ae,N9 af,.bool ag,N9 ah,S9 ai aj ak,S9 al am an,S9 ao ap aq,S9 ar au av,S9 ax ay az,N9 aA,N9 aB,N9 aC,N9 aD,N9 aE,.bool aF,S9 aG aH aI,N9 aJ,N9 aK,S9 aL aM aN])] w R:=
 vcq Tryz.func59 [1] [(8,⟨[(4,.int .i64)],[]⟩),(17,⟨[(40,.bool)],[]⟩)] [.agg [.int .i64 a,.int .i64 b,.slice c d e,.slice f g i,.slice j k l,.int .i64 m,.int .i64 n,.int .i64 o,.int .i64 p,.slice q r s,.bool t,.slice u v x,.slice y z A,.bool B,.int .i64 C,.bool D,.int .i64 E,.bool F,.slice G H I,.bool J,.slice K L M,.bool N,.int .i64 O,.bool P,.int .i64 Q,.bool S,.int .i64 U,.bool V,.int .i64 W,.bool X,.slice Y Z aa,.int .i64 ab,.int .i64 ac,.int .i64 ad,.bool ae,.int .i64 af,.bool ag,.int .i64 ah,.slice ai aj ak,.slice al am an,.slice ao ap aq,.slice ar au av,.slice ax ay az,.int .i64 aA,.int .i64 aB,.int .i64 aC,.int .i64 aD,.int .i64 aE,.bool aF,.slice aG aH aI,.int .i64 aJ,.int .i64 aK,.slice aL aM aN]] h
theorem y_Y (a:OA)(b c:Nat)(w:World)(R:EW)(h:
 ∃ (d:Int->World->Prop) (e:Int->World->Nat),d 0 w/\
 (∀ f:Int,∀ g:World,d f g->
 (Br (decide (f<(b:Int))) (∀ i:Bool->World->Prop,(∀ j:Bool,∀ k:World,
 ((Br j (R (R9 (.bool false)) k) ((d (wr (f+1)) k/\e (wr (f+1)) k<e f g))))->
 i j k)->
 Ix a f b fun l=>Ll g ((l.add (f.toNat*53)).add 11) fun m n o=>Cb 30 #[S9 m n o] g (fun p q=>True/\(Nr (!p) (Ix a f b fun r=>Ll q ((r.add (f.toNat*53)).add 12) fun s t u=>Cb 30 #[S9 s t u] q (fun v x=>True/\(Nr (!v) (Ix a f b fun y=>Ll x ((y.add (f.toNat*53)).add 11) fun z A B=>Cb 31 #[S9 z A B] x (fun C D=>True/\(Nr (!C) (Ix a f b fun E=>Ll D ((E.add (f.toNat*53)).add 12) fun F G H=>Cb 31 #[S9 F G H] D (fun I J=>True/\i (!I) J)) (i true D)))) (i true x)))) (i true q)))) (R (R9 (.bool true)) g)))):CP 29 #[S9 a b c] w R:=
 vcq Tryz.func29 [] [(6,⟨[(3,.int .i64)],[]⟩),(15,⟨[(43,.bool)],[]⟩)] [.l (.slice a b c)] h
theorem D_w (a:OA)(b c:Nat)(d:Int)(e:Bool)(f:Int)(g:BA)(i:OA)(j k:Nat)(l:OA)(m n:Nat)(w:World)(R:EW)(h:
 True/\(let o:=w.alloc (.cells #[N9 d,.bool e,N9 f,T9 g,S9 i j k,S9 l m n] 27);
 True/\(let p:=o.alloc (.cells #[N9 0] 3);
 Off p (adr o.heap.size) 1 [27]/\True/\(let q:=(p.setCell (adr o.heap.size) (N9 200000));
 C0 40 #[S9 a b c,N9 1,(.agg #[N9 d,.bool e,N9 f,T9 g,S9 i j k,S9 l m n]),(P9 (some (adr o.heap.size)))] q (fun r=>(KeepT 27 q r/\True)/\Li r (adr o.heap.size) fun s=>R (R9 (.bool (decide (s>0)))) r))))):CP 32 #[S9 a b c,(.agg #[N9 d,.bool e,N9 f,T9 g,S9 i j k,S9 l m n])] w R:=
 vcq Tryz.func32 [3] [] [.l (.slice a b c),.agg [.int .i64 d,.bool e,.int .i64 f,.str g,.slice i j k,.slice l m n]] h
theorem B_N (a:OA)(b c:Nat)(d:Int)(e:Int)(f:Bool)(g:Int)(i:BA)(j:OA)(k l:Nat)(m:OA)(n o:Nat)(p:OA)(w:World)(R:EW)(h:
 True/\(let q:=w.alloc (.cells #[N9 e,.bool f,N9 g,T9 i,S9 j k l,S9 m n o] 27);
 ∀ r:Bool->World->Prop,(∀ s:Bool,∀ t:World,
 ((Br s (R (R9 (.tuple #[])) t) (Pt p fun u=>Li t u fun v=>Pt p fun x=>Off t x 1 [27]/\True/\(let y:=(t.setCell x (N9 (wr (v-1))));
 Ix a (wr (d-1)) b fun z=>L_iillliiiilbllbibiblblbibibibibliiibibillllliiiiibliil y (z.add ((wr (d-1)).toNat*53)) fun A B C D E F G H I J K L M N O P Q S U V W X Y Z aa ab ac ad ae af ag ah ai aj ak al am an ao ap aq ar au av ax ay az aA aB aC aD aE aF aG aH aI aJ aK aL aM aN aO aP aQ aS aU aV aW aX aY aZ ba bb bc bd be bf bg bh bi bj bk bl bm bn=>True/\True/\(let bp:=y.alloc (.cells #[N9 A,N9 B,S9 C D E,S9 F G H,S9 I J K,N9 L,N9 M,N9 N,N9 O,S9 P Q S,.bool U,S9 V W X,S9 Y Z aa,.bool ab,N9 ac,.bool ad,N9 ae,.bool af,S9 ag ah ai,.bool aj,S9 ak al am,.bool an,N9 ao,.bool ap,N9 aq,.bool ar,N9 au,.bool av,N9 ax,.bool ay,S9 az aA aB,N9 aC,N9 aD,N9 aE,.bool aF,N9 aG,.bool aH,N9 aI,S9 aJ aK aL,S9 aM aN aO,S9 aP aQ aS,S9 aU aV aW,S9 aX aY aZ,N9 ba,N9 bb,N9 bc,N9 bd,N9 be,.bool bf,S9 bg bh bi,N9 bj,N9 bk,S9 bl bm bn] 44);
 (Br (A !=0) (R (R9 (.tuple #[])) bp) (True/\(let bq:=bp.alloc (.cells #[N9 B,N9 L,N9 M,N9 N,N9 O] 3);
 ∃ br bs bt,∃ bu,(Go.builtin .append #[32,32] 32 #[false,false] #[(S9 (some (adr bp.heap.size)) 5 5),S9 C D E]).run Tryz.prog bq=.ok (.value (S9 br bs bt)) bu/\(KeepT 27 bq bu/\KeepT 44 bq bu/\True)/\∀ bv,bv=bu.drew->∃ bx bz bA,∃ bB,(Go.builtin .append #[32,32] 32 #[false,false] #[S9 br bs bt,S9 F G H]).run Tryz.prog bv=.ok (.value (S9 bx bz bA)) bB/\(KeepT 27 bv bB/\KeepT 44 bv bB/\True)/\((1=1)/\True)/\∃ bC bD bE,∃ bF,(Go.builtin .append #[32,32] 32 #[false,false] #[S9 bx bz bA,S9 I J K]).run Tryz.prog bB=.ok (.value (S9 bC bD bE)) bF/\(KeepT 27 bB bF/\KeepT 44 bB bF/\True)/\True/\True/\∃ (bG:OA->Nat->Nat->Int->World->Prop) (bH:OA->Nat->Nat->Int->World->Nat),bG bC bD bE 0 bF/\
 (∀ (bI:OA) (bJ bK:Nat),∀ bL:Int,∀ bM:World,bG bI bJ bK bL bM->
 (Br (decide (bL<(aQ:Int))) (Ix aP bL aQ fun bN=>Li bM ((bN.add (bL.toNat*2)).add 1) fun bO=>True/\(let bP:=bM.alloc (.cells #[N9 bO] 3);
 ∃ bQ bS bU,∃ bV,(Go.builtin .append #[32,32] 32 #[false,false] #[S9 bI bJ bK,(S9 (some (adr bM.heap.size)) 1 1)]).run Tryz.prog bP=.ok (.value (S9 bQ bS bU)) bV/\(KeepT 27 bP bV/\KeepT 44 bP bV/\True)/\(bG bQ bS bU (wr (bL+1)) bV/\bH bQ bS bU (wr (bL+1)) bV<bH bI bJ bK bL bM))) (∃ (bW:OA->Nat->Nat->Int->World->Prop) (bX:OA->Nat->Nat->Int->World->Nat),bW bI bJ bK 0 bM/\
 (∀ (bY:OA) (bZ ca:Nat),∀ cb:Int,∀ cc:World,bW bY bZ ca cb cc->
 (Br (decide (cb<(bm:Int))) (Ix bl cb bm fun cd=>Li cc ((cd.add (cb.toNat*3)).add 2) fun ce=>True/\(let cf:=cc.alloc (.cells #[N9 ce] 3);
 ∃ cg ch ci,∃ cj,(Go.builtin .append #[32,32] 32 #[false,false] #[S9 bY bZ ca,(S9 (some (adr cc.heap.size)) 1 1)]).run Tryz.prog cf=.ok (.value (S9 cg ch ci)) cj/\(KeepT 27 cf cj/\KeepT 44 cf cj/\True)/\(bW cg ch ci (wr (cb+1)) cj/\bX cg ch ci (wr (cb+1)) cj<bX bY bZ ca cb cc))) (C0 61 #[S9 a b c,S9 bY bZ ca,(.agg #[N9 e,.bool f,N9 g,T9 i,S9 j k l,S9 m n o]),P9 p] cc (fun ck=>(KeepT 27 cc ck/\KeepT 44 cc ck/\True)/\∃ (cl:Int->World->Prop) (cm:Int->World->Nat),cl 0 ck/\
 (∀ cn:Int,∀ co:World,cl cn co->
 ∀ cp:Bool->World->Prop,(∀ cq:Bool,∀ cr:World,
 ((Br cq (∀ ct:World->Prop,(∀ cu:World,
 ((cl (wr (cn+1)) cu/\cm (wr (cn+1)) cu<cm cn co))->
 ct cu)->
 True/\(let cv:=cr.alloc (.cells #[N9 aC,N9 aD,N9 aE,N9 be,N9 bk,N9 bd,N9 bb] 3);
 ∀ cx:OA->Nat->Nat->World->Prop,(∀ (cy:OA) (cz cA:Nat),∀ cB:World,
 (∀ cC:OA->Nat->Nat->World->Prop,(∀ (cD:OA) (cE cF:Nat),∀ cG:World,
 (∃ (cH:OA->Nat->Nat->Int->World->Prop) (cI:OA->Nat->Nat->Int->World->Nat),cH cD cE cF 0 cG/\
 (∀ (cJ:OA) (cK cL:Nat),∀ cM:Int,∀ cN:World,cH cJ cK cL cM cN->
 (Br (decide (cM<(aV:Int))) (∀ cO:OA->Nat->Nat->World->Prop,(∀ (cP:OA) (cQ cS:Nat),∀ cU:World,
 ((cH cP cQ cS (wr (cM+1)) cU/\cI cP cQ cS (wr (cM+1)) cU<cI cJ cK cL cM cN))->
 cO cP cQ cS cU)->
 ∀ cV:Bool->World->Prop,(∀ cW:Bool,∀ cX:World,
 ((Br cW (Ix aU cM aV fun cY=>Li cX ((cY.add (cM.toNat*2)).add 1) fun cZ=>True/\(let da:=cX.alloc (.cells #[N9 cZ] 3);
 ∃ db dc dd,∃ de,(Go.builtin .append #[32,32] 32 #[false,false] #[S9 cJ cK cL,(S9 (some (adr cX.heap.size)) 1 1)]).run Tryz.prog da=.ok (.value (S9 db dc dd)) de/\(KeepT 27 da de/\KeepT 44 da de/\True)/\cO db dc dd de)) (cO cJ cK cL cX)))->
 cV cW cX)->
 ∀ df,df=cN.drew->(Br (decide (cn<(k:Int))) (Ix j cn k fun dg=>Ls df (dg.add (cn.toNat*1)) fun dh=>Ix aU cM aV fun di=>Ls df (di.add (cM.toNat*2)) fun dj=>cV (dh.toList==dj.toList) df) (cV false df))) (∃ (dk:OA->Nat->Nat->Int->World->Prop) (dl:OA->Nat->Nat->Int->World->Nat),dk cJ cK cL 0 cN/\
 (∀ (dm:OA) (dn dp:Nat),∀ dq:Int,∀ dr:World,dk dm dn dp dq dr->
 (Br (decide (dq<(aY:Int))) (Ix aX dq aY fun ds=>Li dr ((ds.add (dq.toNat*2)).add 1) fun dt=>True/\(let du:=dr.alloc (.cells #[N9 dt] 3);
 ∃ dv dx dy,∃ dz,(Go.builtin .append #[32,32] 32 #[false,false] #[S9 dm dn dp,(S9 (some (adr dr.heap.size)) 1 1)]).run Tryz.prog du=.ok (.value (S9 dv dx dy)) dz/\(KeepT 27 du dz/\KeepT 44 du dz/\True)/\(dk dv dx dy (wr (dq+1)) dz/\dl dv dx dy (wr (dq+1)) dz<dl dm dn dp dq dr))) (Ix m cn n fun dA=>L_ibisll dr (dA.add (cn.toNat*6)) fun dB dC dD dE dF dG dH dI dJ dK=>C0 61 #[S9 a b c,S9 dm dn dp,(.agg #[N9 dB,.bool dC,N9 dD,T9 dE,S9 dF dG dH,S9 dI dJ dK]),P9 p] dr (fun dL=>(KeepT 27 dr dL/\KeepT 44 dr dL/\True)/\(Br (decide (cn<(k:Int))) (∀ dM,dM=dL.drew->Ix j cn k fun dN=>Ls dM (dN.add (cn.toNat*1)) fun dO=>True/\C0 40 #[S9 a b c,N9 bc,(.agg #[N9 3,.bool false,N9 0,T9 dO,S9 none 0 0,S9 none 0 0]),P9 p] dM (fun dP=>(KeepT 27 dM dP/\KeepT 44 dM dP/\True)/\True/\ct dP)) (ct dL))))))))))->
 cC cD cE cF cG)->
 (Br (decide ((bh:Int)>cn)) (Ix bg cn bh fun dQ=>Li cB (dQ.add (cn.toNat*1)) fun dS=>True/\(let dU:=cB.alloc (.cells #[N9 dS] 3);
 ∃ dV dW dX,∃ dY,(Go.builtin .append #[32,32] 32 #[false,false] #[S9 cy cz cA,(S9 (some (adr cB.heap.size)) 1 1)]).run Tryz.prog dU=.ok (.value (S9 dV dW dX)) dY/\(KeepT 27 dU dY/\KeepT 44 dU dY/\True)/\cC dV dW dX dY)) (cC cy cz cA cB)))->
 cx cy cz cA cB)->
 (Br (decide ((aA:Int)>cn)) (Ix az cn aA fun dZ=>Li cv (dZ.add (cn.toNat*1)) fun ea=>True/\(let eb:=cv.alloc (.cells #[N9 ea] 3);
 ∃ ec ed ee,∃ ef,(Go.builtin .append #[32,32] 32 #[false,false] #[(S9 (some (adr cr.heap.size)) 7 7),(S9 (some (adr cv.heap.size)) 1 1)]).run Tryz.prog eb=.ok (.value (S9 ec ed ee)) ef/\(KeepT 27 eb ef/\KeepT 44 eb ef/\True)/\cx ec ed ee ef)) (cx (some (adr cr.heap.size)) 7 7 cv)))) (R (R9 (.tuple #[])) cr)))->
 cp cq cr)->
 (Br (decide (cn<(n:Int))) (Pt p fun eg=>Li co eg fun eh=>cp (decide (eh>0)) co) (cp false co))))))))))))))))))->
 r s t)->
 (Nr (decide (d<1)) ((Nr (decide (d>(b:Int))) (Pt p fun ei=>Li q ei fun ej=>r (decide (ej<=0)) q) (r true q))) (r true q)))):CP 40 #[S9 a b c,N9 d,(.agg #[N9 e,.bool f,N9 g,T9 i,S9 j k l,S9 m n o]),P9 p] w R:=
 vcq Tryz.func40 [6,8] [(3,⟨[(29,.bool)],[]⟩),(26,⟨[(9,.slice),(10,.int .i64)],[]⟩),(41,⟨[(9,.slice),(11,.int .i64)],[]⟩),(57,⟨[(12,.int .i64)],[]⟩),(59,⟨[(111,.bool)],[]⟩),(64,⟨[],[]⟩),(68,⟨[(13,.slice)],[]⟩),(74,⟨[(13,.slice)],[]⟩),(84,⟨[(13,.slice),(14,.int .i64)],[]⟩),(91,⟨[(13,.slice)],[]⟩),(93,⟨[(182,.bool)],[]⟩),(103,⟨[(13,.slice),(15,.int .i64)],[]⟩)] [.l (.slice a b c),.l (.int .i64 d),.agg [.int .i64 e,.bool f,.int .i64 g,.str i,.slice j k l,.slice m n o],.l (.optr p)] h
theorem B_h (a:OA)(b c:Nat)(d:OA)(e f:Nat)(g:Int)(i:Bool)(j:Int)(k:BA)(l:OA)(m n:Nat)(o:OA)(p q:Nat)(r:OA)(w:World)(R:EW)(h:
 True/\(let s:=w.alloc (.cells #[N9 g,.bool i,N9 j,T9 k,S9 l m n,S9 o p q] 27);
 ∃ (t:Int->World->Prop) (u:Int->World->Nat),t 0 s/\
 (∀ v:Int,∀ x:World,t v x->
 (Br (decide (v<(e:Int))) (∀ y,y=x.drew->Ix d v e fun z=>Li y (z.add (v.toNat*1)) fun A=>C0 40 #[S9 a b c,N9 A,(.agg #[N9 g,.bool i,N9 j,T9 k,S9 l m n,S9 o p q]),P9 r] y (fun B=>(KeepT 27 y B/\True)/\True/\(t (wr (v+1)) B/\u (wr (v+1)) B<u v x))) (R (R9 (.tuple #[])) x))))):CP 61 #[S9 a b c,S9 d e f,(.agg #[N9 g,.bool i,N9 j,T9 k,S9 l m n,S9 o p q]),P9 r] w R:=
 vcq Tryz.func61 [6] [(5,⟨[(8,.int .i64)],[]⟩)] [.l (.slice a b c),.l (.slice d e f),.agg [.int .i64 g,.bool i,.int .i64 j,.str k,.slice l m n,.slice o p q],.l (.optr r)] h
theorem B_l (a:OA)(b c:Nat)(d:Int)(e:Bool)(f:Int)(g:BA)(i:OA)(j k:Nat)(l:OA)(m n:Nat)(w:World)(R:EW)(h:
 True/\(let o:=w.alloc (.cells #[N9 d,.bool e,N9 f,T9 g,S9 i j k,S9 l m n] 27);
 ∀ p:Bool->World->Prop,(∀ q:Bool,∀ r:World,
 (R (R9 (.bool q)) r)->
 p q r)->
 (Br (decide ((b:Int)<=100000)) (Cb 28 #[S9 a b c] o (fun s t=>(KeepT 27 o t/\True)/\(Br s (Cb 29 #[S9 a b c] t (fun u v=>(KeepT 27 t v/\True)/\(Br u (True/\(let x:=v.alloc (.cells #[N9 d,.bool e,N9 f,T9 g,S9 i j k,S9 l m n] 27);
 Cb 30 #[(S9 (some (adr v.heap.size)) 1 1)] x (fun y z=>(KeepT 27 x z/\True)/\(Br y (True/\(let A:=z.alloc (.cells #[N9 d,.bool e,N9 f,T9 g,S9 i j k,S9 l m n] 27);
 Cb 31 #[(S9 (some (adr z.heap.size)) 1 1)] A (fun B C=>(KeepT 27 A C/\True)/\(Br B (Cb 32 #[S9 a b c,(.agg #[N9 d,.bool e,N9 f,T9 g,S9 i j k,S9 l m n])] C (fun D E=>(KeepT 27 C E/\True)/\p D E)) (p false C))))) (p false z))))) (p false v)))) (p false t)))) (p false o)))):CP 14 #[S9 a b c,(.agg #[N9 d,.bool e,N9 f,T9 g,S9 i j k,S9 l m n])] w R:=
 vcq Tryz.func14 [3] [(2,⟨[(4,.bool)],[]⟩)] [.l (.slice a b c),.agg [.int .i64 d,.bool e,.int .i64 f,.str g,.slice i j k,.slice l m n]] h
theorem z_V (a:Int)(b:Bool)(c:Int)(d:BA)(e:OA)(f g:Nat)(i:OA)(j k:Nat)(w:World)(R:EW)(h:
 True/\(let l:=w.alloc (.cells #[N9 a,.bool b,N9 c,T9 d,S9 e f g,S9 i j k] 27);
 (Br (decide ((d.size:Int)>2147483647)) (R (R9 (.bool false)) l) (Cb 27 #[S9 e f g] l (fun m n=>(KeepT 27 l n/\True)/\(Br (!m) (R (R9 (.bool false)) n) ((Br (decide ((j:Int)>2147483647)) (R (R9 (.bool false)) n) (R (R9 (.bool true)) n))))))))):CP 13 #[(.agg #[N9 a,.bool b,N9 c,T9 d,S9 e f g,S9 i j k])] w R:=
 vcq Tryz.func13 [1] [] [.agg [.int .i64 a,.bool b,.int .i64 c,.str d,.slice e f g,.slice i j k]] h
theorem z_U (a:OA)(b c:Nat)(w:World)(R:EW)(h:
 (Br (decide ((b:Int)>2147483647)) (R (R9 (.bool false)) w) (∃ (d:Int->World->Prop) (e:Int->World->Nat),d 0 w/\
 (∀ f:Int,∀ g:World,d f g->
 (Br (decide (f<(b:Int))) (Ix a f b fun i=>Ls g (i.add (f.toNat*1)) fun j=>(Br (decide ((j.size:Int)>2147483647)) (R (R9 (.bool false)) g) ((d (wr (f+1)) g/\e (wr (f+1)) g<e f g)))) (R (R9 (.bool true)) g)))))):CP 27 #[S9 a b c] w R:=
 vcq Tryz.func27 [] [(14,⟨[(10,.int .i64)],[]⟩)] [.l (.slice a b c)] h
variable [DB]
structure PN (N own:Nat) (x:JN):Prop where
 kind:0<=x.kind/\x.kind<=2
 more:0<=x.more.k/\x.more.k<=3
 cst:x.cst.length<=1
 h5:∀ n∈[x.ref,x.nt,x.iff,x.thn,x.els],later N own n
 allOf:∀ n∈x.allOf,later N own n
 anyOf:∀ n∈x.anyOf,later N own n
 oneOf:∀ n∈x.oneOf,later N own n
 h6:∀ n∈[x.items,x.cont,x.restI,x.names,x.restP,x.more.node],later N 0 n
 first:∀ n∈x.first,later N 0 n
 types:∀ t∈x.types,bitK t≠0
 whole:∀ ns∈[x.allOf,x.anyOf,x.oneOf,x.first],∀ n∈ns,n≠0
 deps:∀ q∈x.deps,later N own q.node/\q.node≠0
 props:∀ q∈x.props,later N 0 q.node/\q.node≠0
 pats:∀ q∈x.pats,later N 0 q.node/\q.node≠0
 moreN:x.more.k=3->x.more.node≠0
theorem x_S {w:World}{ns:List Int}(h:objAt w g=some (.cells (ns.map (Value.int .i64)).toArray 3 (0,0)))(hl:ns.length<=4194304):SlL w 3 1 RI (some (adr g)) ns.length ns.length ns:=by
 refine ⟨rfl,Nat.le_refl _,hl,fun i n hi=>⟨adr g,rfl,[.int .i64 n],⟨⟨3,.inl rfl,(ns.map (Value.int .i64)).toArray,(0,0),?_,?_,?_⟩,rfl,trivial⟩,rfl⟩⟩
 ·rw [Nat.mul_one,Addr.add_lit];exact h
 ·rw [Nat.mul_one,Addr.add_lit];rfl
 ·rw [Nat.mul_one,Addr.add_lit];simp [adj,hi]
theorem x_A {w:World}{s1:OA}{s1l s1c own:Nat}{a:OA}{l c:Nat}{ns:List Int}(hl:SlL w T 1 RI a l c ns):CP 55 #[.slice s1 s1l s1c,.int .i64 (own:Int),.slice a l c] w (RetB w fun z=>z=true->∀ n∈ns,later s1l own n):=by
 obtain ⟨e2,e2'⟩:=hl.len;refine D_D s1 s1l s1c (own:Int) a l c w _ ⟨fun i w1=>0<=i/\i<=l/\w1=w/\∀ n∈ns.take i.toNat,later s1l own n,fun i _=>((l:Int)-i).toNat,⟨by omega,by omega,rfl,by simp⟩,?_⟩;rintro i w1 ⟨h0,h1,rfl,hall⟩;refine ⟨fun hlt K8 hK8=>?_,fun hge=>⟨true,rfl,Ext.refl _,fun _ n hn=>a_o (xs:=ns) e2 hge hall n hn⟩⟩;have hlt:=odt hlt;obtain ⟨p,n,hp,hns,cs,hc,rfl⟩:=hl.get h0 hlt;have hcell:=hc.1.choose_spec.2.cell;have k8:∀ b,(b=false->later s1l own n)->K8 b w1:=fun b hb=>hK8 b w1 ⟨fun _=>⟨false,rfl,Ext.refl _,nofun⟩,fun hf=>by
  rw [a_a h0 (by omega)];exact next h0 hlt ⟨rfl,a_g h0 hall hns (hb hf)⟩⟩
 refine ⟨p,hp,⟨h0,hlt⟩,n,hcell,fun hne=>⟨p,hp,⟨h0,hlt⟩,n,hcell,fun g2=>⟨p,hp,⟨h0,hlt⟩,n,hcell,fun g3=>⟨p,hp,⟨h0,hlt⟩,n,hcell,k8 _ fun g4=>?_⟩,fun _=>k8 _ nofun⟩,fun _=>k8 _ nofun⟩,fun he=>⟨p,hp,⟨h0,hlt⟩,n,hcell,fun g3=>⟨p,hp,⟨h0,hlt⟩,n,hcell,k8 _ fun g4=>.inl (by simpa using he)⟩,fun _=>k8 _ nofun⟩⟩;have g2:=odf g2;have g4:=odf g4;exact .inr ⟨by omega,by omega⟩
theorem D_g {w:World}{a:OA}{l c:Nat}{nss:List (List Int)}(hl:SlL w 32 1 (fun ns cs=>∃ (a:OA) (l c:Nat),cs=[.slice a l c]/\RInts w a l c ns) a l c nss):CP 57 #[.slice a l c] w (RetB w fun z=>z=true->∀ ns∈nss,∀ n∈ns,n≠0):=by
 obtain ⟨e2,e2'⟩:=hl.len;refine D_J a l c w _ ⟨fun i w1=>0<=i/\i<=l/\w1=w/\∀ ns∈nss.take i.toNat,∀ n∈ns,n≠0,fun i _=>((l:Int)-i).toNat,⟨by omega,by omega,rfl,by simp⟩,?_⟩;rintro i w1 ⟨h0,h1,rfl,hall⟩;refine ⟨fun hlt=>?_,fun hge=>⟨true,rfl,Ext.refl _,fun _=>a_o (xs:=nss) e2 hge hall⟩⟩;have hlt:=odt hlt;obtain ⟨p,ns,hp,hns,cs,hc,a',l',c',rfl,hr⟩:=hl.get h0 hlt;have hcell:=hc.1.choose_spec.2.cell;obtain ⟨e3,e3'⟩:=hr.len;refine ⟨fun k w2=>0<=k/\k<=l'/\w2=w1/\∀ n∈ns.take k.toNat,n≠0,fun k _=>((l':Int)-k).toNat,⟨by omega,by omega,rfl,by simp⟩,?_⟩;rintro k w2 ⟨k0,k1,rfl,hk⟩;refine ⟨p,hp,⟨h0,hlt⟩,a',l',c',hcell,fun hlt2=>?_,fun hge2=>?_⟩
 ·have hlt2:=odt hlt2;obtain ⟨q,n,hq,hn,cs2,hc2,rfl⟩:=SlL.get hr k0 hlt2;refine ⟨p,hp,⟨h0,hlt⟩,a',l',c',hcell,q,hq,⟨k0,hlt2⟩,n,hc2.1.choose_spec.2.cell,fun _=>⟨false,rfl,Ext.refl _,nofun⟩,fun hne=>?_⟩;rw [a_a k0 (by omega)];exact next k0 hlt2 ⟨rfl,a_g k0 hk hn (by simpa using hne)⟩
 ·rw [a_a h0 (by omega)];exact next h0 hlt ⟨rfl,a_g h0 hall hns (a_o (xs:=ns) e3 hge2 hk)⟩
theorem C_k (s:BA)(w:World):CP 56 #[.string s] w (RetB w fun z=>z=true->bitK s≠0):=by
 refine C_L s w _ fun K hK=>?_;have k:∀ b,(b=true->bitK s≠0)->K b w:=fun b hb=>hK b w ⟨fun h=>⟨true,rfl,Ext.refl w,fun _=>hb h⟩,fun _=>⟨false,rfl,Ext.refl w,nofun⟩⟩;have t:∀ {u:BA},(s.toList==u.toList)=true->bitK u≠0->bitK s≠0:=fun h hu=>by rw [a_b.1 h];exact hu
 exact ⟨fun h=>k _ fun _=>t h (by decide),fun _=>⟨fun h=>k _ fun _=>t h (by decide),fun _=>⟨fun h=>k _ fun _=>t h (by decide),fun _=>⟨fun h=>k _ fun _=>t h (by decide),fun _=>⟨fun h=>k _ fun _=>t h (by decide),fun _=>⟨fun h=>k _ fun _=>t h (by decide),fun _=>k _ fun h=>t h (by decide)⟩⟩⟩⟩⟩⟩
section
variable {w:World} {x:JN} {cells:List Value}
theorem E_s (hx:RJN w x cells):CP 37 #[.agg cells.toArray] w (RetB w fun z=>z=true->NewN x):=by
 obtain ⟨s3,s4,s5,s10,s12,s13,s19,s21,s31,s39,s40,s41,s42,s43,s50,s53,rfl,h1,h2,h3,h4,h5,h6,h7,h8,h9,h10,h11,h12,h13,h14,h15,h16⟩:=hx;refine E_x x.kind x.ref s3.a s3.l s3.c s4.a s4.l s4.c s5.a s5.l s5.c x.nt x.iff x.thn x.els s10.a s10.l s10.c x.hasEnum s12.a s12.l s12.c s13.a s13.l s13.c x.minL.is x.minL.n x.maxL.is x.maxL.n x.pat.is s19.a s19.l s19.c x.fmt.is s21.a s21.l s21.c x.minI.is x.minI.n x.maxI.is x.maxI.n x.minC.is x.minC.n x.maxC.is x.maxC.n x.uniq s31.a s31.l s31.c x.items x.cont x.restI x.minP.is x.minP.n x.maxP.is x.maxP.n s39.a s39.l s39.c s40.a s40.l s40.c s41.a s41.l s41.c s42.a s42.l s42.c s43.a s43.l s43.c x.more.k x.more.node x.names x.restP x.single x.hasPl s50.a s50.l s50.c x.others.k x.others.node s53.a s53.l s53.c w _ ⟨trivial,?_⟩;intro w54;have x54:EF w w54:=(Ext.refl _).alloc _;clear_value w54;intro K hK;have k:∀ b,(b=true->NewN x)->K b w54:=fun b hb=>hK b w54 ⟨b,rfl,x54,hb⟩;obtain ⟨e16,-⟩:=h16.len;refine ⟨fun g1=>⟨fun g2=>⟨fun g3=>⟨fun g4=>⟨fun g5=>k _ fun g6=>?_,fun _=>k _ nofun⟩,fun _=>k _ nofun⟩,fun _=>k _ nofun⟩,fun _=>k _ nofun⟩,fun _=>k _ nofun⟩;exact ⟨by simpa using g1,by simpa using g2,by simpa using g4,by simpa using g5,List.eq_nil_of_length_eq_zero (by have:(s53.l:Int)=0:=(by simpa using g6);omega)⟩
theorem z_j (hx:RJN w x cells):CP 59 #[.agg cells.toArray] w (RetB w fun _=>True):=by
 obtain ⟨s3,s4,s5,s10,s12,s13,s19,s21,s31,s39,s40,s41,s42,s43,s50,s53,rfl,h1,h2,h3,h4,h5,h6,h7,h8,h9,h10,h11,h12,h13,h14,h15,h16⟩:=hx;refine z_D x.kind x.ref s3.a s3.l s3.c s4.a s4.l s4.c s5.a s5.l s5.c x.nt x.iff x.thn x.els s10.a s10.l s10.c x.hasEnum s12.a s12.l s12.c s13.a s13.l s13.c x.minL.is x.minL.n x.maxL.is x.maxL.n x.pat.is s19.a s19.l s19.c x.fmt.is s21.a s21.l s21.c x.minI.is x.minI.n x.maxI.is x.maxI.n x.minC.is x.minC.n x.maxC.is x.maxC.n x.uniq s31.a s31.l s31.c x.items x.cont x.restI x.minP.is x.minP.n x.maxP.is x.maxP.n s39.a s39.l s39.c s40.a s40.l s40.c s41.a s41.l s41.c s42.a s42.l s42.c s43.a s43.l s43.c x.more.k x.more.node x.names x.restP x.single x.hasPl s50.a s50.l s50.c x.others.k x.others.node s53.a s53.l s53.c w _ ⟨trivial,?_⟩;intro w54;have x54:EF w w54:=(Ext.refl _).alloc _;clear_value w54;refine ⟨trivial,?_⟩;intro w55;have x55:EF w54 w55:=(Ext.refl _).alloc _;have o55:objAt w55 w54.heap.size=some (.cells #[.bool x.minL.is,.int .i64 x.minL.n,.bool x.maxL.is,.int .i64 x.maxL.n,.bool x.minI.is,.int .i64 x.minI.n,.bool x.maxI.is,.int .i64 x.maxI.n,.bool x.minC.is,.int .i64 x.minC.n,.bool x.maxC.is,.int .i64 x.maxC.n,.bool x.minP.is,.int .i64 x.minP.n,.bool x.maxP.is,.int .i64 x.maxP.n] 34 (0,0)):=w_3 _ _;clear_value w55;refine ⟨fun i w1=>0<=i/\i<=8/\w1=w55,fun i _=>((8:Int)-i).toNat,⟨by omega,by omega,rfl⟩,?_⟩;rintro i w1 ⟨h0,h1,rfl⟩;refine ⟨fun hlt K hK=>?_,fun _=>⟨true,rfl,x54.then x55,trivial⟩⟩;have hlt:=odt hlt;have k:∀ b,K b w1:=fun b=>hK b w1 ⟨fun _=>⟨false,rfl,x54.then x55,trivial⟩,fun _=>by
  rw [a_a h0 (by omega)];exact ⟨⟨by omega,by omega,rfl⟩,by dsimp only;omega⟩⟩
 have rd:∃ b n,w1.cell? ((adr w54.heap.size).add (i.toNat*2))=some (.bool b)/\w1.cell? (((adr w54.heap.size).add (i.toNat*2)).add 1)=some (.int .i64 n):=by
  rw [Addr.add_lit,Addr.add_lit,d_6 o55,d_6 o55];have:i.toNat=0∨i.toNat=1∨i.toNat=2∨i.toNat=3∨i.toNat=4∨i.toNat=5∨i.toNat=6∨i.toNat=7:=by omega
  rcases this with e|e|e|e|e|e|e|e<;>(rw [e];exact ⟨_,_,rfl,rfl⟩)
 obtain ⟨b,n,hb,hn⟩:=rd;exact ⟨_,rfl,⟨h0,hlt⟩,b,hb,fun _=>⟨_,rfl,⟨h0,hlt⟩,n,hn,k _⟩,fun _=>k _⟩
theorem z_N {s1:OA}{s1l s1c own:Nat}(hx:RJN w x cells):CP 58 #[.slice s1 s1l s1c,.int .i64 (own:Int),.agg cells.toArray] w (RetB w fun z=>z=true->(∀ q∈x.deps,later s1l own q.node/\q.node≠0)/\(∀ q∈x.props,later s1l 0 q.node/\q.node≠0)/\(∀ q∈x.pats,later s1l 0 q.node/\q.node≠0)/\(x.more.k=3->x.more.node≠0)):=by
 obtain ⟨s3,s4,s5,s10,s12,s13,s19,s21,s31,s39,s40,s41,s42,s43,s50,s53,rfl,h1,h2,h3,h4,h5,h6,h7,h8,h9,h10,h11,h12,h13,h14,h15,h16⟩:=hx;obtain ⟨e12,f12⟩:=h12.len;obtain ⟨e13,f13⟩:=h13.len;obtain ⟨e14,f14⟩:=h14.len;obtain ⟨e5,f5⟩:=h5.len;obtain ⟨e6,f6⟩:=h6.len;refine z_Q s1 s1l s1c (own:Int) x.kind x.ref s3.a s3.l s3.c s4.a s4.l s4.c s5.a s5.l s5.c x.nt x.iff x.thn x.els s10.a s10.l s10.c x.hasEnum s12.a s12.l s12.c s13.a s13.l s13.c x.minL.is x.minL.n x.maxL.is x.maxL.n x.pat.is s19.a s19.l s19.c x.fmt.is s21.a s21.l s21.c x.minI.is x.minI.n x.maxI.is x.maxI.n x.minC.is x.minC.n x.maxC.is x.maxC.n x.uniq s31.a s31.l s31.c x.items x.cont x.restI x.minP.is x.minP.n x.maxP.is x.maxP.n s39.a s39.l s39.c s40.a s40.l s40.c s41.a s41.l s41.c s42.a s42.l s42.c s43.a s43.l s43.c x.more.k x.more.node x.names x.restP x.single x.hasPl s50.a s50.l s50.c x.others.k x.others.node s53.a s53.l s53.c w _ ⟨trivial,?_⟩;intro w56;have x56:EF w w56:=(Ext.refl _).alloc _;clear_value w56;refine ⟨fun i w1=>0<=i/\i<=s41.l/\EF w w1/\∀ q∈x.deps.take i.toNat,later s1l own q.node/\q.node≠0,fun i _=>((s41.l:Int)-i).toNat,⟨by omega,by omega,x56,by simp⟩,?_⟩;rintro i12 w12 ⟨a0,a1,y12,all12⟩;refine ⟨fun hlt K hK=>?_,fun hge12=>?_⟩
 ·have hlt:=odt hlt;have k:∀ (b:Bool) (w':World),EF w w'->(b=false->∀ q,x.deps[i12.toNat]? =some q->later s1l own q.node/\q.node≠0)->K b w':=fun b w' x' hb=>hK b w' ⟨fun _=>⟨false,rfl,x',nofun⟩,fun hf=>by
   obtain ⟨p,q,hp,hq,-⟩:=SlL.get (h12) a0 hlt;rw [a_a a0 (by omega)];exact next a0 hlt ⟨x',a_g a0 all12 hq (hb hf q hq)⟩⟩
  obtain ⟨p,q,hp,hq,cs,hc,rfl⟩:=SlL.get (h12) a0 hlt;obtain ⟨⟨_,_,g0⟩,-, ⟨_,_,g1⟩,-, -⟩:=hc;refine ⟨p,hp,⟨a0,hlt⟩,q.node,y12.cell g1 id,fun hne=>⟨p,hp,⟨a0,hlt⟩,q.node,y12.cell g1 id,trivial,?_⟩,fun _=>k _ _ y12 nofun⟩;intro w68;have x68:EF w12 w68:=(Ext.refl _).alloc _;have o68:objAt w68 w12.heap.size=some (.cells ([q.node].map (Value.int .i64)).toArray 3 (0,0)):=w_3 _ _;clear_value w68;refine (x_A (own:=own) (x_S o68 (by simp))).mono ?_;rintro _ w70 ⟨b,rfl,x70,hb⟩;refine ⟨b,rfl,⟨x70.keepT _,trivial⟩,k _ _ ((y12.then x68).then x70) fun hf q' hq'=>?_⟩;rw [hq] at hq';cases hq';exact ⟨hb (by simpa using hf) _ (by simp),by simpa using hne⟩
 have all12:∀ q∈x.deps,later s1l own q.node/\q.node≠0:=a_o (xs:=x.deps) e12 hge12 all12;refine ⟨fun i w1=>0<=i/\i<=s42.l/\EF w w1/\∀ q∈x.props.take i.toNat,later s1l 0 q.node/\q.node≠0,fun i _=>((s42.l:Int)-i).toNat,⟨by omega,by omega,y12,by simp⟩,?_⟩;rintro i13 w13 ⟨a0,a1,y13,all13⟩;refine ⟨fun hlt K hK=>?_,fun hge13=>?_⟩
 ·have hlt:=odt hlt;have k:∀ (b:Bool) (w':World),EF w w'->(b=false->∀ q,x.props[i13.toNat]? =some q->later s1l 0 q.node/\q.node≠0)->K b w':=fun b w' x' hb=>hK b w' ⟨fun _=>⟨false,rfl,x',nofun⟩,fun hf=>by
   obtain ⟨p,q,hp,hq,-⟩:=SlL.get (h13) a0 hlt;rw [a_a a0 (by omega)];exact next a0 hlt ⟨x',a_g a0 all13 hq (hb hf q hq)⟩⟩
  obtain ⟨p,q,hp,hq,cs,hc,rfl⟩:=SlL.get (h13) a0 hlt;obtain ⟨⟨_,_,g0⟩,-, ⟨_,_,g1⟩,-, -⟩:=hc;refine ⟨p,hp,⟨a0,hlt⟩,q.node,y13.cell g1 id,fun hne=>⟨p,hp,⟨a0,hlt⟩,q.node,y13.cell g1 id,trivial,?_⟩,fun _=>k _ _ y13 nofun⟩;intro w68;have x68:EF w13 w68:=(Ext.refl _).alloc _;have o68:objAt w68 w13.heap.size=some (.cells ([q.node].map (Value.int .i64)).toArray 3 (0,0)):=w_3 _ _;clear_value w68;refine (x_A (own:=0) (x_S o68 (by simp))).mono ?_;rintro _ w70 ⟨b,rfl,x70,hb⟩;refine ⟨b,rfl,⟨x70.keepT _,trivial⟩,k _ _ ((y13.then x68).then x70) fun hf q' hq'=>?_⟩;rw [hq] at hq';cases hq';exact ⟨hb (by simpa using hf) _ (by simp),by simpa using hne⟩
 have all13:∀ q∈x.props,later s1l 0 q.node/\q.node≠0:=a_o (xs:=x.props) e13 hge13 all13;refine ⟨fun i w1=>0<=i/\i<=s43.l/\EF w w1/\∀ q∈x.pats.take i.toNat,later s1l 0 q.node/\q.node≠0,fun i _=>((s43.l:Int)-i).toNat,⟨by omega,by omega,y13,by simp⟩,?_⟩;rintro i14 w14 ⟨a0,a1,y14,all14⟩;refine ⟨fun hlt K hK=>?_,fun hge14=>?_⟩
 ·have hlt:=odt hlt;have k:∀ (b:Bool) (w':World),EF w w'->(b=false->∀ q,x.pats[i14.toNat]? =some q->later s1l 0 q.node/\q.node≠0)->K b w':=fun b w' x' hb=>hK b w' ⟨fun _=>⟨false,rfl,x',nofun⟩,fun hf=>by
   obtain ⟨p,q,hp,hq,-⟩:=SlL.get (h14) a0 hlt;rw [a_a a0 (by omega)];exact next a0 hlt ⟨x',a_g a0 all14 hq (hb hf q hq)⟩⟩
  obtain ⟨p,q,hp,hq,cs,hc,a',l',c',rfl,-⟩:=SlL.get (h14) a0 hlt;obtain ⟨⟨_,_,g0⟩,-, ⟨_,_,g1⟩,-, -⟩:=hc;refine ⟨p,hp,⟨a0,hlt⟩,q.node,y14.cell g1 id,fun hne=>⟨p,hp,⟨a0,hlt⟩,q.node,y14.cell g1 id,trivial,?_⟩,fun _=>k _ _ y14 nofun⟩;intro w68;have x68:EF w14 w68:=(Ext.refl _).alloc _;have o68:objAt w68 w14.heap.size=some (.cells ([q.node].map (Value.int .i64)).toArray 3 (0,0)):=w_3 _ _;clear_value w68;refine (x_A (own:=0) (x_S o68 (by simp))).mono ?_;rintro _ w70 ⟨b,rfl,x70,hb⟩;refine ⟨b,rfl,⟨x70.keepT _,trivial⟩,k _ _ ((y14.then x68).then x70) fun hf q' hq'=>?_⟩;rw [hq] at hq';cases hq';exact ⟨hb (by simpa using hf) _ (by simp),by simpa using hne⟩
 have all14:∀ q∈x.pats,later s1l 0 q.node/\q.node≠0:=a_o (xs:=x.pats) e14 hge14 all14;refine ⟨fun i w1=>0<=i/\i<=s12.l/\EF w w1,fun i _=>((s12.l:Int)-i).toNat,⟨by omega,by omega,y14⟩,?_⟩;rintro i5 w5 ⟨a0,a1,y5⟩;refine ⟨fun hlt=>?_,fun hge5 K hK=>?_⟩
 ·have hlt:=odt hlt;obtain ⟨p,v,hp,hv,cv,hc,hvx⟩:=SlL.get h5 a0 hlt;have call:=z_h v cv w5 (hvx.keep y5.keep);obtain ⟨xk,xb,xn,xt,xns,xxs⟩:=v;obtain ⟨a5,l5,c5,a6,l6,c6,rfl,-, -, -⟩:=w_8.1 hvx;obtain ⟨⟨_,_,g0⟩,-, ⟨_,_,g1⟩,-, ⟨_,_,g2⟩,-, ⟨_,_,g3⟩,-, ⟨_,_,g4⟩,-, ⟨_,_,g5⟩,-⟩:=hc;refine ⟨p,hp,⟨a0,hlt⟩,_,y5.cell g0 id,_,y5.cell g1 id,_,y5.cell g2 id,_,y5.cell g3 id,_,_,_,y5.cell g4 id,_,_,_,y5.cell g5 id,call.mono ?_⟩;rintro _ w2 ⟨b2,rfl,x2,-⟩;refine ⟨b2,rfl,⟨x2.keepT _,trivial⟩,fun _=>⟨false,rfl,y5.then x2,nofun⟩,fun hb=>?_⟩;rw [a_a a0 (by omega)];exact next a0 hlt (y5.then x2)
 have k:∀ (b:Bool) (w':World),EF w w'->(b=true->x.more.k=3->x.more.node≠0)->K b w':=fun b w' x' hb=>hK b w' ⟨b,rfl,x',fun h=>⟨all12,all13,all14,hb h⟩⟩;have last:∀ w',EF w w'->((x.more.k !=(3:Int))=false->K (decide (x.more.node>(0:Int))) w')/\((x.more.k !=(3:Int))=true->K true w'):=fun w' x'=>⟨fun _=>k _ _ x' fun h _=>by have:=odt h;omega,fun h=>k _ _ x' fun _ h3=>by simp [h3] at h⟩;refine ⟨fun hne=>?_,fun _=>last _ y5⟩;have hpos:(0:Int)<(s13.l:Int):=by
  have:(s13.l:Int)≠0:=by simpa using hne
  omega
 obtain ⟨p,v,hp,hv,cv,hc,hvx⟩:=SlL.get h6 (Int.le_refl 0) hpos;have call:=z_h v cv w5 (hvx.keep y5.keep);obtain ⟨xk,xb,xn,xt,xns,xxs⟩:=v;obtain ⟨a5,l5,c5,a6,l6,c6,rfl,-, -, -⟩:=w_8.1 hvx;obtain ⟨⟨_,_,g0⟩,-, ⟨_,_,g1⟩,-, ⟨_,_,g2⟩,-, ⟨_,_,g3⟩,-, ⟨_,_,g4⟩,-, ⟨_,_,g5⟩,-⟩:=hc;refine ⟨p,hp,⟨Int.le_refl 0,hpos⟩,_,y5.cell g0 id,_,y5.cell g1 id,_,y5.cell g2 id,_,y5.cell g3 id,_,_,_,y5.cell g4 id,_,_,_,y5.cell g5 id,call.mono ?_⟩;rintro _ w2 ⟨b2,rfl,x2,-⟩;exact ⟨b2,rfl,⟨x2.keepT _,trivial⟩,fun _=>last _ (y5.then x2),fun _=>k _ _ (y5.then x2) nofun⟩
end
section
variable {w:World} {a:OA} {l c:Nat} {s:List JN}
theorem A_f (hr:RJNs w a l c s){i:Nat}{x:JN}(hxi:s[i]? =some x):CP 36 #[.slice a l c,.int .i64 ((i:Int)+1)] w (RetB w fun z=>z=true->PN s.length (i+1) x):=by
 obtain ⟨e1,e1'⟩:=hr.len;have hil:i<s.length:=(List.getElem?_eq_some_iff.1 hxi).1;obtain ⟨p,x',hp,hx',cx,hc,hrx⟩:=SlL.get hr (i:=(i:Int)) (by omega) (by omega);rw [Int.toNat_natCast,hxi] at hx';cases hx';have hrx0:=hrx;obtain ⟨s3,s4,s5,s10,s12,s13,s19,s21,s31,s39,s40,s41,s42,s43,s50,s53,rfl,h1,h2,h3,h4,h5,h6,h7,h8,h9,h10,h11,h12,h13,h14,h15,h16⟩:=hrx;obtain ⟨e4,f4⟩:=h4.len;obtain ⟨e6,f6⟩:=h6.len;have hown:((i:Int)+1)=((i+1:Nat):Int):=by omega
 refine A_v a l c ((i:Int)+1) w _ ?_;rw [n_k (by omega) (by omega),Int.add_sub_cancel];refine ⟨p,hp,⟨by omega,by omega⟩,_,hc.cl0 (Ext.refl _) rfl,_,hc.cl (Ext.refl _) 1 rfl,_,_,_,hc.cl (Ext.refl _) 2 rfl,_,_,_,hc.cl (Ext.refl _) 3 rfl,_,_,_,hc.cl (Ext.refl _) 4 rfl,_,hc.cl (Ext.refl _) 5 rfl,_,hc.cl (Ext.refl _) 6 rfl,_,hc.cl (Ext.refl _) 7 rfl,_,hc.cl (Ext.refl _) 8 rfl,_,_,_,hc.cl (Ext.refl _) 9 rfl,_,hc.cl (Ext.refl _) 10 rfl,_,_,_,hc.cl (Ext.refl _) 11 rfl,_,_,_,hc.cl (Ext.refl _) 12 rfl,_,hc.cl (Ext.refl _) 13 rfl,_,hc.cl (Ext.refl _) 14 rfl,_,hc.cl (Ext.refl _) 15 rfl,_,hc.cl (Ext.refl _) 16 rfl,_,hc.cl (Ext.refl _) 17 rfl,_,_,_,hc.cl (Ext.refl _) 18 rfl,_,hc.cl (Ext.refl _) 19 rfl,_,_,_,hc.cl (Ext.refl _) 20 rfl,_,hc.cl (Ext.refl _) 21 rfl,_,hc.cl (Ext.refl _) 22 rfl,_,hc.cl (Ext.refl _) 23 rfl,_,hc.cl (Ext.refl _) 24 rfl,_,hc.cl (Ext.refl _) 25 rfl,_,hc.cl (Ext.refl _) 26 rfl,_,hc.cl (Ext.refl _) 27 rfl,_,hc.cl (Ext.refl _) 28 rfl,_,hc.cl (Ext.refl _) 29 rfl,_,_,_,hc.cl (Ext.refl _) 30 rfl,_,hc.cl (Ext.refl _) 31 rfl,_,hc.cl (Ext.refl _) 32 rfl,_,hc.cl (Ext.refl _) 33 rfl,_,hc.cl (Ext.refl _) 34 rfl,_,hc.cl (Ext.refl _) 35 rfl,_,hc.cl (Ext.refl _) 36 rfl,_,hc.cl (Ext.refl _) 37 rfl,_,_,_,hc.cl (Ext.refl _) 38 rfl,_,_,_,hc.cl (Ext.refl _) 39 rfl,_,_,_,hc.cl (Ext.refl _) 40 rfl,_,_,_,hc.cl (Ext.refl _) 41 rfl,_,_,_,hc.cl (Ext.refl _) 42 rfl,_,hc.cl (Ext.refl _) 43 rfl,_,hc.cl (Ext.refl _) 44 rfl,_,hc.cl (Ext.refl _) 45 rfl,_,hc.cl (Ext.refl _) 46 rfl,_,hc.cl (Ext.refl _) 47 rfl,_,hc.cl (Ext.refl _) 48 rfl,_,_,_,hc.cl (Ext.refl _) 49 rfl,_,hc.cl (Ext.refl _) 50 rfl,_,hc.cl (Ext.refl _) 51 rfl,_,_,_,hc.cl (Ext.refl _) 52 rfl,trivial,trivial,?_⟩;intro w58;have x58:EF w w58:=(Ext.refl _).alloc _;clear_value w58;intro K59 hK59;have k59:∀ b,(b=false->(0<=x.kind/\x.kind<=2)/\(0<=x.more.k/\x.more.k<=3)/\x.cst.length<=1)->K59 b w58:=fun b hb=>hK59 b w58 ⟨fun _=>⟨false,rfl,x58,nofun⟩,fun hf K62 hK62=>by
  obtain ⟨c1,c2,c3⟩:=hb hf;have k62:∀ (b:Bool) (w':World),EF w w'->(b=false->(∀ n∈[x.ref,x.nt,x.iff,x.thn,x.els],later s.length (i+1) n)/\(∀ n∈x.allOf,later s.length (i+1) n)/\(∀ n∈x.anyOf,later s.length (i+1) n)/\∀ n∈x.oneOf,later s.length (i+1) n)->K62 b w':=fun b w' x62 hb=>hK62 b w' ⟨fun _=>⟨false,rfl,x62,nofun⟩,fun hf K65 hK65=>by
   obtain ⟨d1,d2,d3,d4⟩:=hb hf;have k65:∀ (b:Bool) (w':World),EF w w'->(b=false->(∀ n∈[x.items,x.cont,x.restI,x.names,x.restP,x.more.node],later s.length 0 n)/\∀ n∈x.first,later s.length 0 n)->K65 b w':=fun b w' x65 hb=>hK65 b w' ⟨fun _=>⟨false,rfl,x65,nofun⟩,fun hf=>by
    obtain ⟨b1,b2⟩:=hb hf;refine ⟨fun i w1=>0<=i/\i<=s10.l/\EF w w1/\∀ t∈x.types.take i.toNat,bitK t≠0,fun i _=>((s10.l:Int)-i).toNat,⟨by omega,by omega,x65,by simp⟩,?_⟩;rintro i4 w4 ⟨a0,a1,y4,all4⟩;refine ⟨fun hlt=>?_,fun hge4 K77 hK77=>⟨trivial,?_⟩⟩
    ·have hlt:=odt hlt;obtain ⟨p,t,hp,ht,cs,hc,rfl⟩:=SlL.get h4 a0 hlt;refine ⟨p,hp,⟨a0,hlt⟩,t,y4.cell hc.1.choose_spec.2 id,(C_k t w4).mono ?_⟩;rintro _ w5 ⟨b,rfl,x5,hb⟩;refine ⟨b,rfl,⟨x5.keepT _,trivial⟩,fun _=>⟨false,rfl,y4.then x5,nofun⟩,fun hf=>?_⟩;rw [a_a a0 (by omega)];exact next a0 hlt ⟨y4.then x5,a_g a0 all4 ht (hb (by simpa using hf))⟩
    ·have all4:∀ t∈x.types,bitK t≠0:=a_o (xs:=x.types) e4 hge4 all4;intro w80;have x80:EF w4 w80:=(Ext.refl _).alloc _;have o80:objAt w80 w4.heap.size=some (.cells #[s3.v,s4.v,s5.v,s31.v] 32 (0,0)):=w_3 _ _;clear_value w80;have y80:=y4.then x80;have k:∀ (b:Bool) (w':World),EF w w'->(b=true->PN s.length (i+1) x)->K77 b w':=fun b w' x' hb=>hK77 b w' ⟨b,rfl,x',hb⟩;have sl:SlL w80 32 1 (fun ns cs=>∃ (a:OA) (l c:Nat),cs=[.slice a l c]/\RInts w80 a l c ns) (some (adr w4.heap.size)) 4 4 [x.allOf,x.anyOf,x.oneOf,x.first]:=by
      refine ⟨rfl,Nat.le_refl _,by omega,fun j ns hj=>⟨_,rfl,?_⟩⟩;have one:∀ (sl:Sli),(#[s3.v,s4.v,s5.v,s31.v]:Array Value)[j]? =some sl.v->RInts w80 sl.a sl.l sl.c ns->∃ cs,a_x w80 32 ((adr w4.heap.size).add (j*1)) 0 cs/\∃ (a:OA) (l c:Nat),cs=[.slice a l c]/\RInts w80 a l c ns:=fun sl h1 h2=>by
       refine ⟨[sl.v],⟨⟨32,.inl rfl,#[s3.v,s4.v,s5.v,s31.v],(0,0),?_,?_,?_⟩,rfl,trivial⟩,_,_,_,rfl,h2⟩
       ·rw [Nat.mul_one,Addr.add_lit];exact o80
       ·rw [Nat.mul_one,Addr.add_lit];rfl
       ·rw [Nat.mul_one,Addr.add_lit];simpa [adj] using h1
      match j,hj with
      | 0,hj=>cases hj;exact one s3 rfl (h1.keep y80.keep)
      | 1,hj=>cases hj;exact one s4 rfl (h2.keep y80.keep)
      | 2,hj=>cases hj;exact one s5 rfl (h3.keep y80.keep)
      | 3,hj=>cases hj;exact one s31 rfl (h9.keep y80.keep)
      | j+4,hj=>simp at hj
     refine (D_g sl).mono ?_;rintro _ w82 ⟨b83,rfl,x82,hb83⟩;have y82:=y80.then x82;refine ⟨b83,rfl,⟨x82.keepT _,trivial⟩,fun t83=>?_,fun _=>k _ _ y82 nofun⟩;rw [hown];refine (z_N (hrx0.keep y82.keep)).mono ?_;rintro _ w85 ⟨b86,rfl,x85,hb86⟩;have y85:=y82.then x85;refine ⟨b86,rfl,⟨x85.keepT _,trivial⟩,fun t86=>(z_j (hrx0.keep y85.keep)).mono ?_,fun _=>k _ _ y85 nofun⟩;rintro _ w88 ⟨b89,rfl,x88,-⟩;obtain ⟨p1,p2,p3,p4⟩:=hb86 t86;rw [e1] at p1 p2 p3;exact ⟨b89,rfl,⟨x88.keepT _,trivial⟩,k _ _ (y85.then x88) fun _=>⟨c1,c2,c3,d1,d2,d3,d4,b1,b2,all4,hb83 t83,p1,p2,p3,p4⟩⟩⟩
   refine ⟨trivial,?_⟩;intro w90;have x90:EF w' w90:=(Ext.refl _).alloc _;have o90:objAt w90 w'.heap.size=some (.cells ([x.items,x.cont,x.restI,x.names,x.restP,x.more.node].map (Value.int .i64)).toArray 3 (0,0)):=w_3 _ _;clear_value w90;have y90:=x62.then x90;refine (x_A (own:=0) (x_S o90 (by simp))).mono ?_;rintro _ w92 ⟨b93,rfl,x92,hb93⟩;have y92:=y90.then x92;refine ⟨b93,rfl,⟨x92.keepT _,trivial⟩,fun f93=>(x_A (own:=0) (h9.keep y92.keep)).mono ?_,fun _=>k65 _ _ y92 nofun⟩;rintro _ w95 ⟨b96,rfl,x95,hb96⟩;refine ⟨b96,rfl,⟨x95.keepT _,trivial⟩,k65 _ _ (y92.then x95) fun f96=>?_⟩;have g1:=hb93 (by simpa using f93);have g2:=hb96 (by simpa using f96);rw [e1] at g1 g2;exact ⟨g1,g2⟩⟩
  refine ⟨trivial,?_⟩;intro w97;have x97:EF w58 w97:=(Ext.refl _).alloc _;have o97:objAt w97 w58.heap.size=some (.cells ([x.ref,x.nt,x.iff,x.thn,x.els].map (Value.int .i64)).toArray 3 (0,0)):=w_3 _ _;clear_value w97;have y97:=x58.then x97;rw [hown];refine (x_A (x_S o97 (by simp))).mono ?_;rintro _ w99 ⟨b100,rfl,x99,hb100⟩;have y99:=y97.then x99;refine ⟨b100,rfl,⟨x99.keepT _,trivial⟩,fun f100=>(x_A (h1.keep y99.keep)).mono ?_,fun _=>k62 _ _ y99 nofun⟩;rintro _ w102 ⟨b103,rfl,x102,hb103⟩;have y102:=y99.then x102;refine ⟨b103,rfl,⟨x102.keepT _,trivial⟩,fun f103=>(x_A (h2.keep y102.keep)).mono ?_,fun _=>k62 _ _ y102 nofun⟩;rintro _ w105 ⟨b106,rfl,x105,hb106⟩;have y105:=y102.then x105;refine ⟨b106,rfl,⟨x105.keepT _,trivial⟩,fun f106=>(x_A (h3.keep y105.keep)).mono ?_,fun _=>k62 _ _ y105 nofun⟩;rintro _ w108 ⟨b109,rfl,x108,hb109⟩;refine ⟨b109,rfl,⟨x108.keepT _,trivial⟩,k62 _ _ (y105.then x108) fun f109=>?_⟩;have g1:=hb100 (by simpa using f100);have g2:=hb103 (by simpa using f103);have g3:=hb106 (by simpa using f106);have g4:=hb109 (by simpa using f109);rw [e1] at g1 g2 g3 g4;exact ⟨g1,g2,g3,g4⟩⟩
 refine ⟨fun g1=>⟨fun g2=>⟨fun g3=>⟨fun g4=>k59 _ fun g5=>?_,fun _=>k59 _ nofun⟩,fun _=>k59 _ nofun⟩,fun _=>k59 _ nofun⟩,fun _=>k59 _ nofun⟩;have g1:=odf g1;have g2:=odf g2;have g3:=odf g3;have g4:=odf g4;have g5:=odf g5;exact ⟨⟨by omega,by omega⟩,⟨by omega,by omega⟩,by omega⟩
theorem z_i (hr:RJNs w a l c s):CP 28 #[.slice a l c] w (RetB w fun z=>z=true->s≠[]/\∀ (i:Nat) x,s[i]? =some x->PN s.length (i+1) x/\NewN x):=by
 obtain ⟨e1,e1'⟩:=hr.len;refine z_y a l c w _ ⟨fun i w1=>0<=i/\i<=l/\EF w w1/\∀ (j:Nat) x,j<i.toNat->s[j]? =some x->PN s.length (j+1) x/\NewN x,fun i _=>((l:Int)-i).toNat,⟨by omega,by omega,Ext.refl w,fun j x hj=>by simp at hj⟩,?_⟩;rintro i w1 ⟨h0,h1,hx,hall⟩;refine ⟨fun hlt K hK=>?_,fun hge=>⟨_,rfl,hx,fun hz=>⟨fun e=>?_,fun j x hj=>hall j x ?_ hj⟩⟩⟩
 ·have hlt:=odt hlt;obtain ⟨p,x,hp,hxs,cx,hc,hrx⟩:=SlL.get hr h0 hlt;have k:∀ (b:Bool) (w':World),EF w w'->(b=false->PN s.length (i.toNat+1) x/\NewN x)->K b w':=fun b w' x' hb=>hK b w' ⟨fun _=>⟨false,rfl,x',nofun⟩,fun hf=>by
   rw [a_a h0 (by omega)];refine next h0 hlt ⟨x',fun j y hj hy=>?_⟩
   by_cases e:j=i.toNat
   ·rw [e,hxs] at hy;cases hy;rw [e];exact hb hf
   ·exact hall j y (by omega) hy⟩
  rw [a_a h0 (by omega)];have call:=A_f (RJNs.keep hx.keep hr) hxs;rw [Int.toNat_of_nonneg h0] at call;refine call.mono ?_;rintro _ w10 ⟨b11,rfl,x10,hb11⟩;have y10:=hx.then x10;have hrx0:=hrx;obtain ⟨s3,s4,s5,s10,s12,s13,s19,s21,s31,s39,s40,s41,s42,s43,s50,s53,rfl,-⟩:=hrx;refine ⟨b11,rfl,trivial,fun f11=>⟨p,hp,⟨h0,hlt⟩,_,hc.cl0 y10 rfl,_,hc.cl y10 1 rfl,_,_,_,hc.cl y10 2 rfl,_,_,_,hc.cl y10 3 rfl,_,_,_,hc.cl y10 4 rfl,_,hc.cl y10 5 rfl,_,hc.cl y10 6 rfl,_,hc.cl y10 7 rfl,_,hc.cl y10 8 rfl,_,_,_,hc.cl y10 9 rfl,_,hc.cl y10 10 rfl,_,_,_,hc.cl y10 11 rfl,_,_,_,hc.cl y10 12 rfl,_,hc.cl y10 13 rfl,_,hc.cl y10 14 rfl,_,hc.cl y10 15 rfl,_,hc.cl y10 16 rfl,_,hc.cl y10 17 rfl,_,_,_,hc.cl y10 18 rfl,_,hc.cl y10 19 rfl,_,_,_,hc.cl y10 20 rfl,_,hc.cl y10 21 rfl,_,hc.cl y10 22 rfl,_,hc.cl y10 23 rfl,_,hc.cl y10 24 rfl,_,hc.cl y10 25 rfl,_,hc.cl y10 26 rfl,_,hc.cl y10 27 rfl,_,hc.cl y10 28 rfl,_,hc.cl y10 29 rfl,_,_,_,hc.cl y10 30 rfl,_,hc.cl y10 31 rfl,_,hc.cl y10 32 rfl,_,hc.cl y10 33 rfl,_,hc.cl y10 34 rfl,_,hc.cl y10 35 rfl,_,hc.cl y10 36 rfl,_,hc.cl y10 37 rfl,_,_,_,hc.cl y10 38 rfl,_,_,_,hc.cl y10 39 rfl,_,_,_,hc.cl y10 40 rfl,_,_,_,hc.cl y10 41 rfl,_,_,_,hc.cl y10 42 rfl,_,hc.cl y10 43 rfl,_,hc.cl y10 44 rfl,_,hc.cl y10 45 rfl,_,hc.cl y10 46 rfl,_,hc.cl y10 47 rfl,_,hc.cl y10 48 rfl,_,_,_,hc.cl y10 49 rfl,_,hc.cl y10 50 rfl,_,hc.cl y10 51 rfl,_,_,_,hc.cl y10 52 rfl,(E_s (hrx0.keep y10.keep)).mono ?_⟩,fun _=>k _ _ y10 nofun⟩;rintro _ w2 ⟨b2,rfl,x2,hb2⟩;exact ⟨b2,rfl,trivial,k _ _ (y10.then x2) fun f2=>⟨hb11 (by simpa using f11),hb2 (by simpa using f2)⟩⟩
 ·have:=odt hz;rw [e] at e1;simp at e1;omega
 ·have:=odf hge;have:=(List.getElem?_eq_some_iff.1 hj).1;omega
end
theorem A_M:∀ ns:List Int,Flat 1 RI ns (ns.map (Value.int .i64))
 | []=>.nil
 | n::l=>Flat.cons (cs:=[.int .i64 n]) rfl (fun v hv=>by
   obtain rfl:v=.int .i64 n:=by simpa using hv
   rfl) rfl (A_M l)
theorem z_d {w:World}{cs:Array Value}{fr:Nat × Nat}(h:objAt w g=some (.cells cs T fr))(v:Value):Ext (fun k=>k=g) w (w.setCell (adr g) v)/\objAt (w.setCell (adr g) v) g=some (.cells (cs.setIfInBounds 0 v) T fr):=by
 have e:adr g=(adr g).add 0:=by rw [Addr.add_lit]
 rw [e];exact ⟨w_1 v,w_4 h v⟩
section
variable {w0 w:World} {A:OA} {L C:Nat} {ns:List Int}
theorem A_P (hx0:EF w0 w)(ns:List Int)(hl:ns.length<=4194304):OwnR 3 1 RI w0.heap.size (w.alloc (.cells (ns.map (Value.int .i64)).toArray 3)) (some (adr w.heap.size)) ns.length ns.length ns:=
 ⟨_,Own.made _ w 3 1 ns.length _ hx0.size (by simp only [maxLen];omega) (by simp),A_M ns⟩
theorem z_l (h:OwnR 3 1 RI w0.heap.size w A L C ns)(hx0:EF w0 w){T2:TypeId}{a':OA}{l' c':Nat}{ys:List Int}(hl:SlL w T2 1 RI a' l' c' ys)(h2:L+l'<=16777216):
  ∃ (A':OA) (C':Nat) (w':World),(Go.builtin .append #[32,32] 32 #[false,false] #[.slice A L C,.slice a' l' c']).run Tryz.prog w=.ok (.value (.slice A' (L+l') C')) w'/\
   (∃ ns',OwnR 3 1 RI w0.heap.size w' A' (L+l') C' ns')/\EF w0 w'/\(∀ T',T'≠3->KeepT T' w w'):=by
 obtain ⟨cells,hown,hf⟩:=h;obtain ⟨news,hfn,hnews⟩:=hl.flat fun x cs h=>RI.len h;have e:=hl.len.1;have hi:Tryz.prog.info? 3=some Tryz.t3:=by kernel_rfl
 have ht:Tryz.prog.underlying 32=some (.slice 3):=by kernel_rfl
 cases a' with
 | none=>
  have hys:ys=[]:=by
   cases ys with
   | nil=>rfl
   | cons y ys=>
    obtain ⟨p,hp,_⟩:=hl.2.2.2 0 y rfl;cases hp
  subst hys;simp only [List.length_nil] at e;subst e;exact ⟨A,C,w,d_u 32 3 _ ht hi hown.len.2 _ _,⟨ns,cells,hown,hf⟩,hx0,fun _ _ _ _ _ hb=>hb⟩
 | some p=>
  obtain ⟨A',C',w',h1,h2,h3,h4⟩:=c_a 32 3 _ _ 1 8 ht hi rfl (by kernel_rfl) (by kernel_rfl) (by kernel_rfl) (by omega) hown hx0.size (p:=p) (c':=c') (l':=l') (news:=news) (by rw [hfn.len,e]) (fun j u hu=>by
   obtain ⟨p',hp',_,ha⟩:=hnews j u hu;cases hp';exact ha.cell) (fun u hu=>(hfn.small u hu).one) h2 (by omega) 32 #[false,false]
  exact ⟨A',C',w',h1,⟨_,_,h2,hf.append hfn⟩,hx0.trans h3 fun b hb hbl=>absurd (hown.base b hbl).1 (by omega),fun T' hT=>hown.keepT h3 hT⟩
theorem y_n (h:OwnR 3 1 RI w0.heap.size w A L C ns)(hx0:EF w0 w)(n:Int)(h2:L+1<=16777216):
  ∃ (A':OA) (C':Nat) (w':World),(Go.builtin .append #[32,32] 32 #[false,false] #[.slice A L C,.slice (some (adr w.heap.size)) 1 1]).run Tryz.prog (w.alloc (.cells #[.int .i64 n] 3))=.ok (.value (.slice A' (L+1) C')) w'/\
   (∃ ns',OwnR 3 1 RI w0.heap.size w' A' (L+1) C' ns')/\EF w0 w'/\(∀ T',T'≠3->KeepT T' (w.alloc (.cells #[.int .i64 n] 3)) w'):=by
 obtain ⟨A',C',w',r,o,x,k,-⟩:=h.one 32 Tryz.t3 _ _ (by kernel_rfl) (by kernel_rfl) rfl (by kernel_rfl) rfl (by kernel_rfl) (by omega) (by decide) hx0.size (x:=n) (cs:=[.int .i64 n]) rfl (fun v hv=>by
  obtain rfl:v=.int .i64 n:=by simpa using hv
  rfl) rfl h2 32 #[false,false]
 exact ⟨A',C',w',r,⟨_,o⟩,h.ext0 (Nat.le_refl _) hx0 x,k⟩
theorem OwnR.int_at {base:Nat}(h:OwnR 3 1 RI base w A L C ns){i:Int}(i0:0<=i)(hi:i<(L:Int)):∃ p n,A=some p/\w.cell? (p.add (i.toNat*1))=some (.int .i64 n):=by
 have hl:=h.len (by omega);obtain ⟨cells,o,f⟩:=h;obtain ⟨n,hn⟩:∃ n,ns[i.toNat]? =some n:=⟨_,List.getElem?_eq_getElem (by omega)⟩;obtain ⟨cs,-, -, rfl,hc⟩:=f.get i.toNat n hn;obtain ⟨p,hp,hat⟩:=o.at (hc 0 _ rfl);exact ⟨p,n,hp,hat.cell⟩
end
abbrev LC (w:World)(g:Nat)(L:Int):Prop:=objAt w g=some (.cells #[.int .i64 L] 3 (0,0))
theorem A_O {w w':World}{L:Int}(hm:LC w g L)(hB:DB.B<=g)(hx:Ext (fun k=>k=g) w w'):Keep w w':=fun T T' a v ht ho hat=>hx.at (fun e=>by
 have e:a.block=g:=e;obtain ⟨cs,fr,h1,-⟩:=hat;rw [e,hm] at h1;simp only [Option.some.injEq,Obj.cells.injEq] at h1;obtain ⟨-, rfl,-⟩:=h1;rcases ho with rfl|ho
 ·cases ht
 ·omega) hat
theorem y_f {w w':World}{L:Int}(hm:LC w g L)(hx:Ext (fun k=>k=g) w w')(hT:3≠T):KeepT T w w':=fun k c fr hk=>hx.old k _ (fun e=>by
 have e:k=g:=e;rw [e,hm] at hk;simp only [Option.some.injEq,Obj.cells.injEq] at hk;exact hT hk.2.1) hk
abbrev SQ (w:World)(g:Nat)(L:Int):Ending->World->Prop:=fun e w'=>e=.returned (.tuple #[])/\(∃ L',L'<=L/\LC w' g L')/\Ext (fun k=>k=g) w w'
def SP (s:List JN)(f:Nat):Prop:=∀ (n:Int) (v:JV) (cs:List Value) (w:World) (a:OA) (l c g:Nat) (L:Int),L<=f->RJNs w a l c s->RJV w v cs->LC w g L->DB.B<=g->L<=200000->
 CP 40 #[.slice a l c,.int .i64 n,.agg cs.toArray,.pointer (some (adr g))] w (SQ w g L)
def SPA (s:List JN)(f:Nat):Prop:=∀ (v:JV) (cs:List Value) (w:World) (a:OA) (l c g:Nat) (L:Int) (na:OA) (nl nc base:Nat) (ns:List Int),L<=f->RJNs w a l c s->RJV w v cs->LC w g L->DB.B<=g->L<=200000->OwnR 3 1 RI base w na nl nc ns->g<base->nl<=16777216->
 CP 61 #[.slice a l c,.slice na nl nc,.agg cs.toArray,.pointer (some (adr g))] w (SQ w g L)
section
variable {s:List JN} {f:Nat}
theorem A_9 (IH:SP s f):SPA s f:=by
 intro v cs w a l c g L na nl nc base ns hL hr hv hg hB hL0 hO hgb hnl;have hv0:=hv;obtain ⟨k,b,n,t,nms,xs⟩:=v;obtain ⟨a1,l1,c1,a2,l2,c2,rfl,-, -, -⟩:=w_8.1 hv;refine B_h a l c na nl nc k b n t a1 l1 c1 a2 l2 c2 (some (adr g)) w _ ⟨trivial,?_⟩;intro w10;have x10:EF w w10:=(Ext.refl _).alloc _;clear_value w10;refine ⟨fun i w1=>0<=i/\i<=nl/\(∃ L',L'<=L/\LC w1 g L')/\Ext (fun k=>k=g) w w1,fun i _=>((nl:Int)-i).toNat,⟨by omega,by omega,⟨L,Int.le_refl _,x10.old _ _ id hg⟩,x10.mono fun _ _ e=>e.elim⟩,?_⟩;rintro i w1 ⟨i0,i1,⟨L1,hL1,hg1⟩,hx⟩;refine ⟨fun hlt w15 hw15=>?_,fun _=>⟨rfl,⟨L1,hL1,hg1⟩,hx⟩⟩;have hlt:=odt hlt;have x15:EF w1 w15:=hw15▸(Ext.refl _).drew;have y15:Ext (fun k=>k=g) w w15:=hx.then x15;have kp:=A_O hg hB y15;obtain ⟨p,m,hp,hc⟩:=(hO.keep y15 fun b hb e=>by
  have:=(hO.ge b hb).1;have e:b=g:=e;omega).int_at i0 hlt
 have hg15:=x15.old _ _ id hg1;refine ⟨p,hp,⟨i0,hlt⟩,m,hc,(IH m _ _ w15 a l c g L1 (by omega) (RJNs.keep kp hr) (hv0.keep kp) hg15 hB (by omega)).mono ?_⟩;rintro _ w19 ⟨rfl,⟨L2,hL2,hg2⟩,x19⟩;refine ⟨rfl,⟨y_f hg15 x19 (by decide),trivial⟩,trivial,?_⟩;rw [a_a i0 (by omega)];exact next i0 hlt ⟨⟨L2,by omega,hg2⟩,y15.trans x19 fun _ _ e=>e⟩
theorem D_e (hsm:∀ x∈s,smN x)(IH:SPA s f)(IH1:SP s f):SP s (f+1):=by
 intro n v cs w a l c g L hL hr hv hg hB hL0;have hv0:=hv;obtain ⟨k,b,vn,t,nms,xs⟩:=v;obtain ⟨a1,l1,c1,a2,l2,c2,rfl,-, r1,r2⟩:=w_8.1 hv;obtain ⟨e1,e1'⟩:=hr.len;obtain ⟨f1,f1'⟩:=r1.len;obtain ⟨f2,f2'⟩:=r2.len;refine B_N a l c n k b vn t a1 l1 c1 a2 l2 c2 (some (adr g)) w _ ⟨trivial,?_⟩;intro w10;have x10:EF w w10:=(Ext.refl _).alloc _;clear_value w10;have hg10:=x10.old _ _ id hg;intro K11 hK11;have k11:∀ b,(b=false->1<=n/\n<=l/\0<L)->K11 b w10:=fun b' hb=>hK11 b' w10 ⟨fun _=>⟨rfl,⟨L,Int.le_refl _,hg10⟩,x10.mono fun _ _ e=>e.elim⟩,fun hf=>by
  obtain ⟨n1,n2,n3⟩:=hb hf;refine ⟨adr g,rfl,L,cat0 hg10 rfl,adr g,rfl,⟨_,_,hg10,rfl,by show 0+1<=1;omega,by decide⟩,trivial,?_⟩;rw [n_k (by omega) (by omega)];intro w17;have x17:Ext (fun k=>k=g) w10 w17:=(z_d hg10 _).1;have hg17:LC w17 g (L-1):=(z_d hg10 _).2;clear_value w17;have y17:Ext (fun k=>k=g) w w17:=(x10.mono fun _ _ e=>e.elim).trans x17 fun _ _ e=>e;have kp17:=A_O hg hB y17;rw [n_k (by omega) (by omega)];obtain ⟨p,x,hp,hxs,cx,hc,hrx⟩:=SlL.get (RJNs.keep kp17 hr) (i:=n-1) (by omega) (by omega);have hs:=hsm x (mg_ hxs);obtain ⟨s3,s4,s5,s10,s12,s13,s19,s21,s31,s39,s40,s41,s42,s43,s50,s53,rfl,h1,h2,h3,h4,h5,h6,h7,h8,h9,h10,h11,h12,h13,h14,h15,h16⟩:=hrx;refine ⟨p,hp,⟨by omega,by omega⟩,_,hc.cl0 (Ext.refl _) rfl,_,hc.cl (Ext.refl _) 1 rfl,_,_,_,hc.cl (Ext.refl _) 2 rfl,_,_,_,hc.cl (Ext.refl _) 3 rfl,_,_,_,hc.cl (Ext.refl _) 4 rfl,_,hc.cl (Ext.refl _) 5 rfl,_,hc.cl (Ext.refl _) 6 rfl,_,hc.cl (Ext.refl _) 7 rfl,_,hc.cl (Ext.refl _) 8 rfl,_,_,_,hc.cl (Ext.refl _) 9 rfl,_,hc.cl (Ext.refl _) 10 rfl,_,_,_,hc.cl (Ext.refl _) 11 rfl,_,_,_,hc.cl (Ext.refl _) 12 rfl,_,hc.cl (Ext.refl _) 13 rfl,_,hc.cl (Ext.refl _) 14 rfl,_,hc.cl (Ext.refl _) 15 rfl,_,hc.cl (Ext.refl _) 16 rfl,_,hc.cl (Ext.refl _) 17 rfl,_,_,_,hc.cl (Ext.refl _) 18 rfl,_,hc.cl (Ext.refl _) 19 rfl,_,_,_,hc.cl (Ext.refl _) 20 rfl,_,hc.cl (Ext.refl _) 21 rfl,_,hc.cl (Ext.refl _) 22 rfl,_,hc.cl (Ext.refl _) 23 rfl,_,hc.cl (Ext.refl _) 24 rfl,_,hc.cl (Ext.refl _) 25 rfl,_,hc.cl (Ext.refl _) 26 rfl,_,hc.cl (Ext.refl _) 27 rfl,_,hc.cl (Ext.refl _) 28 rfl,_,hc.cl (Ext.refl _) 29 rfl,_,_,_,hc.cl (Ext.refl _) 30 rfl,_,hc.cl (Ext.refl _) 31 rfl,_,hc.cl (Ext.refl _) 32 rfl,_,hc.cl (Ext.refl _) 33 rfl,_,hc.cl (Ext.refl _) 34 rfl,_,hc.cl (Ext.refl _) 35 rfl,_,hc.cl (Ext.refl _) 36 rfl,_,hc.cl (Ext.refl _) 37 rfl,_,_,_,hc.cl (Ext.refl _) 38 rfl,_,_,_,hc.cl (Ext.refl _) 39 rfl,_,_,_,hc.cl (Ext.refl _) 40 rfl,_,_,_,hc.cl (Ext.refl _) 41 rfl,_,_,_,hc.cl (Ext.refl _) 42 rfl,_,hc.cl (Ext.refl _) 43 rfl,_,hc.cl (Ext.refl _) 44 rfl,_,hc.cl (Ext.refl _) 45 rfl,_,hc.cl (Ext.refl _) 46 rfl,_,hc.cl (Ext.refl _) 47 rfl,_,hc.cl (Ext.refl _) 48 rfl,_,_,_,hc.cl (Ext.refl _) 49 rfl,_,hc.cl (Ext.refl _) 50 rfl,_,hc.cl (Ext.refl _) 51 rfl,_,_,_,hc.cl (Ext.refl _) 52 rfl,trivial,trivial,?_⟩;intro w73;have x73:EF w17 w73:=(Ext.refl _).alloc _;clear_value w73;have done:∀ w',Ext (fun k=>k=g) w17 w'->(∃ L',L'<=L/\LC w' g L')->SQ w g L (.returned (.tuple #[])) w':=fun w' x' h=>⟨rfl,h,y17.trans x' fun _ _ e=>e⟩;refine ⟨fun _=>done w73 (x73.mono fun _ _ e=>e.elim) ⟨L-1,by omega,x73.old _ _ id hg17⟩,fun _=>⟨trivial,?_⟩⟩;obtain ⟨q1,q1'⟩:=h1.len;obtain ⟨q2,q2'⟩:=h2.len;obtain ⟨q3,q3'⟩:=h3.len;obtain ⟨q12,-⟩:=h12.len;obtain ⟨q13,-⟩:=h13.len;obtain ⟨q14,-⟩:=h14.len;obtain ⟨q16,-⟩:=h16.len;obtain ⟨q9,-⟩:=h9.len;obtain ⟨q15,-⟩:=h15.len;have z2:=hs.n2;have z3:=hs.n3;have z4:=hs.n4;have z30:=hs.n30;have z31:=hs.n31;have z32:=hs.n32;have z40:=hs.n40;intro w74;have o74:OwnR 3 1 RI w17.heap.size w74 (some (adr w73.heap.size)) 5 5 [x.ref,x.nt,x.iff,x.thn,x.els]:=A_P x73 [x.ref,x.nt,x.iff,x.thn,x.els] (by simp);have x74:EF w17 w74:=x73.alloc _;clear_value w74;obtain ⟨A1,C1,w76,r76,⟨ns1,o76⟩,x76,k76⟩:=z_l o74 x74 (SlL.keep x74.keep (by decide) h1 fun _ _ _ e=>e) (by omega);refine ⟨A1,5+s3.l,C1,w76,r76,⟨k76 _ (by decide),k76 _ (by decide),trivial⟩,fun w77 hw77=>?_⟩;have z77:EF w76 w77:=hw77▸(Ext.refl _).drew;have x77:=x76.then z77;have o77:=o76.keep0 z77;obtain ⟨A2,C2,w79,r79,⟨ns2,o79⟩,x79,k79⟩:=z_l o77 x77 (SlL.keep x77.keep (by decide) h2 fun _ _ _ e=>e) (by omega);refine ⟨A2,5+s3.l+s4.l,C2,w79,r79,⟨k79 _ (by decide),k79 _ (by decide),trivial⟩,⟨rfl,trivial⟩,?_⟩;obtain ⟨A3,C3,w81,r81,⟨ns3,o81⟩,x81,k81⟩:=z_l o79 x79 (SlL.keep x79.keep (by decide) h3 fun _ _ _ e=>e) (by omega);refine ⟨A3,5+s3.l+s4.l+s5.l,C3,w81,r81,⟨k81 _ (by decide),k81 _ (by decide),trivial⟩,trivial,trivial,?_⟩;refine ⟨fun A L C i w1=>0<=i/\i<=s41.l/\(L:Int)<=3300005+i/\(∃ ns,OwnR 3 1 RI w17.heap.size w1 A L C ns)/\EF w17 w1,fun _ _ _ i _=>((s41.l:Int)-i).toNat,⟨by omega,by omega,by omega,⟨_,o81⟩,x81⟩,?_⟩;rintro A4 L4 C4 i4 w86 ⟨i0,i1,iL,⟨ns4,o86⟩,x86⟩;refine ⟨fun hlt=>?_,fun hge=>?_⟩
  ·have hlt:=odt hlt;obtain ⟨p,q,hp,hq,cs,hc,rfl⟩:=SlL.get h12 i0 hlt;obtain ⟨⟨_,_,g0⟩,-, ⟨_,_,g1⟩,-, -⟩:=hc;obtain ⟨A5,C5,w91,r91,o91,x91,k91⟩:=y_n o86 x86 q.node (by omega);refine ⟨p,hp,⟨i0,hlt⟩,q.node,x86.cell g1 id,trivial,A5,L4+1,C5,w91,r91,⟨k91 _ (by decide),k91 _ (by decide),trivial⟩,?_⟩;rw [a_a i0 (by omega)];exact next i0 hlt ⟨by omega,o91,x91⟩
  refine ⟨fun A L C i w1=>0<=i/\i<=s53.l/\(L:Int)<=4400005+i/\(∃ ns,OwnR 3 1 RI w17.heap.size w1 A L C ns)/\EF w17 w1,fun _ _ _ i _=>((s53.l:Int)-i).toNat,⟨by omega,by omega,by omega,⟨_,o86⟩,x86⟩,?_⟩;rintro A6 L6 C6 i6 w96 ⟨j0,j1,jL,⟨ns6,o96⟩,x96⟩;refine ⟨fun hlt=>?_,fun hge=>?_⟩
  ·have hlt:=odt hlt;obtain ⟨p,q,hp,hq,cs,hc,a',l',c',rfl,-⟩:=SlL.get h16 j0 hlt;obtain ⟨⟨_,_,g0⟩,-, ⟨_,_,g1⟩,-, ⟨_,_,g2⟩,-, -⟩:=hc;obtain ⟨A5,C5,w91,r91,o91,x91,k91⟩:=y_n o96 x96 q.node (by omega);refine ⟨p,hp,⟨j0,hlt⟩,q.node,x96.cell g2 id,trivial,A5,L6+1,C5,w91,r91,⟨k91 _ (by decide),k91 _ (by decide),trivial⟩,?_⟩;rw [a_a j0 (by omega)];exact next j0 hlt ⟨by omega,o91,x91⟩
  have hg96:=x96.old _ _ id hg17;have hgs:g<w17.heap.size:=a_3 hg17;have y96:Ext (fun k=>k=g) w w96:=y17.then x96;have kp96:=A_O hg hB y96;refine (IH _ _ w96 a l c g (L-1) A6 L6 C6 _ ns6 (by omega) (RJNs.keep kp96 hr) (hv0.keep kp96) hg96 hB (by omega) o96 hgs (by omega)).mono ?_;rintro _ w103 ⟨rfl,⟨L7,hL7,hg103⟩,x103⟩;refine ⟨rfl,⟨y_f hg96 x103 (by decide),y_f hg96 x103 (by decide),trivial⟩,?_⟩;have y103:Ext (fun k=>k=g) w17 w103:=(x96.mono fun _ _ e=>e.elim).trans x103 fun _ _ e=>e;refine ⟨fun i w1=>0<=i/\i<=l2/\(∃ L',L'<=L-1/\LC w1 g L')/\Ext (fun k=>k=g) w17 w1,fun i _=>((l2:Int)-i).toNat,⟨by omega,by omega,⟨L7,hL7,hg103⟩,y103⟩,?_⟩;rintro i7 w107 ⟨m0,m1,⟨L8,hL8,hg107⟩,y107⟩;intro K108 hK108
  suffices k108:∀ b,(b=true->i7<(l2:Int))->K108 b w107 by
   exact ⟨fun hlt=>⟨adr g,rfl,L8,cat0 hg107 rfl,k108 _ fun _=>odt hlt⟩,fun _=>k108 _ nofun⟩
  intro b' hb';refine hK108 b' w107 ⟨fun ht K111 hK111=>?_,fun _=>done w107 y107 ⟨L8,by omega,hg107⟩⟩;have hlt7:=hb' ht;have k111:∀ w',(∃ L',L'<=L-1/\LC w' g L')->Ext (fun k=>k=g) w17 w'->K111 w':=fun w' h1 h2=>hK111 w' (by
   rw [a_a m0 (by omega)];exact next m0 hlt7 ⟨h1,h2⟩)
  refine ⟨trivial,?_⟩;intro w113;have o113:OwnR 3 1 RI w107.heap.size w113 (some (adr w107.heap.size)) 7 7 [x.items,x.cont,x.restI,x.single,x.others.node,x.restP,x.more.node]:=A_P (Ext.refl _) [x.items,x.cont,x.restI,x.single,x.others.node,x.restP,x.more.node] (by simp);have x113:EF w107 w113:=(Ext.refl _).alloc _;clear_value w113;have kpA:∀ {w'},EF w107 w'->Keep w17 w':=fun x'=>A_O hg17 hB (y107.then x');intro K114 hK114
  suffices k114:∀ A L C w1,L<=8->(∃ ns,OwnR 3 1 RI w107.heap.size w1 A L C ns)->EF w107 w1->K114 A L C w1 by
   refine ⟨fun hlt=>?_,fun _=>k114 _ _ _ _ (by omega) ⟨_,o113⟩ x113⟩;have hlt:=odt hlt;obtain ⟨p,q,hp,hq,cs,hc,rfl⟩:=SlL.get (SlL.keep (kpA x113) (by decide) h9 fun _ _ _ e=>e:SlL w113 _ 1 RI _ _ _ _) m0 (by omega);obtain ⟨A5,C5,w91,r91,o91,x91,k91⟩:=y_n o113 x113 q (by omega);exact ⟨p,hp,⟨m0,by omega⟩,q,hc.1.choose_spec.2.cell,trivial,A5,8,C5,w91,r91,⟨k91 _ (by decide),k91 _ (by decide),trivial⟩,k114 _ _ _ _ (by omega) o91 x91⟩
  rintro A8 L9 C8 w116 g1 ⟨ns8,o116⟩ x116;refine hK114 A8 L9 C8 w116 fun K117 hK117=>?_
  suffices k117:∀ A L C w1,L<=9->(∃ ns,OwnR 3 1 RI w107.heap.size w1 A L C ns)->EF w107 w1->K117 A L C w1 by
   refine ⟨fun hlt=>?_,fun _=>k117 _ _ _ _ (by omega) ⟨_,o116⟩ x116⟩;have hlt:=odt hlt;obtain ⟨p,q,hp,hq,cs,hc,rfl⟩:=SlL.get (SlL.keep (kpA x116) (by decide) h15 fun _ _ _ e=>e:SlL w116 _ 1 RI _ _ _ _) m0 (by omega);obtain ⟨A5,C5,w91,r91,o91,x91,k91⟩:=y_n o116 x116 q (by omega);exact ⟨p,hp,⟨m0,by omega⟩,q,hc.1.choose_spec.2.cell,trivial,A5,L9+1,C5,w91,r91,⟨k91 _ (by decide),k91 _ (by decide),trivial⟩,k117 _ _ _ _ (by omega) o91 x91⟩
  rintro A10 L10 C10 w119 g1 ⟨ns10,o119⟩ x119;refine hK117 A10 L10 C10 w119 ?_;refine ⟨fun A L C i w1=>0<=i/\i<=s42.l/\(L:Int)<=9+i/\(∃ ns,OwnR 3 1 RI w107.heap.size w1 A L C ns)/\EF w107 w1,fun _ _ _ i _=>((s42.l:Int)-i).toNat,⟨by omega,by omega,by omega,⟨_,o119⟩,x119⟩,?_⟩;rintro A11 L11 C11 i11 w124 ⟨b0,b1,bL,⟨ns11,o124⟩,x124⟩;refine ⟨fun hlt K125 hK125 K128 hK128 w136 hw136=>?_,fun hge=>?_⟩
  ·have hlt:=odt hlt;have z136:EF w124 w136:=hw136▸(Ext.refl _).drew;clear hw136;have x136:=x124.then z136;obtain ⟨p,q,hp,hq,cs,hc,rfl⟩:=SlL.get (RJPrs.keep (kpA x136) h13) b0 hlt;obtain ⟨⟨_,_,g0⟩,-, ⟨_,_,g1⟩,-, -⟩:=hc;have k125:∀ (A:OA) (L C:Nat) (w1:World),(L:Int)<=9+(i11+1)->(∃ ns,OwnR 3 1 RI w107.heap.size w1 A L C ns)->EF w107 w1->K125 A L C w1:=fun A L C w1 g1 g2 g3=>hK125 A L C w1 (by
    rw [a_a b0 (by omega)];exact next b0 hlt ⟨g1,g2,g3⟩)
   have k128:∀ b,K128 b w136:=fun b'=>hK128 b' w136 ⟨fun _=>by
    obtain ⟨A5,C5,w91,r91,o91,x91,k91⟩:=y_n (o124.keep0 z136) x136 q.node (by omega);exact ⟨p,hp,⟨b0,hlt⟩,q.node,g1.cell,trivial,A5,L11+1,C5,w91,r91,⟨k91 _ (by decide),k91 _ (by decide),trivial⟩,k125 _ _ _ _ (by omega) o91 x91⟩,fun _=>k125 _ _ _ _ (by omega) ⟨_,o124.keep0 z136⟩ x136⟩
   refine ⟨fun hl=>?_,fun _=>k128 _⟩;have hl:=odt hl;obtain ⟨p1,u,hp1,hu,cu,hcu,rfl⟩:=(r1.keep (kp17.trans (kpA x136))).get m0 hl;exact ⟨p1,hp1,⟨m0,hl⟩,u,hcu.1.choose_spec.2.cell,p,hp,⟨b0,hlt⟩,q.name,g0.cell,k128 _⟩
  refine ⟨fun A L C i w1=>0<=i/\i<=s43.l/\(L:Int)<=1100009+i/\(∃ ns,OwnR 3 1 RI w107.heap.size w1 A L C ns)/\EF w107 w1,fun _ _ _ i _=>((s43.l:Int)-i).toNat,⟨by omega,by omega,by omega,⟨_,o124⟩,x124⟩,?_⟩;rintro A12 L12 C12 i12 w145 ⟨d0,d1,dL,⟨ns12,o145⟩,x145⟩;refine ⟨fun hlt=>?_,fun hge=>?_⟩
  ·have hlt:=odt hlt;obtain ⟨p,q,hp,hq,cs,hc,a',l',c',rfl,-⟩:=SlL.get (RJPas.keep (kpA x145) h14) d0 hlt;obtain ⟨⟨_,_,g0⟩,-, ⟨_,_,g1⟩,-, -⟩:=hc;obtain ⟨A5,C5,w91,r91,o91,x91,k91⟩:=y_n o145 x145 q.node (by omega);refine ⟨p,hp,⟨d0,hlt⟩,q.node,g1.cell,trivial,A5,L12+1,C5,w91,r91,⟨k91 _ (by decide),k91 _ (by decide),trivial⟩,?_⟩;rw [a_a d0 (by omega)];exact next d0 hlt ⟨by omega,o91,x91⟩
  have y145:=y107.then x145;have kp145:=kp17.trans (kpA x145);have hg145:=x145.old _ _ id hg107;obtain ⟨p,y,hp,hy,cy,hcy,hvy⟩:=(r2.keep kp145).get m0 hlt7;have call:=IH y cy w145 a l c g L8 A12 L12 C12 _ ns12 (by omega) (RJNs.keep kp145 hr) hvy hg145 hB (by omega) o145 (a_3 hg107) (by omega);obtain ⟨yk,yb,yn,yt,yns,yxs⟩:=y;obtain ⟨a5,l5,c5,a6,l6,c6,rfl,-, -, -⟩:=w_8.1 hvy;obtain ⟨⟨_,_,g0⟩,-, ⟨_,_,g1⟩,-, ⟨_,_,g2⟩,-, ⟨_,_,g3⟩,-, ⟨_,_,g4⟩,-, ⟨_,_,g5⟩,-⟩:=hcy;refine ⟨p,hp,⟨m0,hlt7⟩,_,g0.cell,_,g1.cell,_,g2.cell,_,g3.cell,_,_,_,g4.cell,_,_,_,g5.cell,call.mono ?_⟩;rintro _ w159 ⟨rfl,⟨L13,hL13,hg159⟩,x159⟩;have y159:Ext (fun k=>k=g) w17 w159:=y145.trans x159 fun _ _ e=>e;refine ⟨rfl,⟨y_f hg145 x159 (by decide),y_f hg145 x159 (by decide),trivial⟩,fun hl=>?_,fun _=>k111 _ ⟨L13,by omega,hg159⟩ y159⟩;have hl:=odt hl;intro w160 hw160;have z160:EF w159 w160:=hw160▸(Ext.refl _).drew;clear hw160;have y160:=y159.then z160;have hg160:=z160.old _ _ id hg159;have kp160:=kp17.trans (A_O hg17 hB y160);obtain ⟨p1,u,hp1,hu,cu,hcu,rfl⟩:=(r1.keep kp160).get m0 hl;have sm:u.size<=4194304:=hcu.2.1;have hw:RJV w160 (.mk 3 false 0 u [] []) [.int .i64 3,.bool false,.int .i64 0,.string u,.slice none 0 0,.slice none 0 0]:=w_8.2 ⟨none,0,0,none,0,0,rfl,sm,⟨rfl,Nat.le_refl _,by omega,fun i x h=>by simp at h⟩,⟨rfl,Nat.le_refl _,by omega,fun i x h=>by simp at h⟩⟩;refine ⟨p1,hp1,⟨m0,hl⟩,u,hcu.1.choose_spec.2.cell,trivial,(IH1 x.names _ _ w160 a l c g L13 (by omega) (RJNs.keep kp160 hr) hw hg160 hB (by omega)).mono ?_⟩;rintro _ w164 ⟨rfl,⟨L14,hL14,hg164⟩,x164⟩;exact ⟨rfl,⟨y_f hg160 x164 (by decide),y_f hg160 x164 (by decide),trivial⟩,trivial,k111 _ ⟨L14,by omega,hg164⟩ (y160.trans x164 fun _ _ e=>e)⟩⟩
 refine ⟨fun g1=>⟨fun g2=>⟨adr g,rfl,L,cat0 hg10 rfl,k11 _ fun g3=>?_⟩,fun _=>k11 _ nofun⟩,fun _=>k11 _ nofun⟩;have g1:=odf g1;have g2:=odf g2;have g3:=odf g3;exact ⟨by omega,by omega,by omega⟩
theorem E_l:SP s 0:=by
 intro n v cs w a l c g L hL hr hv hg hB hL0;obtain ⟨k,b,vn,t,nms,xs⟩:=v;obtain ⟨a1,l1,c1,a2,l2,c2,rfl,-, r1,r2⟩:=w_8.1 hv;refine B_N a l c n k b vn t a1 l1 c1 a2 l2 c2 (some (adr g)) w _ ⟨trivial,?_⟩;intro w10;have x10:EF w w10:=(Ext.refl _).alloc _;clear_value w10;have hg10:=x10.old _ _ id hg;intro K11 hK11;have k11:∀ b,b=true->K11 b w10:=fun b' hb=>hK11 b' w10 ⟨fun _=>⟨rfl,⟨L,Int.le_refl _,hg10⟩,x10.mono fun _ _ e=>e.elim⟩,fun hf=>by rw [hb] at hf;cases hf⟩;exact ⟨fun g1=>⟨fun g2=>⟨adr g,rfl,L,cat0 hg10 rfl,k11 _ (decide_eq_true (by omega))⟩,fun _=>k11 _ rfl⟩,fun _=>k11 _ rfl⟩
theorem C_W (hsm:∀ x∈s,smN x):∀ f,SP s f
 | 0=>E_l
 | f+1=>D_e hsm (A_9 (C_W hsm f)) (C_W hsm f)
theorem C_3 (hsm:∀ x∈s,smN x){w:World}{a:OA}{l c:Nat}(hr:RJNs w a l c s){v:JV}(hv:RJV w v cs)(hB:DB.B<=w.heap.size):CP 32 #[.slice a l c,.agg cs.toArray] w (RetB w fun _=>True):=by
 have hv0:=hv;obtain ⟨k,b,vn,t,nms,xs⟩:=v;obtain ⟨a1,l1,c1,a2,l2,c2,rfl,-, r1,r2⟩:=w_8.1 hv;refine D_w a l c k b vn t a1 l1 c1 a2 l2 c2 w _ ⟨trivial,?_⟩;intro w8;have x8:EF w w8:=(Ext.refl _).alloc _;clear_value w8;refine ⟨trivial,?_⟩;intro w9;have x9:EF w w9:=x8.alloc _;have o9:LC w9 w8.heap.size 0:=w_3 _ _;clear_value w9;refine ⟨⟨_,_,o9,rfl,by show 0+1<=1;omega,by decide⟩,trivial,?_⟩;intro w10;have x10:Ext (fun k=>k=w8.heap.size) w9 w10:=(z_d o9 _).1;have o10:LC w10 w8.heap.size 200000:=(z_d o9 _).2;clear_value w10;have hs8:=x8.size;have y10:EF w w10:=x9.trans x10 fun b hb e=>by
  have e:b=w8.heap.size:=e;omega
 refine (C_W hsm 200000 1 _ _ w10 a l c w8.heap.size 200000 (by omega) (RJNs.keep y10.keep hr) (hv0.keep y10.keep) o10 (by omega) (by omega)).mono ?_;rintro _ w12 ⟨rfl,⟨L',-, o12⟩,x12⟩;exact ⟨rfl,⟨y_f o10 x12 (by decide),trivial⟩,L',cat0 o12 rfl,_,rfl,y10.trans x12 fun b hb e=>by
  have e:b=w8.heap.size:=e;omega,trivial⟩
end
mutual
def shV:JV->Prop
 | .mk k b n t ns xs=>(k=4->xs.length<=20)/\shVs xs
def shVs:List JV->Prop
 | []=>True
 | x::l=>shV x/\shVs l
end
theorem y_P:∀ {xs:List JV},shVs xs↔∀ x∈xs,shV x
 | []=>by simp [shVs]
 | x::l=>by simp [shVs,y_P]
mutual
theorem B_L:∀ {v:JV},okP v->noN v->shV v->okV v
 | .mk k b n t ns xs,h1,h2,h3=>by
  simp only [okP,noN,shV] at h1 h2 h3;exact ⟨h2.1,h1.1,h1.2.1,h1.2.2.1,h3.1,h1.2.2.2.1,h1.2.2.2.2.1,C_H h1.2.2.2.2.2 h2.2 h3.2⟩
theorem C_H:∀ {xs:List JV},okPs xs->noNs xs->shVs xs->okVs xs
 | [],_,_,_=>trivial
 | x::l,h1,h2,h3=>by
  simp only [okPs,noNs,shVs] at h1 h2 h3;exact ⟨B_L h1.1 h2.1 h3.1,C_H h1.2 h2.2 h3.2⟩
end
theorem A_g:∀ (N:Nat) (xs:List JV) (w:World) (a:OA) (l c:Nat),szL xs<=N->RJVs w a l c xs->CP 31 #[.slice a l c] w (RetB w fun z=>z=true->shVs xs):=by
 intro N;induction N with
 | zero=>
  intro xs w a l c hN hl;obtain ⟨e2,e2'⟩:=hl.len;have:xs=[]:=by
   cases xs with
   | nil=>rfl
   | cons x r=>
    have:=A_A x;simp only [szL] at hN;omega
  subst this;refine y_N a l c w _ ⟨fun i w1=>i=0/\w1=w,fun _ _=>0,⟨rfl,rfl⟩,?_⟩;rintro i w1 ⟨rfl,rfl⟩;simp only [List.length_nil] at e2;subst e2;exact ⟨fun h=>by simp at h,fun _=>⟨true,rfl,Ext.refl _,fun _=>trivial⟩⟩
 | succ N IH=>
  intro xs w a l c hN hl;obtain ⟨e2,e2'⟩:=hl.len;refine y_N a l c w _ ⟨fun i w1=>0<=i/\i<=l/\EF w w1/\∀ x∈xs.take i.toNat,shV x,fun i _=>((l:Int)-i).toNat,⟨by omega,by omega,Ext.refl w,by simp⟩,?_⟩;rintro i w1 ⟨h0,h1,hx,hall⟩;refine ⟨fun hlt K hK=>?_,fun hge=>⟨true,rfl,hx,fun _=>y_P.2 (a_o (xs:=xs) e2 hge hall)⟩⟩;have hlt:=odt hlt;obtain ⟨p,x,hp,hxs,cx,hc,hvx⟩:=SlL.get hl h0 hlt;have hx':=mg_ hxs;have k:∀ (b:Bool) (w':World),EF w w'->(b=false->shV x)->K b w':=fun b w' x' hb=>hK b w' ⟨fun _=>⟨false,rfl,x',nofun⟩,fun hf=>by
   rw [a_a h0 (by omega)];exact next h0 hlt ⟨x',a_g h0 hall hxs (hb hf)⟩⟩
  have hsz:szL x.xs<=N:=by
   have h1:=x_L hx';obtain ⟨xk,xb,xn,xt,xns,xxs⟩:=x;simp only [szJ] at h1;simp only [JV.xs];omega
  obtain ⟨xk,xb,xn,xt,xns,xxs⟩:=x;obtain ⟨a5,l5,c5,a6,l6,c6,rfl,-, r1,r2⟩:=w_8.1 hvx;obtain ⟨⟨_,_,g0⟩,-, ⟨_,_,g1⟩,-, ⟨_,_,g2⟩,-, ⟨_,_,g3⟩,-, ⟨_,_,g4⟩,-, ⟨_,_,g5⟩,-⟩:=hc;obtain ⟨e6,-⟩:=r2.len;have call:=IH xxs w1 a6 l6 c6 hsz (r2.keep hx.keep);refine ⟨p,hp,⟨h0,hlt⟩,xk,hx.cell g0 id,fun h4=>⟨p,hp,⟨h0,hlt⟩,_,_,_,hx.cell g5 id,fun h20=>⟨p,hp,⟨h0,hlt⟩,_,_,_,hx.cell g5 id,call.mono ?_⟩,fun _=>k _ _ hx nofun⟩,fun h4=>⟨p,hp,⟨h0,hlt⟩,_,_,_,hx.cell g5 id,call.mono ?_⟩⟩
  ·rintro _ w2 ⟨b2,rfl,x2,hb2⟩;refine ⟨b2,rfl,trivial,k _ _ (hx.then x2) fun hf=>?_⟩;have h20:=odf h20;exact ⟨fun _=>by omega,hb2 (by simpa using hf)⟩
  ·rintro _ w2 ⟨b2,rfl,x2,hb2⟩;refine ⟨b2,rfl,trivial,k _ _ (hx.then x2) fun hf=>?_⟩;exact ⟨fun e=>by rw [e] at h4;simp at h4,hb2 (by simpa using hf)⟩
section
variable {w:World} {a:OA} {l c:Nat} {s:List JN}
theorem A_G (hr:RJNs w a l c s):CP 29 #[.slice a l c] w (RetB w fun z=>z=true->∀ x∈s,(∀ v∈x.enm,okV v)/\∀ v∈x.cst,okV v):=by
 obtain ⟨e2,e2'⟩:=hr.len;refine y_Y a l c w _ ⟨fun i w1=>0<=i/\i<=l/\EF w w1/\∀ x∈s.take i.toNat,(∀ v∈x.enm,okV v)/\∀ v∈x.cst,okV v,fun i _=>((l:Int)-i).toNat,⟨by omega,by omega,Ext.refl w,by simp⟩,?_⟩;rintro i w1 ⟨h0,h1,hx,hall⟩;refine ⟨fun hlt K hK=>?_,fun hge=>⟨true,rfl,hx,fun _=>a_o (xs:=s) e2 hge hall⟩⟩;have hlt:=odt hlt;obtain ⟨p,x,hp,hxs,cx,hc,hrx⟩:=SlL.get hr h0 hlt;have k:∀ (b:Bool) (w':World),EF w w'->(b=false->(∀ v∈x.enm,okV v)/\∀ v∈x.cst,okV v)->K b w':=fun b w' x' hb=>hK b w' ⟨fun _=>⟨false,rfl,x',nofun⟩,fun hf=>by
  rw [a_a h0 (by omega)];exact next h0 hlt ⟨x',a_g h0 hall hxs (hb hf)⟩⟩
 obtain ⟨s3,s4,s5,s10,s12,s13,s19,s21,s31,s39,s40,s41,s42,s43,s50,s53,rfl,-, -, -, -, h5,h6,-⟩:=hrx;obtain ⟨_,_,g11⟩:=(hc.get 11 _ rfl).1;obtain ⟨_,_,g12⟩:=(hc.get 12 _ rfl).1;clear hc;refine ⟨p,hp,⟨h0,hlt⟩,_,_,_,hx.cell g11 id,(y_b (h5.keep hx.keep)).mono ?_⟩;rintro _ w2 ⟨b2,rfl,x2,hb2⟩;have y2:=hx.then x2;refine ⟨b2,rfl,trivial,fun t2=>⟨p,hp,⟨h0,hlt⟩,_,_,_,y2.cell g12 id,(y_b (h6.keep y2.keep)).mono ?_⟩,fun _=>k _ _ y2 nofun⟩;rintro _ w3 ⟨b3,rfl,x3,hb3⟩;have y3:=y2.then x3;refine ⟨b3,rfl,trivial,fun t3=>⟨p,hp,⟨h0,hlt⟩,_,_,_,y3.cell g11 id,(A_g _ _ _ _ _ _ (Nat.le_refl _) (h5.keep y3.keep)).mono ?_⟩,fun _=>k _ _ y3 nofun⟩;rintro _ w4 ⟨b4,rfl,x4,hb4⟩;have y4:=y3.then x4;refine ⟨b4,rfl,trivial,fun t4=>⟨p,hp,⟨h0,hlt⟩,_,_,_,y4.cell g12 id,(A_g _ _ _ _ _ _ (Nat.le_refl _) (h6.keep y4.keep)).mono ?_⟩,fun _=>k _ _ y4 nofun⟩;rintro _ w5 ⟨b5,rfl,x5,hb5⟩;refine ⟨b5,rfl,trivial,k _ _ (y4.then x5) fun hf=>?_⟩;have t2:=hb2 (by simpa using t2);have t3:=hb3 (by simpa using t3);have t4:=y_P.1 (hb4 (by simpa using t4));have t5:=y_P.1 (hb5 (by simpa using hf));exact ⟨fun v hv=>B_L (t2 v hv).1 (t2 v hv).2 (t4 v hv),fun v hv=>B_L (t3 v hv).1 (t3 v hv).2 (t5 v hv)⟩
theorem PN.ok {N own:Nat}{x:JN}(h:PN N own x)(hn:NewN x)(hs:smN x)(hv:(∀ v∈x.enm,okV v)/\∀ v∈x.cst,okV v):okN N own x where
 kind:=h.kind
 more:=h.more
 cst:=h.cst
 ref:=h.h5 _ (by simp)
 nt:=h.h5 _ (by simp)
 iff:=h.h5 _ (by simp)
 thn:=h.h5 _ (by simp)
 els:=h.h5 _ (by simp)
 allOf:=fun n hn=>⟨h.allOf n hn,h.whole _ (by simp) n hn⟩
 anyOf:=fun n hn=>⟨h.anyOf n hn,h.whole x.anyOf (by simp) n hn⟩
 oneOf:=fun n hn=>⟨h.oneOf n hn,h.whole x.oneOf (by simp) n hn⟩
 items:=h.h6 _ (by simp)
 cont:=h.h6 _ (by simp)
 restI:=h.h6 _ (by simp)
 names:=h.h6 _ (by simp)
 restP:=h.h6 _ (by simp)
 moreN:=⟨h.h6 _ (by simp),h.moreN⟩
 first:=fun n hn=>⟨h.first n hn,h.whole x.first (by simp) n hn⟩
 deps:=h.deps
 props:=h.props
 pats:=h.pats
 enm:=hv.1
 cstv:=hv.2
 dep:=hn.dep
 ts:=⟨hs.ps,hs.n15,hs.n16⟩
 len:=⟨hs.n2,hs.n3,hs.n4,hs.n32,hs.n30,hs.n29,hs.n28,hs.ns⟩
structure Fit (s:List JN) (v:JV):Prop where
 ne:s≠[]
 len:s.length<=100000
 ok:okS s
 u:okU s
 new:∀ x∈s,NewN x
 v:okV v
theorem E_r (hsm:∀ x∈s,smN x)(hr:RJNs w a l c s){v:JV}(hv:RJV w v cs)(hB:DB.B<=w.heap.size):CP 14 #[.slice a l c,.agg cs.toArray] w (RetB w fun z=>z=true->Fit s v):=by
 obtain ⟨e2,e2'⟩:=hr.len;have hv0:=hv;obtain ⟨k,vb,n,t,ns,xs⟩:=v;obtain ⟨a1,l1,c1,a2,l2,c2,rfl,ht,-, -⟩:=w_8.1 hv;refine B_l a l c k vb n t a1 l1 c1 a2 l2 c2 w _ ⟨trivial,?_⟩;intro w8;have x8:EF w w8:=(Ext.refl _).alloc _;clear_value w8;intro K9 hK9;have k9:∀ (b:Bool) (w':World),EF w w'->(b=true->Fit s (.mk k vb n t ns xs))->K9 b w':=fun b w' x' hb=>hK9 b w' ⟨b,rfl,x',hb⟩;refine ⟨fun hlen=>(z_i (RJNs.keep x8.keep hr)).mono ?_,fun _=>k9 _ _ x8 nofun⟩;have hlen:=odt hlen;rintro _ w13 ⟨b14,rfl,x13,hb14⟩;have y13:=x8.then x13;refine ⟨b14,rfl,⟨x13.keepT _,trivial⟩,fun t14=>(A_G (RJNs.keep y13.keep hr)).mono ?_,fun _=>k9 _ _ y13 nofun⟩;rintro _ w16 ⟨b17,rfl,x16,hb17⟩;have y16:=y13.then x16;refine ⟨b17,rfl,⟨x16.keepT _,trivial⟩,fun t17=>⟨trivial,?_⟩,fun _=>k9 _ _ y16 nofun⟩;have one:∀ {w0:World},EF w w0->RJVs (w0.alloc (.cells #[.int .i64 k,.bool vb,.int .i64 n,.string t,.slice a1 l1 c1,.slice a2 l2 c2] 27)) (some (adr w0.heap.size)) 1 1 [.mk k vb n t ns xs]:=fun {w0} x0=>by
  have x1:EF w0 (w0.alloc (.cells #[.int .i64 k,.bool vb,.int .i64 n,.string t,.slice a1 l1 c1,.slice a2 l2 c2] 27)):=(Ext.refl _).alloc _;have o1:=Own.made 0 w0 27 6 1 #[.int .i64 k,.bool vb,.int .i64 n,.string t,.slice a1 l1 c1,.slice a2 l2 c2] (Nat.zero_le _) (by simp only [maxLen];omega) rfl;exact o1.sl (Flat.cons (cs:=[.int .i64 k,.bool vb,.int .i64 n,.string t,.slice a1 l1 c1,.slice a2 l2 c2]) rfl (fun v hv=>by
   simp only [mc_,nn_,or_false] at hv;rcases hv with rfl|rfl|rfl|rfl|rfl|rfl<;>first|rfl|exact ht) (hv0.keep (x0.then x1).keep) .nil) (by omega) (by omega)
 intro w18;have h18:RJVs w18 (some (adr w16.heap.size)) 1 1 [.mk k vb n t ns xs]:=one y16;have x18:EF w16 w18:=(Ext.refl _).alloc _;clear_value w18;have y18:=y16.then x18;refine (y_b h18).mono ?_;rintro _ w20 ⟨b21,rfl,x20,hb21⟩;have y20:=y18.then x20;refine ⟨b21,rfl,⟨x20.keepT _,trivial⟩,fun t21=>⟨trivial,?_⟩,fun _=>k9 _ _ y20 nofun⟩;intro w22;have h22:RJVs w22 (some (adr w20.heap.size)) 1 1 [.mk k vb n t ns xs]:=one y20;have x22:EF w20 w22:=(Ext.refl _).alloc _;clear_value w22;have y22:=y20.then x22;refine (A_g _ _ _ _ _ _ (Nat.le_refl _) h22).mono ?_;rintro _ w24 ⟨b25,rfl,x24,hb25⟩;have y24:=y22.then x24;refine ⟨b25,rfl,⟨x24.keepT _,trivial⟩,fun t25=>(C_3 hsm (RJNs.keep y24.keep hr) (hv0.keep y24.keep) (lt_ hB y24.size)).mono ?_,fun _=>k9 _ _ y24 nofun⟩;rintro _ w27 ⟨b28,rfl,x27,-⟩;refine ⟨b28,rfl,⟨x27.keepT _,trivial⟩,k9 _ _ (y24.then x27) fun _=>?_⟩;obtain ⟨p1,p2⟩:=hb14 t14;have p3:=hb17 t17;have p4:=hb21 t21 _ (List.mem_singleton.2 rfl);have p5:=y_P.1 (hb25 t25) _ (List.mem_singleton.2 rfl);refine ⟨p1,by omega,fun i x hi=>?_,fun i x hi=>?_,fun x hx=>?_,B_L p4.1 p4.2 p5⟩
 ·have hm:=mg_ hi;exact (p2 i x hi).1.ok (p2 i x hi).2 (hsm x hm) (p3 x hm)
 ·have hm:=mg_ hi;have:=B_q x.enm;have:=(hsm x hm).enm;exact ⟨(p2 i x hi).1.types,by omega⟩
 ·obtain ⟨i,hi⟩:=List.getElem?_of_mem hx;exact (p2 i x hi).2
end
theorem C_u {w:World}{a:OA}{l c:Nat}{ns:List BA}(hn:RStrs w a l c ns):CP 27 #[.slice a l c] w (RetB w fun _=>True):=by
 obtain ⟨e2,e2'⟩:=hn.len;refine z_U a l c w _ ⟨fun _=>⟨false,rfl,Ext.refl w,trivial⟩,fun _=>⟨fun i w1=>0<=i/\i<=l/\w1=w,fun i _=>((l:Int)-i).toNat,⟨by omega,by omega,rfl⟩,?_⟩⟩;rintro i w1 ⟨h0,h1,rfl⟩;refine ⟨fun hlt=>?_,fun _=>⟨true,rfl,Ext.refl _,trivial⟩⟩;have hlt:=odt hlt;obtain ⟨p,s,hp,hs,_,hc,rfl⟩:=hn.get h0 hlt;refine ⟨p,hp,⟨h0,hlt⟩,s,hc.1.choose_spec.2.cell,fun _=>⟨false,rfl,Ext.refl _,trivial⟩,fun _=>?_⟩;rw [a_a h0 (by omega)];exact next h0 hlt rfl
theorem C_v {w:World}{v:JV}(hv:RJV w v cs):CP 13 #[.agg cs.toArray] w (RetB w fun _=>True):=by
 obtain ⟨k,b,n,t,ns,xs⟩:=v;obtain ⟨a1,l1,c1,a2,l2,c2,rfl,ht,r1,-⟩:=w_8.1 hv;refine z_V k b n t a1 l1 c1 a2 l2 c2 w _ ⟨trivial,?_⟩;intro w7;have x7:EF w w7:=(Ext.refl _).alloc _;clear_value w7;refine ⟨fun _=>⟨false,rfl,x7,trivial⟩,fun _=>(C_u (r1.keep x7.keep)).mono ?_⟩;rintro _ w9 ⟨b10,rfl,x9,-⟩;exact ⟨b10,rfl,⟨x9.keepT _,trivial⟩,fun _=>⟨false,rfl,x7.then x9,trivial⟩,fun _=>⟨fun _=>⟨false,rfl,x7.then x9,trivial⟩,fun _=>⟨true,rfl,x7.then x9,trivial⟩⟩⟩
end Go.VC
