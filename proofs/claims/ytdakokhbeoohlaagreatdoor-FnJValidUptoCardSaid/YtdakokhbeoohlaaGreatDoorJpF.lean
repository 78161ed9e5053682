/- Part of the proof of a law of a rule over documents (JpF), where what the arguments hold is of bulk at most 1048576. -/
import Derived.Test.YtdakokhbeoohlaaGreatDoorBaseB
import Derived.Test.YtdakokhbeoohlaaGreatDoorJpE
import Derived.Test.YtdakokhbeoohlaaGreatDoorJpA
import Derived.Laws.MakeOwn
set_option linter.unusedVariables false
set_option linter.unusedSectionVars false
namespace Go.VC
open Go Go.Proofs
variable {J:JJ}{ls m ms:List Bool}{g i:Nat}{w':World}
set_option maxRecDepth 100000
theorem D_C (a:Int)(b:OA)(c d:Nat)(e:OA)(f g:Nat)(i:Int)(j:Int)(k:Bool)(l:Int)(m:BA)(n:OA)(o p:Nat)(q:OA)(r s:Nat)(w:World)(R:EW)(h:
 True/\(let t:=w.alloc (.cells #[S9 b c d,S9 e f g] 66);
 True/\(let u:=t.alloc (.cells #[N9 j,.bool k,N9 l,T9 m,S9 n o p,S9 q r s] 27);
 Ix b (wr (i-1)) c fun v=>L_iillliiiilbllbibiblblbibibibibliiibibillllliiiiibliil u (v.add ((wr (i-1)).toNat*53)) fun x y z A B C D E F G H I J K L M N O P Q S U V W X Y Z aa ab ac ad ae af ag ah ai aj ak al am an ao ap aq ar au av ax ay az aA aB aC aD aE aF aG aH aI aJ aK aL aM aN aO aP aQ aS aU aV aW aX aY aZ ba bb bc bd be bf bg bh bi bj bk=>True/\True/\(let bm:=u.alloc (.cells #[N9 x,N9 y,S9 z A B,S9 C D E,S9 F G H,N9 I,N9 J,N9 K,N9 L,S9 M N O,.bool P,S9 Q S U,S9 V W X,.bool Y,N9 Z,.bool aa,N9 ab,.bool ac,S9 ad ae af,.bool ag,S9 ah ai aj,.bool ak,N9 al,.bool am,N9 an,.bool ao,N9 ap,.bool aq,N9 ar,.bool au,S9 av ax ay,N9 az,N9 aA,N9 aB,.bool aC,N9 aD,.bool aE,N9 aF,S9 aG aH aI,S9 aJ aK aL,S9 aM aN aO,S9 aP aQ aS,S9 aU aV aW,N9 aX,N9 aY,N9 aZ,N9 ba,N9 bb,.bool bc,S9 bd be bf,N9 bg,N9 bh,S9 bi bj bk] 44);
 ∃ bn bo bp,∃ bq,(Instr.makeSlice 61 (N9 (r:Int)) (N9 (r:Int))).run Tryz.prog bm=.ok (S9 bn bo bp) bq/\(KeepT 66 bm bq/\KeepT 27 bm bq/\KeepT 44 bm bq/\True)/\(Br (x !=0) (R (R9 (.tuple #[(.bool (x==1)),S9 bn bo bp])) bq) (Cb 44 #[(.agg #[N9 x,N9 y,S9 z A B,S9 C D E,S9 F G H,N9 I,N9 J,N9 K,N9 L,S9 M N O,.bool P,S9 Q S U,S9 V W X,.bool Y,N9 Z,.bool aa,N9 ab,.bool ac,S9 ad ae af,.bool ag,S9 ah ai aj,.bool ak,N9 al,.bool am,N9 an,.bool ao,N9 ap,.bool aq,N9 ar,.bool au,S9 av ax ay,N9 az,N9 aA,N9 aB,.bool aC,N9 aD,.bool aE,N9 aF,S9 aG aH aI,S9 aJ aK aL,S9 aM aN aO,S9 aP aQ aS,S9 aU aV aW,N9 aX,N9 aY,N9 aZ,N9 ba,N9 bb,.bool bc,S9 bd be bf,N9 bg,N9 bh,S9 bi bj bk]),(.agg #[N9 j,.bool k,N9 l,T9 m,S9 n o p,S9 q r s])] bq (fun br bs=>(KeepT 66 bq bs/\KeepT 27 bq bs/\KeepT 44 bq bs/\True)/\∀ bt:Bool->World->Prop,(∀ bu:Bool,∀ bv:World,
 (∀ bx:Bool->World->Prop,(∀ bz:Bool,∀ bA:World,
 ((Br (!bz) (∀ bB:Bool->OA->Nat->Nat->World->Prop,(∀ bC:Bool,∀ (bD:OA) (bE bF:Nat),∀ bG:World,
 (R (R9 (.tuple #[.bool bC,S9 bD bE bF])) bG)->
 bB bC bD bE bF bG)->
 ∀ bH,bH=bA.drew->((∃ bI bJ bK,∃ bL,(Instr.makeSlice 61 (N9 (r:Int)) (N9 (r:Int))).run Tryz.prog bH=.ok (S9 bI bJ bK) bL/\(KeepT 66 bH bL/\KeepT 27 bH bL/\KeepT 44 bH bL/\True)/\True/\True/\True/\bB false bI bJ bK bL)/\
 (((0=0)/\True)/\∃ bM bN bO,∃ bP,(Instr.makeSlice 61 (N9 (r:Int)) (N9 (r:Int))).run Tryz.prog bH=.ok (S9 bM bN bO) bP/\(KeepT 66 bH bP/\KeepT 27 bH bP/\KeepT 44 bH bP/\True)/\True/\True/\bB false bM bN bO bP))) (R (R9 (.tuple #[.bool true,S9 bn bo bp])) bA)))->
 bx bz bA)->
 (Br (j==2) (∀ bQ,bQ=bv.drew->(Br bu (CP 47 #[(.agg #[S9 b c d,S9 e f g]),N9 i] bQ (fun bS bU=>∃ bV bW bX,∃ bY bZ ca,∃ cb cc cd,∃ ce cf cg,∃ ch ci cj,bS=R9 (.agg #[S9 bV bW bX,S9 bY bZ ca,S9 cb cc cd,S9 ce cf cg,S9 ch ci cj])/\(KeepT 66 bQ bU/\KeepT 27 bQ bU/\KeepT 44 bQ bU/\True)/\((0=0)/\True)/\Cb 46 #[(.agg #[S9 bV bW bX,S9 bY bZ ca,S9 cb cc cd,S9 ce cf cg,S9 ch ci cj]),(.agg #[N9 j,.bool k,N9 l,T9 m,S9 n o p,S9 q r s])] bU (fun ck cl=>(KeepT 66 bU cl/\KeepT 27 bU cl/\KeepT 44 bU cl/\True)/\True/\True/\bx ck cl))) (True/\bx false bQ))) ((Br (j==3) (∀ cm,cm=bv.drew->(Br bu (Ci 49 #[T9 m] cm (fun cn co=>(KeepT 66 cm co/\KeepT 27 cm co/\KeepT 44 cm co/\True)/\((1=1)/\(1=1)/\True)/\Cb 48 #[N9 cn,(.agg #[.bool Y,N9 Z]),(.agg #[.bool aa,N9 ab])] co (fun cp cq=>(KeepT 66 co cq/\KeepT 27 co cq/\KeepT 44 co cq/\True)/\True/\(Br cp (Cb 50 #[T9 m,(.agg #[.bool ac,S9 ad ae af])] cq (fun cr ct=>(KeepT 66 cq ct/\KeepT 27 cq ct/\KeepT 44 cq ct/\True)/\True/\(Br cr (Cb 50 #[T9 m,(.agg #[.bool ag,S9 ah ai aj])] ct (fun cu cv=>(KeepT 66 ct cv/\KeepT 27 ct cv/\KeepT 44 ct cv/\True)/\True/\True/\bx cu cv)) (True/\bx false ct)))) (True/\bx false cq))))) (True/\bx false cm))) ((Br (j==4) (Cb 51 #[N9 a,(.agg #[S9 b c d,S9 e f g]),(.agg #[N9 x,N9 y,S9 z A B,S9 C D E,S9 F G H,N9 I,N9 J,N9 K,N9 L,S9 M N O,.bool P,S9 Q S U,S9 V W X,.bool Y,N9 Z,.bool aa,N9 ab,.bool ac,S9 ad ae af,.bool ag,S9 ah ai aj,.bool ak,N9 al,.bool am,N9 an,.bool ao,N9 ap,.bool aq,N9 ar,.bool au,S9 av ax ay,N9 az,N9 aA,N9 aB,.bool aC,N9 aD,.bool aE,N9 aF,S9 aG aH aI,S9 aJ aK aL,S9 aM aN aO,S9 aP aQ aS,S9 aU aV aW,N9 aX,N9 aY,N9 aZ,N9 ba,N9 bb,.bool bc,S9 bd be bf,N9 bg,N9 bh,S9 bi bj bk]),(.agg #[N9 j,.bool k,N9 l,T9 m,S9 n o p,S9 q r s]),S9 bn bo bp] bv (fun cx cy=>(KeepT 66 bv cy/\KeepT 27 bv cy/\KeepT 44 bv cy/\True)/\(Br cx (bx bu cy) (bx false cy)))) ((Br (j==5) (Cb 52 #[N9 a,(.agg #[S9 b c d,S9 e f g]),(.agg #[N9 x,N9 y,S9 z A B,S9 C D E,S9 F G H,N9 I,N9 J,N9 K,N9 L,S9 M N O,.bool P,S9 Q S U,S9 V W X,.bool Y,N9 Z,.bool aa,N9 ab,.bool ac,S9 ad ae af,.bool ag,S9 ah ai aj,.bool ak,N9 al,.bool am,N9 an,.bool ao,N9 ap,.bool aq,N9 ar,.bool au,S9 av ax ay,N9 az,N9 aA,N9 aB,.bool aC,N9 aD,.bool aE,N9 aF,S9 aG aH aI,S9 aJ aK aL,S9 aM aN aO,S9 aP aQ aS,S9 aU aV aW,N9 aX,N9 aY,N9 aZ,N9 ba,N9 bb,.bool bc,S9 bd be bf,N9 bg,N9 bh,S9 bi bj bk]),(.agg #[N9 j,.bool k,N9 l,T9 m,S9 n o p,S9 q r s]),S9 bn bo bp] bv (fun cz cA=>(KeepT 66 bv cA/\KeepT 27 bv cA/\KeepT 44 bv cA/\True)/\(Br cz (bx bu cA) (bx false cA)))) (bx bu bv)))))))))->
 bt bu bv)->
 Cb 45 #[N9 a,(.agg #[S9 b c d,S9 e f g]),(.agg #[N9 x,N9 y,S9 z A B,S9 C D E,S9 F G H,N9 I,N9 J,N9 K,N9 L,S9 M N O,.bool P,S9 Q S U,S9 V W X,.bool Y,N9 Z,.bool aa,N9 ab,.bool ac,S9 ad ae af,.bool ag,S9 ah ai aj,.bool ak,N9 al,.bool am,N9 an,.bool ao,N9 ap,.bool aq,N9 ar,.bool au,S9 av ax ay,N9 az,N9 aA,N9 aB,.bool aC,N9 aD,.bool aE,N9 aF,S9 aG aH aI,S9 aJ aK aL,S9 aM aN aO,S9 aP aQ aS,S9 aU aV aW,N9 aX,N9 aY,N9 aZ,N9 ba,N9 bb,.bool bc,S9 bd be bf,N9 bg,N9 bh,S9 bi bj bk]),(.agg #[N9 j,.bool k,N9 l,T9 m,S9 n o p,S9 q r s]),S9 bn bo bp] bs (fun cB cC=>(KeepT 66 bs cC/\KeepT 27 bs cC/\KeepT 44 bs cC/\True)/\(Br (!cB) (bt false cC) (bt br cC)))))))))):CP 34 #[N9 a,(.agg #[S9 b c d,S9 e f g]),N9 i,(.agg #[N9 j,.bool k,N9 l,T9 m,S9 n o p,S9 q r s])] w R:=
 vcq Tryz.func34 [5,7,10] [(16,⟨[(12,.bool)],[]⟩),(22,⟨[(12,.bool)],[]⟩),(47,⟨[(8,.bool),(9,.slice)],[]⟩)] [.l (.int .i64 a),.agg [.slice b c d,.slice e f g],.l (.int .i64 i),.agg [.int .i64 j,.bool k,.int .i64 l,.str m,.slice n o p,.slice q r s]] h
theorem C_T (a:Int)(b:Int)(c:OA)(d e:Nat)(f:OA)(g i:Nat)(j:OA)(k l:Nat)(m:Int)(n:Int)(o:Int)(p:Int)(q:OA)(r s:Nat)(t:Bool)(u:OA)(v x:Nat)(y:OA)(z A:Nat)(B:Bool)(C:Int)(D:Bool)(E:Int)(F:Bool)(G:OA)(H I:Nat)(J:Bool)(K:OA)(L M:Nat)(N:Bool)(O:Int)(P:Bool)(Q:Int)(S:Bool)(U:Int)(V:Bool)(W:Int)(X:Bool)(Y:OA)(Z aa:Nat)(ab:Int)(ac:Int)(ad:Int)(ae:Bool)(af:Int)(ag:Bool)(ah:Int)(ai:OA)(aj ak:Nat)(al:OA)(am an:Nat)(ao:OA)(ap aq:Nat)(ar:OA)(au av:Nat)(ax:OA)(ay az:Nat)(aA:Int)(aB:Int)(aC:Int)(aD:Int)(aE:Int)(aF:Bool)(aG:OA)(aH aI:Nat)(aJ:Int)(aK:Int)(aL:OA)(aM aN:Nat)(aO:Int)(aP:Bool)(aQ:Int)(aS:BA)(aU:OA)(aV aW:Nat)(aX:OA)(aY aZ:Nat)(w:World)(R:EW)(h:
 True/\(let ba:=w.alloc (.cells #[N9 a,N9 b,S9 c d e,S9 f g i,S9 j k l,N9 m,N9 n,N9 o,N9 p,S9 q r s,.bool t,S9 u v x,S9 y z A,.bool B,N9 C,.bool D,N9 E,.bool F,S9 G H I,.bool J,S9 K L M,.bool N,N9 O,.bool P,N9 Q,.bool S,N9 U,.bool V,N9 W,.bool X,S9 Y Z aa,N9 ab,N9 ac,N9 ad,.bool ae,N9 af,.bool ag,N9 ah,S9 ai aj ak,S9 al am an,S9 ao ap aq,S9 ar au av,S9 ax ay az,N9 aA,N9 aB,N9 aC,N9 aD,N9 aE,.bool aF,S9 aG aH aI,N9 aJ,N9 aK,S9 aL aM aN] 44);
 True/\(let bb:=ba.alloc (.cells #[N9 aO,.bool aP,N9 aQ,T9 aS,S9 aU aV aW,S9 aX aY aZ] 27);
 ∀ bc:Bool->World->Prop,(∀ bd:Bool,∀ be:World,
 (R (R9 (.bool bd)) be)->
 bc bd be)->
 ∀ bf,bf=bb.drew->(Br ((r:Int)==0) ((Br (!t) ((Br ((z:Int)==0) (True/\bc true bf) (Ix y 0 z fun bg=>L_ibisll bf (bg.add ((0:Int).toNat*6)) fun bh bi bj bk bl bm bn bo bp bq=>Cb 70 #[(.agg #[N9 aO,.bool aP,N9 aQ,T9 aS,S9 aU aV aW,S9 aX aY aZ]),(.agg #[N9 bh,.bool bi,N9 bj,T9 bk,S9 bl bm bn,S9 bo bp bq])] bf (fun br bs=>(KeepT 44 bf bs/\KeepT 27 bf bs/\True)/\True/\True/\bc br bs)))) (Cb 69 #[(.agg #[N9 aO,.bool aP,N9 aQ,T9 aS,S9 aU aV aW,S9 aX aY aZ]),S9 u v x] bf (fun bt bu=>(KeepT 44 bf bu/\KeepT 27 bf bu/\True)/\True/\(Br bt ((Br ((z:Int)==0) (True/\bc true bu) (Ix y 0 z fun bv=>L_ibisll bu (bv.add ((0:Int).toNat*6)) fun bx bz bA bB bC bD bE bF bG bH=>Cb 70 #[(.agg #[N9 aO,.bool aP,N9 aQ,T9 aS,S9 aU aV aW,S9 aX aY aZ]),(.agg #[N9 bx,.bool bz,N9 bA,T9 bB,S9 bC bD bE,S9 bF bG bH])] bu (fun bI bJ=>(KeepT 44 bu bJ/\KeepT 27 bu bJ/\True)/\True/\True/\bc bI bJ)))) (True/\bc false bu)))))) (Cb 68 #[(.agg #[N9 aO,.bool aP,N9 aQ,T9 aS,S9 aU aV aW,S9 aX aY aZ]),S9 q r s] bf (fun bK bL=>(KeepT 44 bf bL/\KeepT 27 bf bL/\True)/\True/\(Br bK ((Br (!t) ((Br ((z:Int)==0) (True/\bc true bL) (Ix y 0 z fun bM=>L_ibisll bL (bM.add ((0:Int).toNat*6)) fun bN bO bP bQ bS bU bV bW bX bY=>Cb 70 #[(.agg #[N9 aO,.bool aP,N9 aQ,T9 aS,S9 aU aV aW,S9 aX aY aZ]),(.agg #[N9 bN,.bool bO,N9 bP,T9 bQ,S9 bS bU bV,S9 bW bX bY])] bL (fun bZ ca=>(KeepT 44 bL ca/\KeepT 27 bL ca/\True)/\True/\True/\bc bZ ca)))) (Cb 69 #[(.agg #[N9 aO,.bool aP,N9 aQ,T9 aS,S9 aU aV aW,S9 aX aY aZ]),S9 u v x] bL (fun cb cc=>(KeepT 44 bL cc/\KeepT 27 bL cc/\True)/\True/\(Br cb ((Br ((z:Int)==0) (True/\bc true cc) (Ix y 0 z fun cd=>L_ibisll cc (cd.add ((0:Int).toNat*6)) fun ce cf cg ch ci cj ck cl cm cn=>Cb 70 #[(.agg #[N9 aO,.bool aP,N9 aQ,T9 aS,S9 aU aV aW,S9 aX aY aZ]),(.agg #[N9 ce,.bool cf,N9 cg,T9 ch,S9 ci cj ck,S9 cl cm cn])] cc (fun co cp=>(KeepT 44 cc cp/\KeepT 27 cc cp/\True)/\True/\True/\bc co cp)))) (True/\bc false cc)))))) (True/\bc false bL)))))))):CP 44 #[(.agg #[N9 a,N9 b,S9 c d e,S9 f g i,S9 j k l,N9 m,N9 n,N9 o,N9 p,S9 q r s,.bool t,S9 u v x,S9 y z A,.bool B,N9 C,.bool D,N9 E,.bool F,S9 G H I,.bool J,S9 K L M,.bool N,N9 O,.bool P,N9 Q,.bool S,N9 U,.bool V,N9 W,.bool X,S9 Y Z aa,N9 ab,N9 ac,N9 ad,.bool ae,N9 af,.bool ag,N9 ah,S9 ai aj ak,S9 al am an,S9 ao ap aq,S9 ar au av,S9 ax ay az,N9 aA,N9 aB,N9 aC,N9 aD,N9 aE,.bool aF,S9 aG aH aI,N9 aJ,N9 aK,S9 aL aM aN]),(.agg #[N9 aO,.bool aP,N9 aQ,T9 aS,S9 aU aV aW,S9 aX aY aZ])] w R:=
 vcq Tryz.func44 [2,3] [(2,⟨[(4,.bool)],[]⟩)] [.agg [.int .i64 a,.int .i64 b,.slice c d e,.slice f g i,.slice j k l,.int .i64 m,.int .i64 n,.int .i64 o,.int .i64 p,.slice q r s,.bool t,.slice u v x,.slice y z A,.bool B,.int .i64 C,.bool D,.int .i64 E,.bool F,.slice G H I,.bool J,.slice K L M,.bool N,.int .i64 O,.bool P,.int .i64 Q,.bool S,.int .i64 U,.bool V,.int .i64 W,.bool X,.slice Y Z aa,.int .i64 ab,.int .i64 ac,.int .i64 ad,.bool ae,.int .i64 af,.bool ag,.int .i64 ah,.slice ai aj ak,.slice al am an,.slice ao ap aq,.slice ar au av,.slice ax ay az,.int .i64 aA,.int .i64 aB,.int .i64 aC,.int .i64 aD,.int .i64 aE,.bool aF,.slice aG aH aI,.int .i64 aJ,.int .i64 aK,.slice aL aM aN],.agg [.int .i64 aO,.bool aP,.int .i64 aQ,.str aS,.slice aU aV aW,.slice aX aY aZ]] h
theorem B_9 (a:Int)(b:OA)(c d:Nat)(e:OA)(f g:Nat)(i:Int)(j:Int)(k:OA)(l m:Nat)(n:OA)(o p:Nat)(q:OA)(r s:Nat)(t:Int)(u:Int)(v:Int)(x:Int)(y:OA)(z A:Nat)(B:Bool)(C:OA)(D E:Nat)(F:OA)(G H:Nat)(I:Bool)(J:Int)(K:Bool)(L:Int)(M:Bool)(N:OA)(O P:Nat)(Q:Bool)(S:OA)(U V:Nat)(W:Bool)(X:Int)(Y:Bool)(Z:Int)(aa:Bool)(ab:Int)(ac:Bool)(ad:Int)(ae:Bool)(af:OA)(ag ah:Nat)(ai:Int)(aj:Int)(ak:Int)(al:Bool)(am:Int)(an:Bool)(ao:Int)(ap:OA)(aq ar:Nat)(au:OA)(av ax:Nat)(ay:OA)(az aA:Nat)(aB:OA)(aC aD:Nat)(aE:OA)(aF aG:Nat)(aH:Int)(aI:Int)(aJ:Int)(aK:Int)(aL:Int)(aM:Bool)(aN:OA)(aO aP:Nat)(aQ:Int)(aS:Int)(aU:OA)(aV aW:Nat)(aX:Int)(aY:Bool)(aZ:Int)(ba:BA)(bb:OA)(bc bd:Nat)(be:OA)(bf bg:Nat)(bh:OA)(bi bj:Nat)(w:World)(R:EW)(h:
 True/\(let bk:=w.alloc (.cells #[S9 b c d,S9 e f g] 66);
 True/\(let bl:=bk.alloc (.cells #[N9 i,N9 j,S9 k l m,S9 n o p,S9 q r s,N9 t,N9 u,N9 v,N9 x,S9 y z A,.bool B,S9 C D E,S9 F G H,.bool I,N9 J,.bool K,N9 L,.bool M,S9 N O P,.bool Q,S9 S U V,.bool W,N9 X,.bool Y,N9 Z,.bool aa,N9 ab,.bool ac,N9 ad,.bool ae,S9 af ag ah,N9 ai,N9 aj,N9 ak,.bool al,N9 am,.bool an,N9 ao,S9 ap aq ar,S9 au av ax,S9 ay az aA,S9 aB aC aD,S9 aE aF aG,N9 aH,N9 aI,N9 aJ,N9 aK,N9 aL,.bool aM,S9 aN aO aP,N9 aQ,N9 aS,S9 aU aV aW] 44);
 True/\(let bm:=bl.alloc (.cells #[N9 aX,.bool aY,N9 aZ,T9 ba,S9 bb bc bd,S9 be bf bg] 27);
 ∀ bn:Bool->World->Prop,(∀ bo:Bool,∀ bp:World,
 (∀ bq:Bool->World->Prop,(∀ br:Bool,∀ bs:World,
 (∀ bt:Bool->World->Prop,(∀ bu:Bool,∀ bv:World,
 (∀ bx:Bool->World->Prop,(∀ bz:Bool,∀ bA:World,
 (∀ bB:Bool->World->Prop,(∀ bC:Bool,∀ bD:World,
 (∀ bE:Bool->World->Prop,(∀ bF:Bool,∀ bG:World,
 (∃ (bH:Bool->Int->World->Prop) (bI:Bool->Int->World->Nat),bH bF 0 bG/\
 (∀ bJ:Bool,∀ bK:Int,∀ bL:World,bH bJ bK bL->
 ∀ bM:Bool->World->Prop,(∀ bN:Bool,∀ bO:World,
 ((Br bN (∀ bP:Bool->World->Prop,(∀ bQ:Bool,∀ bS:World,
 ((bH bQ (wr (bK+1)) bS/\bI bQ (wr (bK+1)) bS<bI bJ bK bL))->
 bP bQ bS)->
 ∀ bU:Bool->World->Prop,(∀ bV:Bool,∀ bW:World,
 ((Br bV (bP bJ bW) (∀ bX,bX=bW.drew->Ix ay bK az fun bY=>Li bX ((bY.add (bK.toNat*2)).add 1) fun bZ=>CP 34 #[N9 a,(.agg #[S9 b c d,S9 e f g]),N9 bZ,(.agg #[N9 aX,.bool aY,N9 aZ,T9 ba,S9 bb bc bd,S9 be bf bg])] bX (fun ca cb=>∃ cc,∃ cd ce cf,ca=R9 (.tuple #[.bool cc,S9 cd ce cf])/\(KeepT 66 bX cb/\KeepT 44 bX cb/\KeepT 27 bX cb/\True)/\True/\True/\True/\C0 71 #[S9 bh bi bj,S9 cd ce cf] cb (fun cg=>(KeepT 66 cb cg/\KeepT 44 cb cg/\KeepT 27 cb cg/\True)/\(Br bJ (bP cc cg) (bP false cg)))))))->
 bU bV bW)->
 ∀ ch,ch=bO.drew->Ix ay bK az fun ci=>Ls ch (ci.add (bK.toNat*2)) fun cj=>Ci 74 #[(.agg #[N9 aX,.bool aY,N9 aZ,T9 ba,S9 bb bc bd,S9 be bf bg]),T9 cj] ch (fun ck cl=>(KeepT 66 ch cl/\KeepT 44 ch cl/\KeepT 27 ch cl/\True)/\True/\(Br (decide (ck<0)) (bU true cl) (Cb 75 #[S9 ay az aA,N9 bK] cl (fun cm cn=>(KeepT 66 cl cn/\KeepT 44 cl cn/\KeepT 27 cl cn/\True)/\True/\bU cm cn))))) (∀ co:Bool->World->Prop,(∀ cp:Bool,∀ cq:World,
 (R (R9 (.bool cp)) cq)->
 co cp cq)->
 Cb 76 #[N9 a,(.agg #[S9 b c d,S9 e f g]),(.agg #[N9 i,N9 j,S9 k l m,S9 n o p,S9 q r s,N9 t,N9 u,N9 v,N9 x,S9 y z A,.bool B,S9 C D E,S9 F G H,.bool I,N9 J,.bool K,N9 L,.bool M,S9 N O P,.bool Q,S9 S U V,.bool W,N9 X,.bool Y,N9 Z,.bool aa,N9 ab,.bool ac,N9 ad,.bool ae,S9 af ag ah,N9 ai,N9 aj,N9 ak,.bool al,N9 am,.bool an,N9 ao,S9 ap aq ar,S9 au av ax,S9 ay az aA,S9 aB aC aD,S9 aE aF aG,N9 aH,N9 aI,N9 aJ,N9 aK,N9 aL,.bool aM,S9 aN aO aP,N9 aQ,N9 aS,S9 aU aV aW]),(.agg #[N9 aX,.bool aY,N9 aZ,T9 ba,S9 bb bc bd,S9 be bf bg]),S9 bh bi bj] bO (fun cr ct=>(KeepT 66 bO ct/\KeepT 44 bO ct/\KeepT 27 bO ct/\True)/\(Br cr (co bJ ct) (co false ct))))))->
 bM bN bO)->
 (Br (decide (bK<(az:Int))) (bM (aX==5) bL) (bM false bL))))->
 bE bF bG)->
 (Br (decide (u>0)) (Cb 73 #[N9 a,(.agg #[S9 b c d,S9 e f g]),(.agg #[N9 i,N9 j,S9 k l m,S9 n o p,S9 q r s,N9 t,N9 u,N9 v,N9 x,S9 y z A,.bool B,S9 C D E,S9 F G H,.bool I,N9 J,.bool K,N9 L,.bool M,S9 N O P,.bool Q,S9 S U V,.bool W,N9 X,.bool Y,N9 Z,.bool aa,N9 ab,.bool ac,N9 ad,.bool ae,S9 af ag ah,N9 ai,N9 aj,N9 ak,.bool al,N9 am,.bool an,N9 ao,S9 ap aq ar,S9 au av ax,S9 ay az aA,S9 aB aC aD,S9 aE aF aG,N9 aH,N9 aI,N9 aJ,N9 aK,N9 aL,.bool aM,S9 aN aO aP,N9 aQ,N9 aS,S9 aU aV aW]),(.agg #[N9 aX,.bool aY,N9 aZ,T9 ba,S9 bb bc bd,S9 be bf bg]),S9 bh bi bj] bD (fun cu cv=>(KeepT 66 bD cv/\KeepT 44 bD cv/\KeepT 27 bD cv/\True)/\(Br cu (bE bC cv) (bE false cv)))) (bE bC bD)))->
 bB bC bD)->
 (Br (decide (t>0)) (CP 34 #[N9 a,(.agg #[S9 b c d,S9 e f g]),N9 t,(.agg #[N9 aX,.bool aY,N9 aZ,T9 ba,S9 bb bc bd,S9 be bf bg])] bA (fun cx cy=>∃ cz,∃ cA cB cC,cx=R9 (.tuple #[.bool cz,S9 cA cB cC])/\(KeepT 66 bA cy/\KeepT 44 bA cy/\KeepT 27 bA cy/\True)/\(Br bz (bB (!cz) cy) (bB false cy)))) (bB bz bA)))->
 bx bz bA)->
 Ci 72 #[N9 a,(.agg #[S9 b c d,S9 e f g]),S9 q r s,(.agg #[N9 aX,.bool aY,N9 aZ,T9 ba,S9 bb bc bd,S9 be bf bg]),S9 bh bi bj] bv (fun cD cE=>(KeepT 66 bv cE/\KeepT 44 bv cE/\KeepT 27 bv cE/\True)/\∀ cF:Bool->World->Prop,(∀ cG:Bool,∀ cH:World,
 ((Br cG (bx false cH) (bx bu cH)))->
 cF cG cH)->
 (Br (cD !=1) (cF (decide ((r:Int)>0)) cE) (cF false cE))))->
 bt bu bv)->
 Ci 72 #[N9 a,(.agg #[S9 b c d,S9 e f g]),S9 n o p,(.agg #[N9 aX,.bool aY,N9 aZ,T9 ba,S9 bb bc bd,S9 be bf bg]),S9 bh bi bj] bs (fun cI cJ=>(KeepT 66 bs cJ/\KeepT 44 bs cJ/\KeepT 27 bs cJ/\True)/\∀ cK:Bool->World->Prop,(∀ cL:Bool,∀ cM:World,
 ((Br cL (bt false cM) (bt br cM)))->
 cK cL cM)->
 (Br (decide (cI<1)) (cK (decide ((o:Int)>0)) cJ) (cK false cJ))))->
 bq br bs)->
 Ci 72 #[N9 a,(.agg #[S9 b c d,S9 e f g]),S9 k l m,(.agg #[N9 aX,.bool aY,N9 aZ,T9 ba,S9 bb bc bd,S9 be bf bg]),S9 bh bi bj] bp (fun cN cO=>(KeepT 66 bp cO/\KeepT 44 bp cO/\KeepT 27 bp cO/\True)/\(Br (decide (cN<(l:Int))) (bq false cO) (bq bo cO))))->
 bn bo bp)->
 (Br (decide (j>0)) (CP 34 #[N9 a,(.agg #[S9 b c d,S9 e f g]),N9 j,(.agg #[N9 aX,.bool aY,N9 aZ,T9 ba,S9 bb bc bd,S9 be bf bg])] bm (fun cP cQ=>∃ cS,∃ cU cV cW,cP=R9 (.tuple #[.bool cS,S9 cU cV cW])/\(KeepT 66 bm cQ/\KeepT 44 bm cQ/\KeepT 27 bm cQ/\True)/\C0 71 #[S9 bh bi bj,S9 cU cV cW] cQ (fun cX=>(KeepT 66 cQ cX/\KeepT 44 cQ cX/\KeepT 27 cQ cX/\True)/\bn cS cX))) (bn true bm)))))):CP 45 #[N9 a,(.agg #[S9 b c d,S9 e f g]),(.agg #[N9 i,N9 j,S9 k l m,S9 n o p,S9 q r s,N9 t,N9 u,N9 v,N9 x,S9 y z A,.bool B,S9 C D E,S9 F G H,.bool I,N9 J,.bool K,N9 L,.bool M,S9 N O P,.bool Q,S9 S U V,.bool W,N9 X,.bool Y,N9 Z,.bool aa,N9 ab,.bool ac,N9 ad,.bool ae,S9 af ag ah,N9 ai,N9 aj,N9 ak,.bool al,N9 am,.bool an,N9 ao,S9 ap aq ar,S9 au av ax,S9 ay az aA,S9 aB aC aD,S9 aE aF aG,N9 aH,N9 aI,N9 aJ,N9 aK,N9 aL,.bool aM,S9 aN aO aP,N9 aQ,N9 aS,S9 aU aV aW]),(.agg #[N9 aX,.bool aY,N9 aZ,T9 ba,S9 bb bc bd,S9 be bf bg]),S9 bh bi bj] w R:=
 vcq Tryz.func45 [6,7,8] [(4,⟨[(11,.bool)],[]⟩),(14,⟨[(11,.bool)],[]⟩),(22,⟨[(11,.bool)],[]⟩),(25,⟨[(64,.bool)],[]⟩),(30,⟨[(11,.bool)],[]⟩),(33,⟨[(79,.bool)],[]⟩),(38,⟨[(11,.bool)],[]⟩),(46,⟨[(11,.bool)],[]⟩),(56,⟨[(11,.bool),(19,.int .i64)],[]⟩),(58,⟨[(118,.bool)],[]⟩),(63,⟨[(11,.bool)],[]⟩),(66,⟨[(135,.bool)],[]⟩),(77,⟨[(10,.bool)],[]⟩)] [.l (.int .i64 a),.agg [.slice b c d,.slice e f g],.agg [.int .i64 i,.int .i64 j,.slice k l m,.slice n o p,.slice q r s,.int .i64 t,.int .i64 u,.int .i64 v,.int .i64 x,.slice y z A,.bool B,.slice C D E,.slice F G H,.bool I,.int .i64 J,.bool K,.int .i64 L,.bool M,.slice N O P,.bool Q,.slice S U V,.bool W,.int .i64 X,.bool Y,.int .i64 Z,.bool aa,.int .i64 ab,.bool ac,.int .i64 ad,.bool ae,.slice af ag ah,.int .i64 ai,.int .i64 aj,.int .i64 ak,.bool al,.int .i64 am,.bool an,.int .i64 ao,.slice ap aq ar,.slice au av ax,.slice ay az aA,.slice aB aC aD,.slice aE aF aG,.int .i64 aH,.int .i64 aI,.int .i64 aJ,.int .i64 aK,.int .i64 aL,.bool aM,.slice aN aO aP,.int .i64 aQ,.int .i64 aS,.slice aU aV aW],.agg [.int .i64 aX,.bool aY,.int .i64 aZ,.str ba,.slice bb bc bd,.slice be bf bg],.l (.slice bh bi bj)] h
theorem C_a (a:Int)(b:OA)(c d:Nat)(e:OA)(f g:Nat)(i:OA)(j k:Nat)(l:Int)(m:Bool)(n:Int)(o:BA)(p:OA)(q r:Nat)(s:OA)(t u:Nat)(v:OA)(x y:Nat)(w:World)(R:EW)(h:
 True/\(let z:=w.alloc (.cells #[S9 b c d,S9 e f g] 66);
 True/\(let A:=z.alloc (.cells #[N9 l,.bool m,N9 n,T9 o,S9 p q r,S9 s t u] 27);
 ∃ (B:Int->Int->World->Prop) (C:Int->Int->World->Nat),B 0 0 A/\
 (∀ D:Int,∀ E:Int,∀ F:World,B D E F->
 (Br (decide (E<(j:Int))) (∀ G:Int->World->Prop,(∀ H:Int,∀ I:World,
 ((B H (wr (E+1)) I/\C H (wr (E+1)) I<C D E F))->
 G H I)->
 ∀ J,J=F.drew->Ix i E j fun K=>Li J (K.add (E.toNat*1)) fun L=>CP 34 #[N9 a,(.agg #[S9 b c d,S9 e f g]),N9 L,(.agg #[N9 l,.bool m,N9 n,T9 o,S9 p q r,S9 s t u])] J (fun M N=>∃ O,∃ P Q S,M=R9 (.tuple #[.bool O,S9 P Q S])/\(KeepT 66 J N/\KeepT 27 J N/\True)/\True/\True/\True/\C0 71 #[S9 v x y,S9 P Q S] N (fun U=>(KeepT 66 N U/\KeepT 27 N U/\True)/\(Br O (G (wr (D+1)) U) (G D U))))) (R (R9 (N9 D)) F)))))):CP 72 #[N9 a,(.agg #[S9 b c d,S9 e f g]),S9 i j k,(.agg #[N9 l,.bool m,N9 n,T9 o,S9 p q r,S9 s t u]),S9 v x y] w R:=
 vcq Tryz.func72 [6,8] [(8,⟨[(11,.int .i64),(12,.int .i64)],[]⟩),(15,⟨[(11,.int .i64)],[]⟩)] [.l (.int .i64 a),.agg [.slice b c d,.slice e f g],.l (.slice i j k),.agg [.int .i64 l,.bool m,.int .i64 n,.str o,.slice p q r,.slice s t u],.l (.slice v x y)] h
theorem z_P (a:Int)(b:OA)(c d:Nat)(e:OA)(f g:Nat)(i:Int)(j:Int)(k:OA)(l m:Nat)(n:OA)(o p:Nat)(q:OA)(r s:Nat)(t:Int)(u:Int)(v:Int)(x:Int)(y:OA)(z A:Nat)(B:Bool)(C:OA)(D E:Nat)(F:OA)(G H:Nat)(I:Bool)(J:Int)(K:Bool)(L:Int)(M:Bool)(N:OA)(O P:Nat)(Q:Bool)(S:OA)(U V:Nat)(W:Bool)(X:Int)(Y:Bool)(Z:Int)(aa:Bool)(ab:Int)(ac:Bool)(ad:Int)(ae:Bool)(af:OA)(ag ah:Nat)(ai:Int)(aj:Int)(ak:Int)(al:Bool)(am:Int)(an:Bool)(ao:Int)(ap:OA)(aq ar:Nat)(au:OA)(av ax:Nat)(ay:OA)(az aA:Nat)(aB:OA)(aC aD:Nat)(aE:OA)(aF aG:Nat)(aH:Int)(aI:Int)(aJ:Int)(aK:Int)(aL:Int)(aM:Bool)(aN:OA)(aO aP:Nat)(aQ:Int)(aS:Int)(aU:OA)(aV aW:Nat)(aX:Int)(aY:Bool)(aZ:Int)(ba:BA)(bb:OA)(bc bd:Nat)(be:OA)(bf bg:Nat)(bh:OA)(bi bj:Nat)(w:World)(R:EW)(h:
 True/\(let bk:=w.alloc (.cells #[S9 b c d,S9 e f g] 66);
 True/\(let bl:=bk.alloc (.cells #[N9 i,N9 j,S9 k l m,S9 n o p,S9 q r s,N9 t,N9 u,N9 v,N9 x,S9 y z A,.bool B,S9 C D E,S9 F G H,.bool I,N9 J,.bool K,N9 L,.bool M,S9 N O P,.bool Q,S9 S U V,.bool W,N9 X,.bool Y,N9 Z,.bool aa,N9 ab,.bool ac,N9 ad,.bool ae,S9 af ag ah,N9 ai,N9 aj,N9 ak,.bool al,N9 am,.bool an,N9 ao,S9 ap aq ar,S9 au av ax,S9 ay az aA,S9 aB aC aD,S9 aE aF aG,N9 aH,N9 aI,N9 aJ,N9 aK,N9 aL,.bool aM,S9 aN aO aP,N9 aQ,N9 aS,S9 aU aV aW] 44);
 True/\(let bm:=bl.alloc (.cells #[N9 aX,.bool aY,N9 aZ,T9 ba,S9 bb bc bd,S9 be bf bg] 27);
 CP 34 #[N9 a,(.agg #[S9 b c d,S9 e f g]),N9 u,(.agg #[N9 aX,.bool aY,N9 aZ,T9 ba,S9 bb bc bd,S9 be bf bg])] bm (fun bn bo=>∃ bp,∃ bq br bs,bn=R9 (.tuple #[.bool bp,S9 bq br bs])/\(KeepT 66 bm bo/\KeepT 44 bm bo/\KeepT 27 bm bo/\True)/\C0 71 #[S9 bh bi bj,S9 bq br bs] bo (fun bt=>(KeepT 66 bo bt/\KeepT 44 bo bt/\KeepT 27 bo bt/\True)/\∀ bu:Int->World->Prop,(∀ bv:Int,∀ bx:World,
 ((Br (bv==0) (R (R9 (.bool true)) bx) (CP 34 #[N9 a,(.agg #[S9 b c d,S9 e f g]),N9 bv,(.agg #[N9 aX,.bool aY,N9 aZ,T9 ba,S9 bb bc bd,S9 be bf bg])] bx (fun bz bA=>∃ bB,∃ bC bD bE,bz=R9 (.tuple #[.bool bB,S9 bC bD bE])/\(KeepT 66 bx bA/\KeepT 44 bx bA/\KeepT 27 bx bA/\True)/\C0 71 #[S9 bh bi bj,S9 bC bD bE] bA (fun bF=>(KeepT 66 bA bF/\KeepT 44 bA bF/\KeepT 27 bA bF/\True)/\R (R9 (.bool bB)) bF)))))->
 bu bv bx)->
 (Br bp (bu v bt) (bu x bt)))))))):CP 73 #[N9 a,(.agg #[S9 b c d,S9 e f g]),(.agg #[N9 i,N9 j,S9 k l m,S9 n o p,S9 q r s,N9 t,N9 u,N9 v,N9 x,S9 y z A,.bool B,S9 C D E,S9 F G H,.bool I,N9 J,.bool K,N9 L,.bool M,S9 N O P,.bool Q,S9 S U V,.bool W,N9 X,.bool Y,N9 Z,.bool aa,N9 ab,.bool ac,N9 ad,.bool ae,S9 af ag ah,N9 ai,N9 aj,N9 ak,.bool al,N9 am,.bool an,N9 ao,S9 ap aq ar,S9 au av ax,S9 ay az aA,S9 aB aC aD,S9 aE aF aG,N9 aH,N9 aI,N9 aJ,N9 aK,N9 aL,.bool aM,S9 aN aO aP,N9 aQ,N9 aS,S9 aU aV aW]),(.agg #[N9 aX,.bool aY,N9 aZ,T9 ba,S9 bb bc bd,S9 be bf bg]),S9 bh bi bj] w R:=
 vcq Tryz.func73 [6,7,8] [(8,⟨[(13,.int .i64)],[]⟩)] [.l (.int .i64 a),.agg [.slice b c d,.slice e f g],.agg [.int .i64 i,.int .i64 j,.slice k l m,.slice n o p,.slice q r s,.int .i64 t,.int .i64 u,.int .i64 v,.int .i64 x,.slice y z A,.bool B,.slice C D E,.slice F G H,.bool I,.int .i64 J,.bool K,.int .i64 L,.bool M,.slice N O P,.bool Q,.slice S U V,.bool W,.int .i64 X,.bool Y,.int .i64 Z,.bool aa,.int .i64 ab,.bool ac,.int .i64 ad,.bool ae,.slice af ag ah,.int .i64 ai,.int .i64 aj,.int .i64 ak,.bool al,.int .i64 am,.bool an,.int .i64 ao,.slice ap aq ar,.slice au av ax,.slice ay az aA,.slice aB aC aD,.slice aE aF aG,.int .i64 aH,.int .i64 aI,.int .i64 aJ,.int .i64 aK,.int .i64 aL,.bool aM,.slice aN aO aP,.int .i64 aQ,.int .i64 aS,.slice aU aV aW],.agg [.int .i64 aX,.bool aY,.int .i64 aZ,.str ba,.slice bb bc bd,.slice be bf bg],.l (.slice bh bi bj)] h
theorem B_7 (a:Int)(b:OA)(c d:Nat)(e:OA)(f g:Nat)(i:Int)(j:Int)(k:OA)(l m:Nat)(n:OA)(o p:Nat)(q:OA)(r s:Nat)(t:Int)(u:Int)(v:Int)(x:Int)(y:OA)(z A:Nat)(B:Bool)(C:OA)(D E:Nat)(F:OA)(G H:Nat)(I:Bool)(J:Int)(K:Bool)(L:Int)(M:Bool)(N:OA)(O P:Nat)(Q:Bool)(S:OA)(U V:Nat)(W:Bool)(X:Int)(Y:Bool)(Z:Int)(aa:Bool)(ab:Int)(ac:Bool)(ad:Int)(ae:Bool)(af:OA)(ag ah:Nat)(ai:Int)(aj:Int)(ak:Int)(al:Bool)(am:Int)(an:Bool)(ao:Int)(ap:OA)(aq ar:Nat)(au:OA)(av ax:Nat)(ay:OA)(az aA:Nat)(aB:OA)(aC aD:Nat)(aE:OA)(aF aG:Nat)(aH:Int)(aI:Int)(aJ:Int)(aK:Int)(aL:Int)(aM:Bool)(aN:OA)(aO aP:Nat)(aQ:Int)(aS:Int)(aU:OA)(aV aW:Nat)(aX:Int)(aY:Bool)(aZ:Int)(ba:BA)(bb:OA)(bc bd:Nat)(be:OA)(bf bg:Nat)(bh:OA)(bi bj:Nat)(w:World)(R:EW)(h:
 True/\(let bk:=w.alloc (.cells #[S9 b c d,S9 e f g] 66);
 True/\(let bl:=bk.alloc (.cells #[N9 i,N9 j,S9 k l m,S9 n o p,S9 q r s,N9 t,N9 u,N9 v,N9 x,S9 y z A,.bool B,S9 C D E,S9 F G H,.bool I,N9 J,.bool K,N9 L,.bool M,S9 N O P,.bool Q,S9 S U V,.bool W,N9 X,.bool Y,N9 Z,.bool aa,N9 ab,.bool ac,N9 ad,.bool ae,S9 af ag ah,N9 ai,N9 aj,N9 ak,.bool al,N9 am,.bool an,N9 ao,S9 ap aq ar,S9 au av ax,S9 ay az aA,S9 aB aC aD,S9 aE aF aG,N9 aH,N9 aI,N9 aJ,N9 aK,N9 aL,.bool aM,S9 aN aO aP,N9 aQ,N9 aS,S9 aU aV aW] 44);
 True/\(let bm:=bl.alloc (.cells #[N9 aX,.bool aY,N9 aZ,T9 ba,S9 bb bc bd,S9 be bf bg] 27);
 ∃ (bn:Bool->Int->World->Prop) (bo:Bool->Int->World->Nat),bn true 0 bm/\
 (∀ bp:Bool,∀ bq:Int,∀ br:World,bn bp bq br->
 ∀ bs:Bool->World->Prop,(∀ bt:Bool,∀ bu:World,
 ((Br bt (∀ bv:Bool->World->Prop,(∀ bx:Bool,∀ bz:World,
 ((bn bx (wr (bq+1)) bz/\bo bx (wr (bq+1)) bz<bo bp bq br))->
 bv bx bz)->
 ∀ bA,bA=bu.drew->Ix aU bq aV fun bB=>Ls bA (bB.add (bq.toNat*3)) fun bC=>Ci 74 #[(.agg #[N9 aX,.bool aY,N9 aZ,T9 ba,S9 bb bc bd,S9 be bf bg]),T9 bC] bA (fun bD bE=>(KeepT 66 bA bE/\KeepT 44 bA bE/\KeepT 27 bA bE/\True)/\True/\True/\∃ (bF:Bool->Int->World->Prop) (bG:Bool->Int->World->Nat),bF (decide (bD>=0)) (wr (bq+1)) bE/\
 (∀ bH:Bool,∀ bI:Int,∀ bJ:World,bF bH bI bJ->
 (Br (decide (bI<(aV:Int))) (∀ bK:Bool->World->Prop,(∀ bL:Bool,∀ bM:World,
 ((bF bL (wr (bI+1)) bM/\bG bL (wr (bI+1)) bM<bG bH bI bJ))->
 bK bL bM)->
 ∀ bN,bN=bJ.drew->(Br bH (Ix aU bI aV fun bO=>Ls bN (bO.add (bI.toNat*3)) fun bP=>Ix aU bq aV fun bQ=>Ls bN (bQ.add (bq.toNat*3)) fun bS=>True/\bK (!(bP.toList==bS.toList)) bN) (True/\bK false bN))) ((Br (!bH) (bv bp bJ) (Ix aU bq aV fun bU=>Li bJ ((bU.add (bq.toNat*3)).add 2) fun bV=>(Br (bV==0) (∀ bW:Bool->World->Prop,(∀ bX:Bool,∀ bY:World,
 (bv bX bY)->
 bW bX bY)->
 ∀ bZ,bZ=bJ.drew->(Br bp (Ix aU bq aV fun ca=>Ll bZ ((ca.add (bq.toNat*3)).add 1) fun cb cc cd=>Cb 106 #[(.agg #[N9 aX,.bool aY,N9 aZ,T9 ba,S9 bb bc bd,S9 be bf bg]),S9 cb cc cd] bZ (fun ce cf=>(KeepT 66 bZ cf/\KeepT 44 bZ cf/\KeepT 27 bZ cf/\True)/\True/\True/\bW ce cf)) (True/\bW false bZ))) (∀ cg,cg=bJ.drew->Ix aU bq aV fun ch=>Li cg ((ch.add (bq.toNat*3)).add 2) fun ci=>CP 34 #[N9 a,(.agg #[S9 b c d,S9 e f g]),N9 ci,(.agg #[N9 aX,.bool aY,N9 aZ,T9 ba,S9 bb bc bd,S9 be bf bg])] cg (fun cj ck=>∃ cl,∃ cm cn co,cj=R9 (.tuple #[.bool cl,S9 cm cn co])/\(KeepT 66 cg ck/\KeepT 44 cg ck/\KeepT 27 cg ck/\True)/\True/\True/\True/\C0 71 #[S9 bh bi bj,S9 cm cn co] ck (fun cp=>(KeepT 66 ck cp/\KeepT 44 ck cp/\KeepT 27 ck cp/\True)/\(Br bp (bv cl cp) (bv false cp))))))))))))) (R (R9 (.bool bp)) bu)))->
 bs bt bu)->
 (Br (decide (bq<(aV:Int))) (bs (aX==5) br) (bs false br))))))):CP 76 #[N9 a,(.agg #[S9 b c d,S9 e f g]),(.agg #[N9 i,N9 j,S9 k l m,S9 n o p,S9 q r s,N9 t,N9 u,N9 v,N9 x,S9 y z A,.bool B,S9 C D E,S9 F G H,.bool I,N9 J,.bool K,N9 L,.bool M,S9 N O P,.bool Q,S9 S U V,.bool W,N9 X,.bool Y,N9 Z,.bool aa,N9 ab,.bool ac,N9 ad,.bool ae,S9 af ag ah,N9 ai,N9 aj,N9 ak,.bool al,N9 am,.bool an,N9 ao,S9 ap aq ar,S9 au av ax,S9 ay az aA,S9 aB aC aD,S9 aE aF aG,N9 aH,N9 aI,N9 aJ,N9 aK,N9 aL,.bool aM,S9 aN aO aP,N9 aQ,N9 aS,S9 aU aV aW]),(.agg #[N9 aX,.bool aY,N9 aZ,T9 ba,S9 bb bc bd,S9 be bf bg]),S9 bh bi bj] w R:=
 vcq Tryz.func76 [6,7,8] [(8,⟨[(11,.bool),(12,.int .i64)],[]⟩),(10,⟨[(26,.bool)],[]⟩),(15,⟨[(11,.bool)],[]⟩),(23,⟨[(13,.bool),(14,.int .i64)],[]⟩),(30,⟨[(13,.bool)],[]⟩),(44,⟨[(11,.bool)],[]⟩)] [.l (.int .i64 a),.agg [.slice b c d,.slice e f g],.agg [.int .i64 i,.int .i64 j,.slice k l m,.slice n o p,.slice q r s,.int .i64 t,.int .i64 u,.int .i64 v,.int .i64 x,.slice y z A,.bool B,.slice C D E,.slice F G H,.bool I,.int .i64 J,.bool K,.int .i64 L,.bool M,.slice N O P,.bool Q,.slice S U V,.bool W,.int .i64 X,.bool Y,.int .i64 Z,.bool aa,.int .i64 ab,.bool ac,.int .i64 ad,.bool ae,.slice af ag ah,.int .i64 ai,.int .i64 aj,.int .i64 ak,.bool al,.int .i64 am,.bool an,.int .i64 ao,.slice ap aq ar,.slice au av ax,.slice ay az aA,.slice aB aC aD,.slice aE aF aG,.int .i64 aH,.int .i64 aI,.int .i64 aJ,.int .i64 aK,.int .i64 aL,.bool aM,.slice aN aO aP,.int .i64 aQ,.int .i64 aS,.slice aU aV aW],.agg [.int .i64 aX,.bool aY,.int .i64 aZ,.str ba,.slice bb bc bd,.slice be bf bg],.l (.slice bh bi bj)] h
theorem D_z (a:OA)(b c:Nat)(d:Int)(w:World)(R:EW)(h:
 ∃ (e:Int->World->Prop) (f:Int->World->Nat),e (wr (d+1)) w/\
 (∀ g:Int,∀ i:World,e g i->
 (Br (decide (g<(b:Int))) (∀ j,j=i.drew->Ix a g b fun k=>Ls j (k.add (g.toNat*2)) fun l=>Ix a d b fun m=>Ls j (m.add (d.toNat*2)) fun n=>(Br (l.toList==n.toList) (R (R9 (.bool true)) j) ((e (wr (g+1)) j/\f (wr (g+1)) j<f g i)))) (R (R9 (.bool false)) i)))):CP 75 #[S9 a b c,N9 d] w R:=
 vcq Tryz.func75 [] [(6,⟨[(5,.int .i64)],[]⟩)] [.l (.slice a b c),.l (.int .i64 d)] h
theorem D_A (a:Int)(b:OA)(c d:Nat)(e:OA)(f g:Nat)(i:Int)(j:Int)(k:OA)(l m:Nat)(n:OA)(o p:Nat)(q:OA)(r s:Nat)(t:Int)(u:Int)(v:Int)(x:Int)(y:OA)(z A:Nat)(B:Bool)(C:OA)(D E:Nat)(F:OA)(G H:Nat)(I:Bool)(J:Int)(K:Bool)(L:Int)(M:Bool)(N:OA)(O P:Nat)(Q:Bool)(S:OA)(U V:Nat)(W:Bool)(X:Int)(Y:Bool)(Z:Int)(aa:Bool)(ab:Int)(ac:Bool)(ad:Int)(ae:Bool)(af:OA)(ag ah:Nat)(ai:Int)(aj:Int)(ak:Int)(al:Bool)(am:Int)(an:Bool)(ao:Int)(ap:OA)(aq ar:Nat)(au:OA)(av ax:Nat)(ay:OA)(az aA:Nat)(aB:OA)(aC aD:Nat)(aE:OA)(aF aG:Nat)(aH:Int)(aI:Int)(aJ:Int)(aK:Int)(aL:Int)(aM:Bool)(aN:OA)(aO aP:Nat)(aQ:Int)(aS:Int)(aU:OA)(aV aW:Nat)(aX:Int)(aY:Bool)(aZ:Int)(ba:BA)(bb:OA)(bc bd:Nat)(be:OA)(bf bg:Nat)(bh:OA)(bi bj:Nat)(w:World)(R:EW)(h:
 True/\(let bk:=w.alloc (.cells #[S9 b c d,S9 e f g] 66);
 True/\(let bl:=bk.alloc (.cells #[N9 i,N9 j,S9 k l m,S9 n o p,S9 q r s,N9 t,N9 u,N9 v,N9 x,S9 y z A,.bool B,S9 C D E,S9 F G H,.bool I,N9 J,.bool K,N9 L,.bool M,S9 N O P,.bool Q,S9 S U V,.bool W,N9 X,.bool Y,N9 Z,.bool aa,N9 ab,.bool ac,N9 ad,.bool ae,S9 af ag ah,N9 ai,N9 aj,N9 ak,.bool al,N9 am,.bool an,N9 ao,S9 ap aq ar,S9 au av ax,S9 ay az aA,S9 aB aC aD,S9 aE aF aG,N9 aH,N9 aI,N9 aJ,N9 aK,N9 aL,.bool aM,S9 aN aO aP,N9 aQ,N9 aS,S9 aU aV aW] 44);
 True/\(let bm:=bl.alloc (.cells #[N9 aX,.bool aY,N9 aZ,T9 ba,S9 bb bc bd,S9 be bf bg] 27);
 Cb 48 #[(N9 (bf:Int)),(.agg #[.bool W,N9 X]),(.agg #[.bool Y,N9 Z])] bm (fun bn bo=>(KeepT 66 bm bo/\KeepT 44 bm bo/\KeepT 27 bm bo/\True)/\∀ bp:Bool->World->Prop,(∀ bq:Bool,∀ br:World,
 (∃ (bs:Bool->Int->World->Prop) (bt:Bool->Int->World->Nat),bs bq 0 br/\
 (∀ bu:Bool,∀ bv:Int,∀ bx:World,bs bu bv bx->
 (Br (decide (bv<(bf:Int))) (∀ bz:Bool->World->Prop,(∀ bA:Bool,∀ bB:World,
 ((bs bA (wr (bv+1)) bB/\bt bA (wr (bv+1)) bB<bt bu bv bx))->
 bz bA bB)->
 ∀ bC,bC=bx.drew->Ix be bv bf fun bD=>L_ibisll bC (bD.add (bv.toNat*6)) fun bE bF bG bH bI bJ bK bL bM bN=>CP 82 #[N9 a,(.agg #[S9 b c d,S9 e f g]),(.agg #[N9 i,N9 j,S9 k l m,S9 n o p,S9 q r s,N9 t,N9 u,N9 v,N9 x,S9 y z A,.bool B,S9 C D E,S9 F G H,.bool I,N9 J,.bool K,N9 L,.bool M,S9 N O P,.bool Q,S9 S U V,.bool W,N9 X,.bool Y,N9 Z,.bool aa,N9 ab,.bool ac,N9 ad,.bool ae,S9 af ag ah,N9 ai,N9 aj,N9 ak,.bool al,N9 am,.bool an,N9 ao,S9 ap aq ar,S9 au av ax,S9 ay az aA,S9 aB aC aD,S9 aE aF aG,N9 aH,N9 aI,N9 aJ,N9 aK,N9 aL,.bool aM,S9 aN aO aP,N9 aQ,N9 aS,S9 aU aV aW]),N9 bv,(.agg #[N9 bE,.bool bF,N9 bG,T9 bH,S9 bI bJ bK,S9 bL bM bN])] bC (fun bO bP=>∃ bQ,∃ bS,bO=R9 (.tuple #[.bool bQ,.bool bS])/\(KeepT 66 bC bP/\KeepT 44 bC bP/\KeepT 27 bC bP/\True)/\True/\True/\True/\∀ bU:Bool->World->Prop,(∀ bV:Bool,∀ bW:World,
 (Ix bh bv bi fun bX=>Lb bW (bX.add (bv.toNat*1)) fun bY=>(Nr bY (Ix bh bv bi fun bZ=>Off bW (bZ.add (bv.toNat*1)) 1 [66,44,27]/\True/\(let ca:=(bW.setCell (bZ.add (bv.toNat*1)) (.bool bS));
 bz bV ca)) (Ix bh bv bi fun cb=>Off bW (cb.add (bv.toNat*1)) 1 [66,44,27]/\True/\(let cc:=(bW.setCell (cb.add (bv.toNat*1)) (.bool true));
 bz bV cc))))->
 bU bV bW)->
 (Br bu (bU bQ bP) (bU false bP)))) (∀ cd:Bool->World->Prop,(∀ ce:Bool,∀ cf:World,
 (∃ (cg:Bool->Int->World->Prop) (ch:Bool->Int->World->Nat),cg ce 0 cf/\
 (∀ ci:Bool,∀ cj:Int,∀ ck:World,cg ci cj ck->
 ∀ cl:Bool->World->Prop,(∀ cm:Bool,∀ cn:World,
 ((Br cm (∀ co:Bool->World->Prop,(∀ cp:Bool,∀ cq:World,
 ((cg cp (wr (cj+1)) cq/\ch cp (wr (cj+1)) cq<ch ci cj ck))->
 co cp cq)->
 Ix bh cj bi fun cr=>Lb cn (cr.add (cj.toNat*1)) fun ct=>(Br (!ct) (∀ cu,cu=cn.drew->Ix be cj bf fun cv=>L_ibisll cu (cv.add (cj.toNat*6)) fun cx cy cz cA cB cC cD cE cF cG=>CP 34 #[N9 a,(.agg #[S9 b c d,S9 e f g]),N9 ak,(.agg #[N9 cx,.bool cy,N9 cz,T9 cA,S9 cB cC cD,S9 cE cF cG])] cu (fun cH cI=>∃ cJ,∃ cK cL cM,cH=R9 (.tuple #[.bool cJ,S9 cK cL cM])/\(KeepT 66 cu cI/\KeepT 44 cu cI/\KeepT 27 cu cI/\True)/\True/\True/\True/\(Br ci (co cJ cI) (co false cI)))) (co ci cn))) (∃ (cN:Int->World->Prop) (cO:Int->World->Nat),cN 0 cn/\
 (∀ cP:Int,∀ cQ:World,cN cP cQ->
 ∀ cS:Bool->World->Prop,(∀ cU:Bool,∀ cV:World,
 ((Br cU (Ix bh cP bi fun cW=>Off cV (cW.add (cP.toNat*1)) 1 [66,44,27]/\True/\(let cX:=(cV.setCell (cW.add (cP.toNat*1)) (.bool true));
 (cN (wr (cP+1)) cX/\cO (wr (cP+1)) cX<cO cP cQ))) (R (R9 (.bool ci)) cV)))->
 cS cU cV)->
 (Br (decide (cP<(bf:Int))) (cS (decide (ak>0)) cQ) (cS false cQ))))))->
 cl cm cn)->
 (Br (decide (cj<(bf:Int))) (cl (decide (ak>0)) ck) (cl false ck))))->
 cd ce cf)->
 (Br (decide (aj>0)) (Cb 83 #[N9 a,(.agg #[S9 b c d,S9 e f g]),(.agg #[N9 i,N9 j,S9 k l m,S9 n o p,S9 q r s,N9 t,N9 u,N9 v,N9 x,S9 y z A,.bool B,S9 C D E,S9 F G H,.bool I,N9 J,.bool K,N9 L,.bool M,S9 N O P,.bool Q,S9 S U V,.bool W,N9 X,.bool Y,N9 Z,.bool aa,N9 ab,.bool ac,N9 ad,.bool ae,S9 af ag ah,N9 ai,N9 aj,N9 ak,.bool al,N9 am,.bool an,N9 ao,S9 ap aq ar,S9 au av ax,S9 ay az aA,S9 aB aC aD,S9 aE aF aG,N9 aH,N9 aI,N9 aJ,N9 aK,N9 aL,.bool aM,S9 aN aO aP,N9 aQ,N9 aS,S9 aU aV aW]),(.agg #[N9 aX,.bool aY,N9 aZ,T9 ba,S9 bb bc bd,S9 be bf bg]),S9 bh bi bj] bx (fun cY cZ=>(KeepT 66 bx cZ/\KeepT 44 bx cZ/\KeepT 27 bx cZ/\True)/\(Br cY (cd bu cZ) (cd false cZ)))) (cd bu bx))))))->
 bp bq br)->
 CP 81 #[S9 be bf bg] bo (fun da db=>∃ dc,∃ dd,da=R9 (.tuple #[N9 dc,N9 dd])/\(KeepT 66 bo db/\KeepT 44 bo db/\KeepT 27 bo db/\True)/\∀ de:Bool->World->Prop,(∀ df:Bool,∀ dg:World,
 ((Br df (bp false dg) (bp bn dg)))->
 de df dg)->
 (Br ae (de (decide (dc>=0)) db) (de false db)))))))):CP 51 #[N9 a,(.agg #[S9 b c d,S9 e f g]),(.agg #[N9 i,N9 j,S9 k l m,S9 n o p,S9 q r s,N9 t,N9 u,N9 v,N9 x,S9 y z A,.bool B,S9 C D E,S9 F G H,.bool I,N9 J,.bool K,N9 L,.bool M,S9 N O P,.bool Q,S9 S U V,.bool W,N9 X,.bool Y,N9 Z,.bool aa,N9 ab,.bool ac,N9 ad,.bool ae,S9 af ag ah,N9 ai,N9 aj,N9 ak,.bool al,N9 am,.bool an,N9 ao,S9 ap aq ar,S9 au av ax,S9 ay az aA,S9 aB aC aD,S9 aE aF aG,N9 aH,N9 aI,N9 aJ,N9 aK,N9 aL,.bool aM,S9 aN aO aP,N9 aQ,N9 aS,S9 aU aV aW]),(.agg #[N9 aX,.bool aY,N9 aZ,T9 ba,S9 bb bc bd,S9 be bf bg]),S9 bh bi bj] w R:=
 vcq Tryz.func51 [6,7,8] [(6,⟨[(12,.bool)],[]⟩),(9,⟨[(42,.bool)],[]⟩),(18,⟨[(12,.bool),(15,.int .i64)],[]⟩),(25,⟨[(12,.bool)],[]⟩),(29,⟨[(12,.bool)],[]⟩),(33,⟨[(12,.bool)],[]⟩),(43,⟨[(12,.bool),(18,.int .i64)],[]⟩),(45,⟨[(94,.bool)],[]⟩),(50,⟨[(12,.bool)],[]⟩),(64,⟨[(21,.int .i64)],[]⟩),(66,⟨[(126,.bool)],[]⟩)] [.l (.int .i64 a),.agg [.slice b c d,.slice e f g],.agg [.int .i64 i,.int .i64 j,.slice k l m,.slice n o p,.slice q r s,.int .i64 t,.int .i64 u,.int .i64 v,.int .i64 x,.slice y z A,.bool B,.slice C D E,.slice F G H,.bool I,.int .i64 J,.bool K,.int .i64 L,.bool M,.slice N O P,.bool Q,.slice S U V,.bool W,.int .i64 X,.bool Y,.int .i64 Z,.bool aa,.int .i64 ab,.bool ac,.int .i64 ad,.bool ae,.slice af ag ah,.int .i64 ai,.int .i64 aj,.int .i64 ak,.bool al,.int .i64 am,.bool an,.int .i64 ao,.slice ap aq ar,.slice au av ax,.slice ay az aA,.slice aB aC aD,.slice aE aF aG,.int .i64 aH,.int .i64 aI,.int .i64 aJ,.int .i64 aK,.int .i64 aL,.bool aM,.slice aN aO aP,.int .i64 aQ,.int .i64 aS,.slice aU aV aW],.agg [.int .i64 aX,.bool aY,.int .i64 aZ,.str ba,.slice bb bc bd,.slice be bf bg],.l (.slice bh bi bj)] h
theorem B_8 (a:Int)(b:OA)(c d:Nat)(e:OA)(f g:Nat)(i:Int)(j:Int)(k:OA)(l m:Nat)(n:OA)(o p:Nat)(q:OA)(r s:Nat)(t:Int)(u:Int)(v:Int)(x:Int)(y:OA)(z A:Nat)(B:Bool)(C:OA)(D E:Nat)(F:OA)(G H:Nat)(I:Bool)(J:Int)(K:Bool)(L:Int)(M:Bool)(N:OA)(O P:Nat)(Q:Bool)(S:OA)(U V:Nat)(W:Bool)(X:Int)(Y:Bool)(Z:Int)(aa:Bool)(ab:Int)(ac:Bool)(ad:Int)(ae:Bool)(af:OA)(ag ah:Nat)(ai:Int)(aj:Int)(ak:Int)(al:Bool)(am:Int)(an:Bool)(ao:Int)(ap:OA)(aq ar:Nat)(au:OA)(av ax:Nat)(ay:OA)(az aA:Nat)(aB:OA)(aC aD:Nat)(aE:OA)(aF aG:Nat)(aH:Int)(aI:Int)(aJ:Int)(aK:Int)(aL:Int)(aM:Bool)(aN:OA)(aO aP:Nat)(aQ:Int)(aS:Int)(aU:OA)(aV aW:Nat)(aX:Int)(aY:Int)(aZ:Bool)(ba:Int)(bb:BA)(bc:OA)(bd be:Nat)(bf:OA)(bg bh:Nat)(w:World)(R:EW)(h:
 True/\(let bi:=w.alloc (.cells #[S9 b c d,S9 e f g] 66);
 True/\(let bj:=bi.alloc (.cells #[N9 i,N9 j,S9 k l m,S9 n o p,S9 q r s,N9 t,N9 u,N9 v,N9 x,S9 y z A,.bool B,S9 C D E,S9 F G H,.bool I,N9 J,.bool K,N9 L,.bool M,S9 N O P,.bool Q,S9 S U V,.bool W,N9 X,.bool Y,N9 Z,.bool aa,N9 ab,.bool ac,N9 ad,.bool ae,S9 af ag ah,N9 ai,N9 aj,N9 ak,.bool al,N9 am,.bool an,N9 ao,S9 ap aq ar,S9 au av ax,S9 ay az aA,S9 aB aC aD,S9 aE aF aG,N9 aH,N9 aI,N9 aJ,N9 aK,N9 aL,.bool aM,S9 aN aO aP,N9 aQ,N9 aS,S9 aU aV aW] 44);
 True/\(let bk:=bj.alloc (.cells #[N9 aY,.bool aZ,N9 ba,T9 bb,S9 bc bd be,S9 bf bg bh] 27);
 ∀ bl:Int->World->Prop,(∀ bm:Int,∀ bn:World,
 (∀ bo:Int->World->Prop,(∀ bp:Int,∀ bq:World,
 ((Br (bp==0) (R (R9 (.tuple #[.bool true,.bool false])) bq) (CP 34 #[N9 a,(.agg #[S9 b c d,S9 e f g]),N9 bp,(.agg #[N9 aY,.bool aZ,N9 ba,T9 bb,S9 bc bd be,S9 bf bg bh])] bq (fun br bs=>∃ bt,∃ bu bv bx,br=R9 (.tuple #[.bool bt,S9 bu bv bx])/\(KeepT 66 bq bs/\KeepT 44 bq bs/\KeepT 27 bq bs/\True)/\R (R9 (.tuple #[.bool bt,.bool true])) bs))))->
 bo bp bq)->
 (Br (decide (a<2020)) (∀ bz:Bool->World->Prop,(∀ bA:Bool,∀ bB:World,
 ((Br bA (Ix aN aX aO fun bC=>Li bB (bC.add (aX.toNat*1)) fun bD=>bo bD bB) ((Br aM (CP 109 #[N9 a,(.agg #[S9 b c d,S9 e f g]),(.agg #[N9 aQ,N9 aS]),(.agg #[N9 aY,.bool aZ,N9 ba,T9 bb,S9 bc bd be,S9 bf bg bh])] bB (fun bE bF=>∃ bG,∃ bH,bE=R9 (.tuple #[.bool bG,.bool bH])/\(KeepT 66 bB bF/\KeepT 44 bB bF/\KeepT 27 bB bF/\True)/\R (R9 (.tuple #[.bool bG,.bool bH])) bF)) (bo aL bB)))))->
 bz bA bB)->
 (Br aM (bz (decide (aX<(aO:Int))) bn) (bz false bn))) (bo bm bn)))->
 bl bm bn)->
 (Br (decide (aX<(ag:Int))) (Ix af aX ag fun bI=>Li bk (bI.add (aX.toNat*1)) fun bJ=>bl bJ bk) (bl ai bk)))))):CP 82 #[N9 a,(.agg #[S9 b c d,S9 e f g]),(.agg #[N9 i,N9 j,S9 k l m,S9 n o p,S9 q r s,N9 t,N9 u,N9 v,N9 x,S9 y z A,.bool B,S9 C D E,S9 F G H,.bool I,N9 J,.bool K,N9 L,.bool M,S9 N O P,.bool Q,S9 S U V,.bool W,N9 X,.bool Y,N9 Z,.bool aa,N9 ab,.bool ac,N9 ad,.bool ae,S9 af ag ah,N9 ai,N9 aj,N9 ak,.bool al,N9 am,.bool an,N9 ao,S9 ap aq ar,S9 au av ax,S9 ay az aA,S9 aB aC aD,S9 aE aF aG,N9 aH,N9 aI,N9 aJ,N9 aK,N9 aL,.bool aM,S9 aN aO aP,N9 aQ,N9 aS,S9 aU aV aW]),N9 aX,(.agg #[N9 aY,.bool aZ,N9 ba,T9 bb,S9 bc bd be,S9 bf bg bh])] w R:=
 vcq Tryz.func82 [6,7,9] [(4,⟨[(12,.int .i64)],[]⟩),(10,⟨[(12,.int .i64)],[]⟩),(16,⟨[(39,.bool)],[]⟩)] [.l (.int .i64 a),.agg [.slice b c d,.slice e f g],.agg [.int .i64 i,.int .i64 j,.slice k l m,.slice n o p,.slice q r s,.int .i64 t,.int .i64 u,.int .i64 v,.int .i64 x,.slice y z A,.bool B,.slice C D E,.slice F G H,.bool I,.int .i64 J,.bool K,.int .i64 L,.bool M,.slice N O P,.bool Q,.slice S U V,.bool W,.int .i64 X,.bool Y,.int .i64 Z,.bool aa,.int .i64 ab,.bool ac,.int .i64 ad,.bool ae,.slice af ag ah,.int .i64 ai,.int .i64 aj,.int .i64 ak,.bool al,.int .i64 am,.bool an,.int .i64 ao,.slice ap aq ar,.slice au av ax,.slice ay az aA,.slice aB aC aD,.slice aE aF aG,.int .i64 aH,.int .i64 aI,.int .i64 aJ,.int .i64 aK,.int .i64 aL,.bool aM,.slice aN aO aP,.int .i64 aQ,.int .i64 aS,.slice aU aV aW],.l (.int .i64 aX),.agg [.int .i64 aY,.bool aZ,.int .i64 ba,.str bb,.slice bc bd be,.slice bf bg bh]] h
theorem B_e (a:Int)(b:OA)(c d:Nat)(e:OA)(f g:Nat)(i:Int)(j:Int)(k:OA)(l m:Nat)(n:OA)(o p:Nat)(q:OA)(r s:Nat)(t:Int)(u:Int)(v:Int)(x:Int)(y:OA)(z A:Nat)(B:Bool)(C:OA)(D E:Nat)(F:OA)(G H:Nat)(I:Bool)(J:Int)(K:Bool)(L:Int)(M:Bool)(N:OA)(O P:Nat)(Q:Bool)(S:OA)(U V:Nat)(W:Bool)(X:Int)(Y:Bool)(Z:Int)(aa:Bool)(ab:Int)(ac:Bool)(ad:Int)(ae:Bool)(af:OA)(ag ah:Nat)(ai:Int)(aj:Int)(ak:Int)(al:Bool)(am:Int)(an:Bool)(ao:Int)(ap:OA)(aq ar:Nat)(au:OA)(av ax:Nat)(ay:OA)(az aA:Nat)(aB:OA)(aC aD:Nat)(aE:OA)(aF aG:Nat)(aH:Int)(aI:Int)(aJ:Int)(aK:Int)(aL:Int)(aM:Bool)(aN:OA)(aO aP:Nat)(aQ:Int)(aS:Int)(aU:OA)(aV aW:Nat)(aX:Int)(aY:Bool)(aZ:Int)(ba:BA)(bb:OA)(bc bd:Nat)(be:OA)(bf bg:Nat)(bh:OA)(bi bj:Nat)(w:World)(R:EW)(h:
 True/\(let bk:=w.alloc (.cells #[S9 b c d,S9 e f g] 66);
 True/\(let bl:=bk.alloc (.cells #[N9 i,N9 j,S9 k l m,S9 n o p,S9 q r s,N9 t,N9 u,N9 v,N9 x,S9 y z A,.bool B,S9 C D E,S9 F G H,.bool I,N9 J,.bool K,N9 L,.bool M,S9 N O P,.bool Q,S9 S U V,.bool W,N9 X,.bool Y,N9 Z,.bool aa,N9 ab,.bool ac,N9 ad,.bool ae,S9 af ag ah,N9 ai,N9 aj,N9 ak,.bool al,N9 am,.bool an,N9 ao,S9 ap aq ar,S9 au av ax,S9 ay az aA,S9 aB aC aD,S9 aE aF aG,N9 aH,N9 aI,N9 aJ,N9 aK,N9 aL,.bool aM,S9 aN aO aP,N9 aQ,N9 aS,S9 aU aV aW] 44);
 True/\(let bm:=bl.alloc (.cells #[N9 aX,.bool aY,N9 aZ,T9 ba,S9 bb bc bd,S9 be bf bg] 27);
 ∃ (bn:Int->Int->World->Prop) (bo:Int->Int->World->Nat),bn 0 0 bm/\
 (∀ bp:Int,∀ bq:Int,∀ br:World,bn bp bq br->
 (Br (decide (bq<(bf:Int))) (∀ bs:Int->World->Prop,(∀ bt:Int,∀ bu:World,
 ((bn bt (wr (bq+1)) bu/\bo bt (wr (bq+1)) bu<bo bp bq br))->
 bs bt bu)->
 ∀ bv,bv=br.drew->Ix be bq bf fun bx=>L_ibisll bv (bx.add (bq.toNat*6)) fun bz bA bB bC bD bE bF bG bH bI=>CP 34 #[N9 a,(.agg #[S9 b c d,S9 e f g]),N9 aj,(.agg #[N9 bz,.bool bA,N9 bB,T9 bC,S9 bD bE bF,S9 bG bH bI])] bv (fun bJ bK=>∃ bL,∃ bM bN bO,bJ=R9 (.tuple #[.bool bL,S9 bM bN bO])/\(KeepT 66 bv bK/\KeepT 44 bv bK/\KeepT 27 bv bK/\True)/\True/\True/\True/\(Br bL (∀ bP:World->Prop,(∀ bQ:World,
 (bs (wr (bp+1)) bQ)->
 bP bQ)->
 Ix bh bq bi fun bS=>Lb bK (bS.add (bq.toNat*1)) fun bU=>(Nr bU (Ix bh bq bi fun bV=>Off bK (bV.add (bq.toNat*1)) 1 [66,44,27]/\True/\(let bW:=(bK.setCell (bV.add (bq.toNat*1)) (.bool (decide (a>=2020))));
 bP bW)) (Ix bh bq bi fun bX=>Off bK (bX.add (bq.toNat*1)) 1 [66,44,27]/\True/\(let bY:=(bK.setCell (bX.add (bq.toNat*1)) (.bool true));
 bP bY)))) (bs bp bK)))) (True/\True/\True/\(let ca:=br.alloc (.cells #[.bool true,N9 1] 34);
 ∀ cb:Bool->Int->World->Prop,(∀ cc:Bool,∀ cd:Int,∀ ce:World,
 (Cb 48 #[N9 bp,(.agg #[.bool cc,N9 cd]),(.agg #[.bool ac,N9 ad])] ce (fun cf cg=>(KeepT 66 ce cg/\KeepT 44 ce cg/\KeepT 27 ce cg/\KeepT 34 ce cg/\True)/\R (R9 (.bool cf)) cg))->
 cb cc cd ce)->
 (Br aa (True/\(let ch:=setB ca (br.heap.size) [.bool aa,N9 ab] 34;
 cb aa ab ch)) (cb true 1 ca)))))))))):CP 83 #[N9 a,(.agg #[S9 b c d,S9 e f g]),(.agg #[N9 i,N9 j,S9 k l m,S9 n o p,S9 q r s,N9 t,N9 u,N9 v,N9 x,S9 y z A,.bool B,S9 C D E,S9 F G H,.bool I,N9 J,.bool K,N9 L,.bool M,S9 N O P,.bool Q,S9 S U V,.bool W,N9 X,.bool Y,N9 Z,.bool aa,N9 ab,.bool ac,N9 ad,.bool ae,S9 af ag ah,N9 ai,N9 aj,N9 ak,.bool al,N9 am,.bool an,N9 ao,S9 ap aq ar,S9 au av ax,S9 ay az aA,S9 aB aC aD,S9 aE aF aG,N9 aH,N9 aI,N9 aJ,N9 aK,N9 aL,.bool aM,S9 aN aO aP,N9 aQ,N9 aS,S9 aU aV aW]),(.agg #[N9 aX,.bool aY,N9 aZ,T9 ba,S9 bb bc bd,S9 be bf bg]),S9 bh bi bj] w R:=
 vcq Tryz.func83 [6,7,8,15] [(8,⟨[(11,.int .i64),(12,.int .i64)],[]⟩),(15,⟨[(11,.int .i64)],[]⟩),(22,⟨[],[]⟩),(29,⟨[],[(3,[.bool,.int .i64])]⟩)] [.l (.int .i64 a),.agg [.slice b c d,.slice e f g],.agg [.int .i64 i,.int .i64 j,.slice k l m,.slice n o p,.slice q r s,.int .i64 t,.int .i64 u,.int .i64 v,.int .i64 x,.slice y z A,.bool B,.slice C D E,.slice F G H,.bool I,.int .i64 J,.bool K,.int .i64 L,.bool M,.slice N O P,.bool Q,.slice S U V,.bool W,.int .i64 X,.bool Y,.int .i64 Z,.bool aa,.int .i64 ab,.bool ac,.int .i64 ad,.bool ae,.slice af ag ah,.int .i64 ai,.int .i64 aj,.int .i64 ak,.bool al,.int .i64 am,.bool an,.int .i64 ao,.slice ap aq ar,.slice au av ax,.slice ay az aA,.slice aB aC aD,.slice aE aF aG,.int .i64 aH,.int .i64 aI,.int .i64 aJ,.int .i64 aK,.int .i64 aL,.bool aM,.slice aN aO aP,.int .i64 aQ,.int .i64 aS,.slice aU aV aW],.agg [.int .i64 aX,.bool aY,.int .i64 aZ,.str ba,.slice bb bc bd,.slice be bf bg],.l (.slice bh bi bj)] h
theorem C_S (a:Int)(b:OA)(c d:Nat)(e:OA)(f g:Nat)(i:Int)(j:Int)(k:OA)(l m:Nat)(n:OA)(o p:Nat)(q:OA)(r s:Nat)(t:Int)(u:Int)(v:Int)(x:Int)(y:OA)(z A:Nat)(B:Bool)(C:OA)(D E:Nat)(F:OA)(G H:Nat)(I:Bool)(J:Int)(K:Bool)(L:Int)(M:Bool)(N:OA)(O P:Nat)(Q:Bool)(S:OA)(U V:Nat)(W:Bool)(X:Int)(Y:Bool)(Z:Int)(aa:Bool)(ab:Int)(ac:Bool)(ad:Int)(ae:Bool)(af:OA)(ag ah:Nat)(ai:Int)(aj:Int)(ak:Int)(al:Bool)(am:Int)(an:Bool)(ao:Int)(ap:OA)(aq ar:Nat)(au:OA)(av ax:Nat)(ay:OA)(az aA:Nat)(aB:OA)(aC aD:Nat)(aE:OA)(aF aG:Nat)(aH:Int)(aI:Int)(aJ:Int)(aK:Int)(aL:Int)(aM:Bool)(aN:OA)(aO aP:Nat)(aQ:Int)(aS:Int)(aU:OA)(aV aW:Nat)(aX:Int)(aY:Bool)(aZ:Int)(ba:BA)(bb:OA)(bc bd:Nat)(be:OA)(bf bg:Nat)(bh:OA)(bi bj:Nat)(w:World)(R:EW)(h:
 True/\(let bk:=w.alloc (.cells #[S9 b c d,S9 e f g] 66);
 True/\(let bl:=bk.alloc (.cells #[N9 i,N9 j,S9 k l m,S9 n o p,S9 q r s,N9 t,N9 u,N9 v,N9 x,S9 y z A,.bool B,S9 C D E,S9 F G H,.bool I,N9 J,.bool K,N9 L,.bool M,S9 N O P,.bool Q,S9 S U V,.bool W,N9 X,.bool Y,N9 Z,.bool aa,N9 ab,.bool ac,N9 ad,.bool ae,S9 af ag ah,N9 ai,N9 aj,N9 ak,.bool al,N9 am,.bool an,N9 ao,S9 ap aq ar,S9 au av ax,S9 ay az aA,S9 aB aC aD,S9 aE aF aG,N9 aH,N9 aI,N9 aJ,N9 aK,N9 aL,.bool aM,S9 aN aO aP,N9 aQ,N9 aS,S9 aU aV aW] 44);
 True/\(let bm:=bl.alloc (.cells #[N9 aX,.bool aY,N9 aZ,T9 ba,S9 bb bc bd,S9 be bf bg] 27);
 Cl 84 #[(.agg #[N9 aX,.bool aY,N9 aZ,T9 ba,S9 bb bc bd,S9 be bf bg])] bm (fun bn bo bp bq=>(KeepT 66 bm bq/\KeepT 44 bm bq/\KeepT 27 bm bq/\True)/\∀ br:Bool->World->Prop,(∀ bs:Bool,∀ bt:World,
 (∃ (bu:Bool->Int->World->Prop) (bv:Bool->Int->World->Nat),bu bs 0 bt/\
 (∀ bx:Bool,∀ bz:Int,∀ bA:World,bu bx bz bA->
 (Br (decide (bz<(bo:Int))) (∀ bB:Bool->World->Prop,(∀ bC:Bool,∀ bD:World,
 ((bu bC (wr (bz+1)) bD/\bv bC (wr (bz+1)) bD<bv bx bz bA))->
 bB bC bD)->
 ∀ bE,bE=bA.drew->Ix bn bz bo fun bF=>Li bE (bF.add (bz.toNat*1)) fun bG=>Ix bb bG bc fun bH=>Ls bE (bH.add (bG.toNat*1)) fun bI=>True/\∀ bJ:Bool->World->Prop,(∀ bK:Bool,∀ bL:World,
 (∀ bM,bM=bL.drew->Ix bn bz bo fun bN=>Li bM (bN.add (bz.toNat*1)) fun bO=>Ix be bO bf fun bP=>L_ibisll bM (bP.add (bO.toNat*6)) fun bQ bS bU bV bW bX bY bZ ca cb=>CP 86 #[N9 a,(.agg #[S9 b c d,S9 e f g]),(.agg #[N9 i,N9 j,S9 k l m,S9 n o p,S9 q r s,N9 t,N9 u,N9 v,N9 x,S9 y z A,.bool B,S9 C D E,S9 F G H,.bool I,N9 J,.bool K,N9 L,.bool M,S9 N O P,.bool Q,S9 S U V,.bool W,N9 X,.bool Y,N9 Z,.bool aa,N9 ab,.bool ac,N9 ad,.bool ae,S9 af ag ah,N9 ai,N9 aj,N9 ak,.bool al,N9 am,.bool an,N9 ao,S9 ap aq ar,S9 au av ax,S9 ay az aA,S9 aB aC aD,S9 aE aF aG,N9 aH,N9 aI,N9 aJ,N9 aK,N9 aL,.bool aM,S9 aN aO aP,N9 aQ,N9 aS,S9 aU aV aW]),T9 bI,(.agg #[N9 bQ,.bool bS,N9 bU,T9 bV,S9 bW bX bY,S9 bZ ca cb])] bM (fun cc cd=>∃ ce,∃ cf,cc=R9 (.tuple #[.bool ce,.bool cf])/\(KeepT 66 bM cd/\KeepT 44 bM cd/\KeepT 27 bM cd/\True)/\True/\True/\True/\∀ cg:Bool->World->Prop,(∀ ch:Bool,∀ ci:World,
 ((Br cf (C0 87 #[S9 bh bi bj,(.agg #[N9 aX,.bool aY,N9 aZ,T9 ba,S9 bb bc bd,S9 be bf bg]),T9 bI] ci (fun cj=>(KeepT 66 ci cj/\KeepT 44 ci cj/\KeepT 27 ci cj/\True)/\bB ch cj)) (bB ch ci)))->
 cg ch ci)->
 (Br bK (cg ce cd) (cg false cd))))->
 bJ bK bL)->
 (Br (decide (aJ>0)) (True/\CP 34 #[N9 a,(.agg #[S9 b c d,S9 e f g]),N9 aJ,(.agg #[N9 3,.bool false,N9 0,T9 bI,S9 none 0 0,S9 none 0 0])] bE (fun ck cl=>∃ cm,∃ cn co cp,ck=R9 (.tuple #[.bool cm,S9 cn co cp])/\(KeepT 66 bE cl/\KeepT 44 bE cl/\KeepT 27 bE cl/\True)/\(Br bx (bJ cm cl) (bJ false cl)))) (bJ bx bE))) (∃ (cq:Bool->Int->World->Prop) (cr:Bool->Int->World->Nat),cq bx 0 bA/\
 (∀ ct:Bool,∀ cu:Int,∀ cv:World,cq ct cu cv->
 ∀ cx:Bool->World->Prop,(∀ cy:Bool,∀ cz:World,
 ((Br cy (∀ cA:Bool->World->Prop,(∀ cB:Bool,∀ cC:World,
 ((cq cB (wr (cu+1)) cC/\cr cB (wr (cu+1)) cC<cr ct cu cv))->
 cA cB cC)->
 Ix bn cu bo fun cD=>Li cz (cD.add (cu.toNat*1)) fun cE=>Ix bh cE bi fun cF=>Lb cz (cF.add (cE.toNat*1)) fun cG=>(Br (!cG) (∀ cH,cH=cz.drew->Ix bn cu bo fun cI=>Li cH (cI.add (cu.toNat*1)) fun cJ=>Ix be cJ bf fun cK=>L_ibisll cH (cK.add (cJ.toNat*6)) fun cL cM cN cO cP cQ cS cU cV cW=>CP 34 #[N9 a,(.agg #[S9 b c d,S9 e f g]),N9 aK,(.agg #[N9 cL,.bool cM,N9 cN,T9 cO,S9 cP cQ cS,S9 cU cV cW])] cH (fun cX cY=>∃ cZ,∃ da db dc,cX=R9 (.tuple #[.bool cZ,S9 da db dc])/\(KeepT 66 cH cY/\KeepT 44 cH cY/\KeepT 27 cH cY/\True)/\True/\True/\True/\∀ dd:Bool->World->Prop,(∀ de:Bool,∀ df:World,
 (∀ dg,dg=df.drew->Ix bn cu bo fun dh=>Li dg (dh.add (cu.toNat*1)) fun di=>Ix bb di bc fun dj=>Ls dg (dj.add (di.toNat*1)) fun dk=>C0 87 #[S9 bh bi bj,(.agg #[N9 aX,.bool aY,N9 aZ,T9 ba,S9 bb bc bd,S9 be bf bg]),T9 dk] dg (fun dl=>(KeepT 66 dg dl/\KeepT 44 dg dl/\KeepT 27 dg dl/\True)/\True/\cA de dl))->
 dd de df)->
 (Br ct (dd cZ cY) (dd false cY)))) (cA ct cz))) (R (R9 (.bool ct)) cz)))->
 cx cy cz)->
 (Br (decide (cu<(bo:Int))) (cx (decide (aK>0)) cv) (cx false cv)))))))->
 br bs bt)->
 Cb 48 #[(N9 (bo:Int)),(.agg #[.bool al,N9 am]),(.agg #[.bool an,N9 ao])] bq (fun dm dn=>(KeepT 66 bq dn/\KeepT 44 bq dn/\KeepT 27 bq dn/\True)/\(Br dm (Cb 85 #[(.agg #[N9 i,N9 j,S9 k l m,S9 n o p,S9 q r s,N9 t,N9 u,N9 v,N9 x,S9 y z A,.bool B,S9 C D E,S9 F G H,.bool I,N9 J,.bool K,N9 L,.bool M,S9 N O P,.bool Q,S9 S U V,.bool W,N9 X,.bool Y,N9 Z,.bool aa,N9 ab,.bool ac,N9 ad,.bool ae,S9 af ag ah,N9 ai,N9 aj,N9 ak,.bool al,N9 am,.bool an,N9 ao,S9 ap aq ar,S9 au av ax,S9 ay az aA,S9 aB aC aD,S9 aE aF aG,N9 aH,N9 aI,N9 aJ,N9 aK,N9 aL,.bool aM,S9 aN aO aP,N9 aQ,N9 aS,S9 aU aV aW]),(.agg #[N9 aX,.bool aY,N9 aZ,T9 ba,S9 bb bc bd,S9 be bf bg])] dn (fun dp dq=>(KeepT 66 dn dq/\KeepT 44 dn dq/\KeepT 27 dn dq/\True)/\br dp dq)) (br false dn)))))))):CP 52 #[N9 a,(.agg #[S9 b c d,S9 e f g]),(.agg #[N9 i,N9 j,S9 k l m,S9 n o p,S9 q r s,N9 t,N9 u,N9 v,N9 x,S9 y z A,.bool B,S9 C D E,S9 F G H,.bool I,N9 J,.bool K,N9 L,.bool M,S9 N O P,.bool Q,S9 S U V,.bool W,N9 X,.bool Y,N9 Z,.bool aa,N9 ab,.bool ac,N9 ad,.bool ae,S9 af ag ah,N9 ai,N9 aj,N9 ak,.bool al,N9 am,.bool an,N9 ao,S9 ap aq ar,S9 au av ax,S9 ay az aA,S9 aB aC aD,S9 aE aF aG,N9 aH,N9 aI,N9 aJ,N9 aK,N9 aL,.bool aM,S9 aN aO aP,N9 aQ,N9 aS,S9 aU aV aW]),(.agg #[N9 aX,.bool aY,N9 aZ,T9 ba,S9 bb bc bd,S9 be bf bg]),S9 bh bi bj] w R:=
 vcq Tryz.func52 [6,7,8] [(4,⟨[(12,.bool)],[]⟩),(10,⟨[(12,.bool),(13,.int .i64)],[]⟩),(17,⟨[(12,.bool)],[]⟩),(21,⟨[(12,.bool)],[]⟩),(31,⟨[(12,.bool)],[]⟩),(43,⟨[(12,.bool),(19,.int .i64)],[]⟩),(45,⟨[(100,.bool)],[]⟩),(50,⟨[(12,.bool)],[]⟩),(57,⟨[(12,.bool)],[]⟩)] [.l (.int .i64 a),.agg [.slice b c d,.slice e f g],.agg [.int .i64 i,.int .i64 j,.slice k l m,.slice n o p,.slice q r s,.int .i64 t,.int .i64 u,.int .i64 v,.int .i64 x,.slice y z A,.bool B,.slice C D E,.slice F G H,.bool I,.int .i64 J,.bool K,.int .i64 L,.bool M,.slice N O P,.bool Q,.slice S U V,.bool W,.int .i64 X,.bool Y,.int .i64 Z,.bool aa,.int .i64 ab,.bool ac,.int .i64 ad,.bool ae,.slice af ag ah,.int .i64 ai,.int .i64 aj,.int .i64 ak,.bool al,.int .i64 am,.bool an,.int .i64 ao,.slice ap aq ar,.slice au av ax,.slice ay az aA,.slice aB aC aD,.slice aE aF aG,.int .i64 aH,.int .i64 aI,.int .i64 aJ,.int .i64 aK,.int .i64 aL,.bool aM,.slice aN aO aP,.int .i64 aQ,.int .i64 aS,.slice aU aV aW],.agg [.int .i64 aX,.bool aY,.int .i64 aZ,.str ba,.slice bb bc bd,.slice be bf bg],.l (.slice bh bi bj)] h
theorem D_E (a:Int)(b:Int)(c:OA)(d e:Nat)(f:OA)(g i:Nat)(j:OA)(k l:Nat)(m:Int)(n:Int)(o:Int)(p:Int)(q:OA)(r s:Nat)(t:Bool)(u:OA)(v x:Nat)(y:OA)(z A:Nat)(B:Bool)(C:Int)(D:Bool)(E:Int)(F:Bool)(G:OA)(H I:Nat)(J:Bool)(K:OA)(L M:Nat)(N:Bool)(O:Int)(P:Bool)(Q:Int)(S:Bool)(U:Int)(V:Bool)(W:Int)(X:Bool)(Y:OA)(Z aa:Nat)(ab:Int)(ac:Int)(ad:Int)(ae:Bool)(af:Int)(ag:Bool)(ah:Int)(ai:OA)(aj ak:Nat)(al:OA)(am an:Nat)(ao:OA)(ap aq:Nat)(ar:OA)(au av:Nat)(ax:OA)(ay az:Nat)(aA:Int)(aB:Int)(aC:Int)(aD:Int)(aE:Int)(aF:Bool)(aG:OA)(aH aI:Nat)(aJ:Int)(aK:Int)(aL:OA)(aM aN:Nat)(aO:Int)(aP:Bool)(aQ:Int)(aS:BA)(aU:OA)(aV aW:Nat)(aX:OA)(aY aZ:Nat)(w:World)(R:EW)(h:
 True/\(let ba:=w.alloc (.cells #[N9 a,N9 b,S9 c d e,S9 f g i,S9 j k l,N9 m,N9 n,N9 o,N9 p,S9 q r s,.bool t,S9 u v x,S9 y z A,.bool B,N9 C,.bool D,N9 E,.bool F,S9 G H I,.bool J,S9 K L M,.bool N,N9 O,.bool P,N9 Q,.bool S,N9 U,.bool V,N9 W,.bool X,S9 Y Z aa,N9 ab,N9 ac,N9 ad,.bool ae,N9 af,.bool ag,N9 ah,S9 ai aj ak,S9 al am an,S9 ao ap aq,S9 ar au av,S9 ax ay az,N9 aA,N9 aB,N9 aC,N9 aD,N9 aE,.bool aF,S9 aG aH aI,N9 aJ,N9 aK,S9 aL aM aN] 44);
 True/\(let bb:=ba.alloc (.cells #[N9 aO,.bool aP,N9 aQ,T9 aS,S9 aU aV aW,S9 aX aY aZ] 27);
 Cb 106 #[(.agg #[N9 aO,.bool aP,N9 aQ,T9 aS,S9 aU aV aW,S9 aX aY aZ]),S9 ai aj ak] bb (fun bc bd=>(KeepT 44 bb bd/\KeepT 27 bb bd/\True)/\(Br (!bc) (R (R9 (.bool false)) bd) (∃ (be:Int->World->Prop) (bf:Int->World->Nat),be 0 bd/\
 (∀ bg:Int,∀ bh:World,be bg bh->
 (Br (decide (bg<(am:Int))) (∃ (bi:Bool->Int->World->Prop) (bj:Bool->Int->World->Nat),bi true (wr (bg+1)) bh/\
 (∀ bk:Bool,∀ bl:Int,∀ bm:World,bi bk bl bm->
 (Br (decide (bl<(am:Int))) (∀ bn:Bool->World->Prop,(∀ bo:Bool,∀ bp:World,
 ((bi bo (wr (bl+1)) bp/\bj bo (wr (bl+1)) bp<bj bk bl bm))->
 bn bo bp)->
 ∀ bq,bq=bm.drew->(Br bk (Ix al bl am fun br=>Ls bq (br.add (bl.toNat*2)) fun bs=>Ix al bg am fun bt=>Ls bq (bt.add (bg.toNat*2)) fun bu=>True/\bn (!(bs.toList==bu.toList)) bq) (True/\bn false bq))) (∀ bv:Bool->World->Prop,(∀ bx:Bool,∀ bz:World,
 ((Br bx (R (R9 (.bool false)) bz) ((be (wr (bg+1)) bz/\bf (wr (bg+1)) bz<bf bg bh))))->
 bv bx bz)->
 ∀ bA,bA=bm.drew->(Br bk (Ix al bg am fun bB=>Ls bA (bB.add (bg.toNat*2)) fun bC=>Ci 74 #[(.agg #[N9 aO,.bool aP,N9 aQ,T9 aS,S9 aU aV aW,S9 aX aY aZ]),T9 bC] bA (fun bD bE=>(KeepT 44 bA bE/\KeepT 27 bA bE/\True)/\True/\(Br (decide (bD>=0)) (Ix al bg am fun bF=>Ll bE ((bF.add (bg.toNat*2)).add 1) fun bG bH bI=>Cb 106 #[(.agg #[N9 aO,.bool aP,N9 aQ,T9 aS,S9 aU aV aW,S9 aX aY aZ]),S9 bG bH bI] bE (fun bJ bK=>(KeepT 44 bE bK/\KeepT 27 bE bK/\True)/\True/\bv (!bJ) bK)) (bv false bE)))) (bv false bA)))))) (R (R9 (.bool true)) bh))))))))):CP 85 #[(.agg #[N9 a,N9 b,S9 c d e,S9 f g i,S9 j k l,N9 m,N9 n,N9 o,N9 p,S9 q r s,.bool t,S9 u v x,S9 y z A,.bool B,N9 C,.bool D,N9 E,.bool F,S9 G H I,.bool J,S9 K L M,.bool N,N9 O,.bool P,N9 Q,.bool S,N9 U,.bool V,N9 W,.bool X,S9 Y Z aa,N9 ab,N9 ac,N9 ad,.bool ae,N9 af,.bool ag,N9 ah,S9 ai aj ak,S9 al am an,S9 ao ap aq,S9 ar au av,S9 ax ay az,N9 aA,N9 aB,N9 aC,N9 aD,N9 aE,.bool aF,S9 aG aH aI,N9 aJ,N9 aK,S9 aL aM aN]),(.agg #[N9 aO,.bool aP,N9 aQ,T9 aS,S9 aU aV aW,S9 aX aY aZ])] w R:=
 vcq Tryz.func85 [2,3] [(14,⟨[(5,.int .i64)],[]⟩),(29,⟨[(6,.bool),(7,.int .i64)],[]⟩),(36,⟨[(6,.bool)],[]⟩),(40,⟨[(67,.bool)],[]⟩)] [.agg [.int .i64 a,.int .i64 b,.slice c d e,.slice f g i,.slice j k l,.int .i64 m,.int .i64 n,.int .i64 o,.int .i64 p,.slice q r s,.bool t,.slice u v x,.slice y z A,.bool B,.int .i64 C,.bool D,.int .i64 E,.bool F,.slice G H I,.bool J,.slice K L M,.bool N,.int .i64 O,.bool P,.int .i64 Q,.bool S,.int .i64 U,.bool V,.int .i64 W,.bool X,.slice Y Z aa,.int .i64 ab,.int .i64 ac,.int .i64 ad,.bool ae,.int .i64 af,.bool ag,.int .i64 ah,.slice ai aj ak,.slice al am an,.slice ao ap aq,.slice ar au av,.slice ax ay az,.int .i64 aA,.int .i64 aB,.int .i64 aC,.int .i64 aD,.int .i64 aE,.bool aF,.slice aG aH aI,.int .i64 aJ,.int .i64 aK,.slice aL aM aN],.agg [.int .i64 aO,.bool aP,.int .i64 aQ,.str aS,.slice aU aV aW,.slice aX aY aZ]] h
theorem C_Q (a:Int)(b:OA)(c d:Nat)(e:OA)(f g:Nat)(i:Int)(j:Int)(k:OA)(l m:Nat)(n:OA)(o p:Nat)(q:OA)(r s:Nat)(t:Int)(u:Int)(v:Int)(x:Int)(y:OA)(z A:Nat)(B:Bool)(C:OA)(D E:Nat)(F:OA)(G H:Nat)(I:Bool)(J:Int)(K:Bool)(L:Int)(M:Bool)(N:OA)(O P:Nat)(Q:Bool)(S:OA)(U V:Nat)(W:Bool)(X:Int)(Y:Bool)(Z:Int)(aa:Bool)(ab:Int)(ac:Bool)(ad:Int)(ae:Bool)(af:OA)(ag ah:Nat)(ai:Int)(aj:Int)(ak:Int)(al:Bool)(am:Int)(an:Bool)(ao:Int)(ap:OA)(aq ar:Nat)(au:OA)(av ax:Nat)(ay:OA)(az aA:Nat)(aB:OA)(aC aD:Nat)(aE:OA)(aF aG:Nat)(aH:Int)(aI:Int)(aJ:Int)(aK:Int)(aL:Int)(aM:Bool)(aN:OA)(aO aP:Nat)(aQ:Int)(aS:Int)(aU:OA)(aV aW:Nat)(aX:BA)(aY:Int)(aZ:Bool)(ba:Int)(bb:BA)(bc:OA)(bd be:Nat)(bf:OA)(bg bh:Nat)(w:World)(R:EW)(h:
 True/\(let bi:=w.alloc (.cells #[S9 b c d,S9 e f g] 66);
 True/\(let bj:=bi.alloc (.cells #[N9 i,N9 j,S9 k l m,S9 n o p,S9 q r s,N9 t,N9 u,N9 v,N9 x,S9 y z A,.bool B,S9 C D E,S9 F G H,.bool I,N9 J,.bool K,N9 L,.bool M,S9 N O P,.bool Q,S9 S U V,.bool W,N9 X,.bool Y,N9 Z,.bool aa,N9 ab,.bool ac,N9 ad,.bool ae,S9 af ag ah,N9 ai,N9 aj,N9 ak,.bool al,N9 am,.bool an,N9 ao,S9 ap aq ar,S9 au av ax,S9 ay az aA,S9 aB aC aD,S9 aE aF aG,N9 aH,N9 aI,N9 aJ,N9 aK,N9 aL,.bool aM,S9 aN aO aP,N9 aQ,N9 aS,S9 aU aV aW] 44);
 True/\(let bk:=bj.alloc (.cells #[N9 aY,.bool aZ,N9 ba,T9 bb,S9 bc bd be,S9 bf bg bh] 27);
 ∃ (bl:Bool->Bool->Int->World->Prop) (bm:Bool->Bool->Int->World->Nat),bl true false (wr ((aC:Int)-1)) bk/\
 (∀ bn:Bool,∀ bo:Bool,∀ bp:Int,∀ bq:World,bl bn bo bp bq->
 ∀ br:Bool->World->Prop,(∀ bs:Bool,∀ bt:World,
 ((Br bs (∀ bu:Bool->Bool->World->Prop,(∀ bv:Bool,∀ bx:Bool,∀ bz:World,
 ((bl bv bx (wr (bp-1)) bz/\bm bv bx (wr (bp-1)) bz<bm bn bo bp bq))->
 bu bv bx bz)->
 Ix aB bp aC fun bA=>Ls bt (bA.add (bp.toNat*2)) fun bB=>(Br (bB.toList==aX.toList) (∀ bC,bC=bt.drew->Ix aB bp aC fun bD=>Li bC ((bD.add (bp.toNat*2)).add 1) fun bE=>CP 34 #[N9 a,(.agg #[S9 b c d,S9 e f g]),N9 bE,(.agg #[N9 aY,.bool aZ,N9 ba,T9 bb,S9 bc bd be,S9 bf bg bh])] bC (fun bF bG=>∃ bH,∃ bI bJ bK,bF=R9 (.tuple #[.bool bH,S9 bI bJ bK])/\(KeepT 66 bC bG/\KeepT 44 bC bG/\KeepT 27 bC bG/\True)/\True/\True/\bu bH true bG)) (bu bn bo bt))) (∃ (bL:Bool->Bool->Int->World->Prop) (bM:Bool->Bool->Int->World->Nat),bL bn bo 0 bt/\
 (∀ bN:Bool,∀ bO:Bool,∀ bP:Int,∀ bQ:World,bL bN bO bP bQ->
 (Br (decide (bP<(aF:Int))) (∀ bS:Bool->Bool->World->Prop,(∀ bU:Bool,∀ bV:Bool,∀ bW:World,
 ((bL bU bV (wr (bP+1)) bW/\bM bU bV (wr (bP+1)) bW<bM bN bO bP bQ))->
 bS bU bV bW)->
 Ix aE bP aF fun bX=>Ll bQ (bX.add (bP.toNat*2)) fun bY bZ ca=>Cb 80 #[T9 aX,S9 bY bZ ca] bQ (fun cb cc=>(KeepT 66 bQ cc/\KeepT 44 bQ cc/\KeepT 27 bQ cc/\True)/\(Br cb (∀ cd,cd=cc.drew->Ix aE bP aF fun ce=>Li cd ((ce.add (bP.toNat*2)).add 1) fun cf=>CP 34 #[N9 a,(.agg #[S9 b c d,S9 e f g]),N9 cf,(.agg #[N9 aY,.bool aZ,N9 ba,T9 bb,S9 bc bd be,S9 bf bg bh])] cd (fun cg ch=>∃ ci,∃ cj ck cl,cg=R9 (.tuple #[.bool ci,S9 cj ck cl])/\(KeepT 66 cd ch/\KeepT 44 cd ch/\KeepT 27 cd ch/\True)/\True/\True/\True/\(Br bN (bS ci true ch) (bS false true ch)))) (bS bN bO cc)))) ((Br bO (R (R9 (.tuple #[.bool bN,.bool true])) bQ) (CP 109 #[N9 a,(.agg #[S9 b c d,S9 e f g]),(.agg #[N9 aH,N9 aI]),(.agg #[N9 aY,.bool aZ,N9 ba,T9 bb,S9 bc bd be,S9 bf bg bh])] bQ (fun cm cn=>∃ co,∃ cp,cm=R9 (.tuple #[.bool co,.bool cp])/\(KeepT 66 bQ cn/\KeepT 44 bQ cn/\KeepT 27 bQ cn/\True)/\R (R9 (.tuple #[.bool co,.bool cp])) cn)))))))))->
 br bs bt)->
 (Br (decide (bp>=0)) (br (!bo) bq) (br false bq))))))):CP 86 #[N9 a,(.agg #[S9 b c d,S9 e f g]),(.agg #[N9 i,N9 j,S9 k l m,S9 n o p,S9 q r s,N9 t,N9 u,N9 v,N9 x,S9 y z A,.bool B,S9 C D E,S9 F G H,.bool I,N9 J,.bool K,N9 L,.bool M,S9 N O P,.bool Q,S9 S U V,.bool W,N9 X,.bool Y,N9 Z,.bool aa,N9 ab,.bool ac,N9 ad,.bool ae,S9 af ag ah,N9 ai,N9 aj,N9 ak,.bool al,N9 am,.bool an,N9 ao,S9 ap aq ar,S9 au av ax,S9 ay az aA,S9 aB aC aD,S9 aE aF aG,N9 aH,N9 aI,N9 aJ,N9 aK,N9 aL,.bool aM,S9 aN aO aP,N9 aQ,N9 aS,S9 aU aV aW]),T9 aX,(.agg #[N9 aY,.bool aZ,N9 ba,T9 bb,S9 bc bd be,S9 bf bg bh])] w R:=
 vcq Tryz.func86 [6,7,9] [(8,⟨[(12,.bool),(13,.bool),(14,.int .i64)],[]⟩),(10,⟨[(27,.bool)],[]⟩),(15,⟨[(12,.bool),(13,.bool)],[]⟩),(29,⟨[(12,.bool),(13,.bool),(15,.int .i64)],[]⟩),(36,⟨[(12,.bool),(13,.bool)],[]⟩)] [.l (.int .i64 a),.agg [.slice b c d,.slice e f g],.agg [.int .i64 i,.int .i64 j,.slice k l m,.slice n o p,.slice q r s,.int .i64 t,.int .i64 u,.int .i64 v,.int .i64 x,.slice y z A,.bool B,.slice C D E,.slice F G H,.bool I,.int .i64 J,.bool K,.int .i64 L,.bool M,.slice N O P,.bool Q,.slice S U V,.bool W,.int .i64 X,.bool Y,.int .i64 Z,.bool aa,.int .i64 ab,.bool ac,.int .i64 ad,.bool ae,.slice af ag ah,.int .i64 ai,.int .i64 aj,.int .i64 ak,.bool al,.int .i64 am,.bool an,.int .i64 ao,.slice ap aq ar,.slice au av ax,.slice ay az aA,.slice aB aC aD,.slice aE aF aG,.int .i64 aH,.int .i64 aI,.int .i64 aJ,.int .i64 aK,.int .i64 aL,.bool aM,.slice aN aO aP,.int .i64 aQ,.int .i64 aS,.slice aU aV aW],.l (.str aX),.agg [.int .i64 aY,.bool aZ,.int .i64 ba,.str bb,.slice bc bd be,.slice bf bg bh]] h
theorem E_k (a:Int)(b:OA)(c d:Nat)(e:OA)(f g:Nat)(i:Int)(j:Int)(k:Int)(l:Bool)(m:Int)(n:BA)(o:OA)(p q:Nat)(r:OA)(s t:Nat)(w:World)(R:EW)(h:
 True/\(let u:=w.alloc (.cells #[S9 b c d,S9 e f g] 66);
 True/\(let v:=u.alloc (.cells #[N9 i,N9 j] 41);
 True/\(let x:=v.alloc (.cells #[N9 k,.bool l,N9 m,T9 n,S9 o p q,S9 r s t] 27);
 (Br (i==1) (R (R9 (.tuple #[.bool true,.bool true])) x) ((Br (i==2) (R (R9 (.tuple #[.bool false,.bool true])) x) ((Br (i==3) (CP 34 #[N9 a,(.agg #[S9 b c d,S9 e f g]),N9 j,(.agg #[N9 k,.bool l,N9 m,T9 n,S9 o p q,S9 r s t])] x (fun y z=>∃ A,∃ B C D,y=R9 (.tuple #[.bool A,S9 B C D])/\(KeepT 66 x z/\KeepT 41 x z/\KeepT 27 x z/\True)/\R (R9 (.tuple #[.bool A,.bool true])) z)) (R (R9 (.tuple #[.bool true,.bool false])) x)))))))))):CP 109 #[N9 a,(.agg #[S9 b c d,S9 e f g]),(.agg #[N9 i,N9 j]),(.agg #[N9 k,.bool l,N9 m,T9 n,S9 o p q,S9 r s t])] w R:=
 vcq Tryz.func109 [5,6,7] [] [.l (.int .i64 a),.agg [.slice b c d,.slice e f g],.agg [.int .i64 i,.int .i64 j],.agg [.int .i64 k,.bool l,.int .i64 m,.str n,.slice o p q,.slice r s t]] h
theorem D_y (a:OA)(b c:Nat)(d:Int)(e:Bool)(f:Int)(g:BA)(i:OA)(j k:Nat)(l:OA)(m n:Nat)(w:World)(R:EW)(h:
 True/\(let o:=w.alloc (.cells #[N9 d,.bool e,N9 f,T9 g,S9 i j k,S9 l m n] 27);
 True/\CP 34 #[N9 2020,(.agg #[S9 a b c,S9 none 0 0]),N9 1,(.agg #[N9 d,.bool e,N9 f,T9 g,S9 i j k,S9 l m n])] o (fun p q=>∃ r,∃ s t u,p=R9 (.tuple #[.bool r,S9 s t u])/\(KeepT 27 o q/\True)/\R (R9 (.bool r)) q))):CP 16 #[S9 a b c,(.agg #[N9 d,.bool e,N9 f,T9 g,S9 i j k,S9 l m n])] w R:=
 vcq Tryz.func16 [3] [] [.l (.slice a b c),.agg [.int .i64 d,.bool e,.int .i64 f,.str g,.slice i j k,.slice l m n]] h
variable [DB]
def MK (w:World)(g:Nat)(ms:List Bool):Prop:=objAt w g=some (.cells (ms.map Value.bool).toArray 4 (0,0))/\ms.length<=4194304
theorem MK.ext {w:World}{X:Nat->Prop}(h:MK w g ms)(hx:Ext X w w')(hg:¬ X g):MK w' g ms:=⟨hx.old _ _ hg h.1,h.2⟩
theorem MK.get {w:World}(h:MK w g ms){b:Bool}(hb:ms[i]? =some b):w.cell? ((adr g).add (i*1))=some (.bool b):=by
 rw [Nat.mul_one];exact cat h.1 (by simp [hb])
theorem MK.off {w:World}(h:MK w g ms)(hi:i<ms.length){T':TypeId}(hT:(Nat.beq T' 4||false)=false):∃ (cs:Array Value) (T:TypeId),objAt w ((adr g).add (i*1)).block=some (.cells cs T (0,0))/\((adr g).add (i*1)).spot=none/\((adr g).add (i*1)).off+1<=cs.size/\(Nat.beq T' T||false)=false:=by
 refine ⟨(ms.map Value.bool).toArray,4,?_⟩;rw [Nat.mul_one,Addr.add_lit];exact ⟨h.1,rfl,by simp;omega,hT⟩
theorem MK.off0 {w:World}(h:MK w g ms)(hi:i<ms.length):∃ (cs:Array Value) (T:TypeId),objAt w ((adr g).add (i*1)).block=some (.cells cs T (0,0))/\((adr g).add (i*1)).spot=none/\((adr g).add (i*1)).off+1<=cs.size/\false=false:=by
 refine ⟨(ms.map Value.bool).toArray,4,?_⟩;rw [Nat.mul_one,Addr.add_lit];exact ⟨h.1,rfl,by simp;omega,rfl⟩
theorem MK.set {w:World}(h:MK w g ms)(b:Bool):MK (w.setCell ((adr g).add (i*1)) (.bool b)) g (ms.set i b):=by
 refine ⟨?_,by rw [List.length_set];exact h.2⟩;rw [Nat.mul_one,w_4 h.1];congr 2;rw [<- Array.toList_inj];simp [List.map_set]
theorem z_q:∀ (m l:List Bool) (j:Nat),(joinM m l)[j]? =match m[j]?,l[j]? with
  | some x,some y=>some (x||y)
  | some x,none=>some x
  | none,_=>none
 | [],l,j=>by simp [joinM]
 | x::m,[],j=>by
  simp only [joinM,List.getElem?_nil];cases (x::m)[j]? <;>rfl
 | x::m,y::l,0=>by simp [joinM]
 | x::m,y::l,j+1=>by simpa [joinM] using z_q m l j
def x_k (ms ls:List Bool)(i:Nat)(ms':List Bool):Prop:=ms'.length=ms.length/\∀ j,ms'[j]? =if j<i then (joinM ms ls)[j]? else ms[j]?
theorem x_k.start (ms ls:List Bool):x_k ms ls 0 ms:=⟨rfl,fun j=>by simp⟩
theorem x_k.step {ms ls ms':List Bool}{i:Nat}(h:x_k ms ls i ms'){x y:Bool}(hx:ms'[i]? =some x)(hy:ls[i]? =some y):x_k ms ls (i+1) (ms'.set i (x||y)):=by
 have hm:ms[i]? =some x:=by have:=h.2 i;rw [if_neg (by omega),hx] at this;exact this.symm
 refine ⟨by rw [List.length_set];exact h.1,fun j=>?_⟩;rw [List.getElem?_set];by_cases hj:i=j
 ·subst hj;rw [if_pos rfl,if_pos (List.getElem?_eq_some_iff.1 hx).1,if_pos (by omega),z_q,hm,hy]
 ·rw [if_neg hj,h.2 j];by_cases hj':j<i
  ·rw [if_pos hj',if_pos (by omega)]
  ·rw [if_neg hj',if_neg (by omega)]
theorem x_k.end_ {ms':List Bool}(h:x_k ms ls i ms')(hi:ms.length<=i∨ls.length<=i):ms'=joinM ms ls:=by
 apply List.ext_getElem?;intro j;rw [h.2 j];by_cases hj:j<i
 ·rw [if_pos hj]
 ·rw [if_neg hj,z_q];rcases hi with hi|hi
  ·rw [List.getElem?_eq_none (by omega)]
  ·rw [List.getElem?_eq_none (l:=ls) (by omega)];cases ms[j]? <;>rfl
theorem A_L {w:World}{g2:Nat}(hm:MK w g ms)(hl:MK w g2 ls)(hne:g2≠g):CP 71 #[.slice (some (adr g)) ms.length ms.length,.slice (some (adr g2)) ls.length ls.length] w fun e w'=>e=.returned (.tuple #[])/\MK w' g (joinM ms ls)/\Ext (fun k=>k=g) w w':=by
 have hm2:=hm.2;have hl2:=hl.2;refine A_t (some (adr g)) ms.length ms.length (some (adr g2)) ls.length ls.length w _ ⟨fun i w1=>0<=i/\i<=ms.length/\i<=ls.length/\∃ ms',x_k ms ls i.toNat ms'/\MK w1 g ms'/\Ext (fun k=>k=g) w w1,fun i _=>((ms.length:Int)-i).toNat,⟨by omega,by omega,by omega,ms,x_k.start ..,hm,Ext.refl w⟩,?_⟩;rintro i w1 ⟨i0,i1,i2,ms',hj,hmk,hx⟩ K7 hK7;have fin:((ms.length:Int)<=i∨(ls.length:Int)<=i)->K7 false w1:=fun h=>hK7 false w1 ⟨nofun,fun _=>⟨rfl,by rw [<- hj.end_ (by omega)];exact hmk,hx⟩⟩;refine ⟨fun h1=>?_,fun h1=>fin (.inl (by have:=odf h1;omega))⟩;have h1:=odt h1;by_cases h2:i<ls.length
 ·rw [decide_eq_true h2];refine hK7 true w1 ⟨fun _ K10 hK10=>?_,nofun⟩;have hlen:=hj.1;obtain ⟨x,hxg⟩:∃ x,ms'[i.toNat]? =some x:=⟨_,List.getElem?_eq_getElem (by omega)⟩;obtain ⟨y,hyg⟩:∃ y,ls[i.toNat]? =some y:=⟨_,List.getElem?_eq_getElem (by omega)⟩;have hl1:=hl.ext hx hne;have next:∀ z,z=(x||y)->K10 (w1.setCell ((adr g).add (i.toNat*1)) (.bool z)):=fun z hz=>by
   subst hz;refine hK10 _ ?_;rw [f_c (by omega) (by omega)];exact ⟨⟨by omega,by omega,by omega,_,by rw [show (i+1).toNat=i.toNat+1 by omega];exact hj.step hxg hyg,hmk.set _,hx.trans (w_1 _) fun _ _ e=>e⟩,by dsimp only;omega⟩
  refine ⟨_,rfl,⟨i0,h1⟩,x,hmk.get hxg,fun hb=>⟨_,rfl,⟨i0,h2⟩,y,hl1.get hyg,_,rfl,⟨i0,h1⟩,hmk.off0 (by omega),trivial,next _ (by rw [hb];rfl)⟩,fun hb=>⟨_,rfl,⟨i0,h1⟩,hmk.off0 (by omega),trivial,next _ (by rw [hb];rfl)⟩⟩
 ·rw [decide_eq_false h2];exact fin (.inr (by omega))
theorem D_U {w:World}(hm:MK w g ms){v:JV}{cells:List Value}(hv:RJV w v cells)(hB:DB.B<=g)(s:BA):CP 87 #[.slice (some (adr g)) ms.length ms.length,.agg cells.toArray,.string s] w fun e w'=>e=.returned (.tuple #[])/\MK w' g (nameM v.ns s ms)/\Ext (fun k=>k=g) w w':=by
 obtain ⟨k,b,n,t,ns,xs⟩:=v;obtain ⟨a,l,c,a',l',c',rfl,-, r1,-⟩:=w_8.1 hv;obtain ⟨e1,e1'⟩:=r1.len;have hm2:=hm.2;have hdef:nameM ns s ms=joinM ms (ns.map fun u=>decide (u=s)):=rfl;have x9:EF w (w.alloc (.cells #[.int .i64 k,.bool b,.int .i64 n,.string t,.slice a l c,.slice a' l' c'] 27)):=(Ext.refl w).alloc _;have keep:∀ {w1:World},Ext (fun k=>k=g) w w1->Keep w w1:=fun hx T T' a v ht ho hat=>hx.at (fun e=>by
  have e:a.block=g:=e;obtain ⟨cs,fr,h1,-⟩:=hat;rw [e,hm.1] at h1;simp only [Option.some.injEq,Obj.cells.injEq] at h1;obtain ⟨-, rfl,-⟩:=h1;rcases ho with rfl|ho
  ·cases ht
  ·omega) hat
 refine A_u (some (adr g)) ms.length ms.length k b n t a l c a' l' c' s w _ ⟨trivial,fun i w1=>0<=i/\i<=ms.length/\i<=l/\∃ ms',x_k ms (ns.map fun u=>decide (u=s)) i.toNat ms'/\MK w1 g ms'/\Ext (fun k=>k=g) w w1,fun i _=>((ms.length:Int)-i).toNat,⟨by omega,by omega,by omega,ms,x_k.start ..,hm.ext x9 id,x9.mono fun _ _ e=>e.elim⟩,?_⟩;rintro i w1 ⟨i0,i1,i2,ms',hj,hmk,hx⟩ K7 hK7;have fin:((ms.length:Int)<=i∨(l:Int)<=i)->K7 false w1:=fun h=>hK7 false w1 ⟨nofun,fun _=>⟨rfl,by rw [show nameM (JV.mk k b n t ns xs).ns s ms=joinM ms (ns.map fun u=>decide (u=s)) from rfl,<- hj.end_ (by rw [List.length_map];omega)];exact hmk,hx⟩⟩;refine ⟨fun h1=>?_,fun h1=>fin (.inl (by have:=odf h1;omega))⟩;have h1:=odt h1;by_cases h2:i<(l:Int)
 ·rw [decide_eq_true h2];refine hK7 true w1 ⟨fun _ K10 hK10=>?_,nofun⟩;have hlen:=hj.1;obtain ⟨x,hxg⟩:∃ x,ms'[i.toNat]? =some x:=⟨_,List.getElem?_eq_getElem (by omega)⟩;obtain ⟨p,u,hp,hus,_,hc,rfl⟩:=(r1.keep (keep hx)).get i0 h2;have hyg:(ns.map fun u=>decide (u=s))[i.toNat]? =some (decide (u=s)):=by rw [List.getElem?_map,hus];rfl
  have next:∀ z,z=(x||decide (u=s))->K10 (w1.setCell ((adr g).add (i.toNat*1)) (.bool z)):=fun z hz=>by
   subst hz;refine hK10 _ ?_;rw [f_c (by omega) (by omega)];exact ⟨⟨by omega,by omega,by omega,_,by rw [show (i+1).toNat=i.toNat+1 by omega];exact hj.step hxg hyg,hmk.set _,hx.trans (w_1 _) fun _ _ e=>e⟩,by dsimp only;omega⟩
  refine ⟨_,rfl,⟨i0,h1⟩,x,hmk.get hxg,fun hb=>⟨p,hp,⟨i0,h2⟩,u,hc.1.choose_spec.2.cell,_,rfl,⟨i0,h1⟩,hmk.off (by omega) (by decide),trivial,next _ ?_⟩,fun hb=>⟨_,rfl,⟨i0,h1⟩,hmk.off (by omega) (by decide),trivial,next _ (by rw [hb];rfl)⟩⟩;rw [hb,Bool.false_or];cases hq:(u.toList==s.toList) with
  | true=>exact (decide_eq_true (a_b.1 hq)).symm
  | false=>exact (decide_eq_false (a_f.1 hq)).symm
 ·rw [decide_eq_false h2];exact fin (.inr (by omega))
abbrev nodV (a:OA)(l c:Nat)(s3:Sli):Value:=.agg #[.slice a l c,s3.v]
def JC (s:List JN)(f:Nat):Prop:=∀ (n:Int) (v:JV) (cs:List Value) (w:World) (a:OA) (l c:Nat) (s3:Sli),MJ s.length v n.toNat<f->1<=n->n<=s.length->okV v->RJNs w a l c s->RJV w v cs->DB.B<=w.heap.size->
 CP 34 #[.int .i64 2020,nodV a l c s3,.int .i64 n,.agg cs.toArray] w fun e w'=>∃ g,e=.returned (.tuple #[.bool (w_2 2020 s f n v).1,.slice (some (adr g)) (w_2 2020 s f n v).2.length (w_2 2020 s f n v).2.length])/\MK w' g (w_2 2020 s f n v).2/\w.heap.size<=g/\EF w w'
theorem z_5 {w:World}(hm:MK w g ms)(hB:DB.B<=g)(hx:Ext (fun k=>k=g) w w'):Keep w w':=fun T T' a v ht ho hat=>hx.at (fun e=>by
 have e:a.block=g:=e;obtain ⟨cs,fr,h1,-⟩:=hat;rw [e,hm.1] at h1;simp only [Option.some.injEq,Obj.cells.injEq] at h1;obtain ⟨-, rfl,-⟩:=h1;rcases ho with rfl|ho
 ·cases ht
 ·omega) hat
theorem w_6 {w:World}(hm:MK w g ms)(hx:Ext (fun k=>k=g) w w'){T:TypeId}(hT:4≠T):KeepT T w w':=fun k c fr hk=>hx.old k _ (fun e=>by
 have e:k=g:=e;rw [e,hm.1] at hk;simp only [Option.some.injEq,Obj.cells.injEq] at hk;exact hT hk.2.1) hk
theorem z_r {v:JV}{n:Int}:∀ (l:List Int) (st:Nat × List Bool),w_7 J v (l++[n]) st=((if (J n v).1 then (w_7 J v l st).1+1 else (w_7 J v l st).1),joinM (w_7 J v l st).2 (J n v).2)
 | [],st=>rfl
 | m::l,st=>by
  rw [List.cons_append,w_7,z_r l];rfl
section
variable {s:List JN} {f:Nat}
theorem B_Y (IH:JC s f){w:World}{a:OA}{l c:Nat}{s3:Sli}(hr:RJNs w a l c s){v:JV}{cs:List Value}(hv:RJV w v cs)(hok:okV v){na:OA}{nl nc:Nat}{ns:List Int}(hn:RInts w na nl nc ns)(hns:∀ n∈ns,1<=n/\n<=s.length/\MJ s.length v n.toNat<f)(hm:MK w g m)(hB:DB.B<=g):
  CP 72 #[.int .i64 2020,nodV a l c s3,.slice na nl nc,.agg cs.toArray,.slice (some (adr g)) m.length m.length] w fun e w'=>e=.returned (.int .i64 (w_7 (w_2 2020 s f) v ns (0,m)).1)/\MK w' g (w_7 (w_2 2020 s f) v ns (0,m)).2/\Ext (fun k=>k=g) w w':=by
 generalize hJ:w_2 2020 s f=J;obtain ⟨e1,e1'⟩:=hn.len;have hv0:=hv;have IH':=IH;unfold JC at IH';rw [hJ] at IH';have hok':=hok;have hns':=hns;obtain ⟨k,b,n,t,nms,xs⟩:=v;obtain ⟨a1,l1,c1,a2,l2,c2,rfl,-, -, -⟩:=w_8.1 hv;refine C_a 2020 a l c s3.a s3.l s3.c na nl nc k b n t a1 l1 c1 a2 l2 c2 (some (adr g)) m.length m.length w _ ⟨trivial,?_⟩;intro w12;have x12:EF w w12:=(Ext.refl _).alloc _;clear_value w12;refine ⟨trivial,?_⟩;intro w13;have x13:EF w12 w13:=(Ext.refl _).alloc _;clear_value w13;have y13:=x12.then x13;generalize hV:(JV.mk k b n t nms xs)=v at *;have hlenm:∀ i:Nat,(w_7 J v (ns.take i) (0,m)).2.length=m.length:=fun i=>x_B v _ _;refine ⟨fun many i w1=>0<=i/\i<=nl/\many=((w_7 J v (ns.take i.toNat) (0,m)).1:Nat)/\(many:Int)<=i/\MK w1 g (w_7 J v (ns.take i.toNat) (0,m)).2/\Ext (fun k=>k=g) w w1,fun _ i _=>((nl:Int)-i).toNat,⟨by omega,by omega,rfl,by omega,hm.ext y13 id,y13.mono fun _ _ e=>e.elim⟩,?_⟩;rintro many i w1 ⟨i0,i1,hmany,hmi,hmk,hx⟩;refine ⟨fun hlt K19 hK19=>?_,fun hge=>⟨?_,?_,hx⟩⟩
 ·have hlt:=odt hlt;rintro w22 hw22;have x22:EF w1 w22:=hw22▸(Ext.refl _).drew;clear hw22;have z22:Ext (fun k=>k=g) w w22:=hx.then x22;have kp:=z_5 hm hB z22;obtain ⟨p,q,hp,hqs,cq,hc,rfl⟩:=(hn.keep kp).get i0 hlt;obtain ⟨h1,h2,h3⟩:=hns' q (mg_ hqs);have hs22:=z22.size;refine ⟨p,hp,⟨i0,hlt⟩,q,hc.1.choose_spec.2.cell,(IH' q v _ w22 a l c s3 h3 h1 h2 hok' (RJNs.keep kp hr) (hv0.keep kp) (by have:=a_3 hm.1;omega)).mono ?_⟩;rintro _ w26 ⟨g2,rfl,hm2,hg2,x26⟩;have hmk26:=(hmk.ext x22 id).ext x26 id;have hne:g2≠g:=by have:=a_3 hm.1;omega
  have hl':=hlenm i.toNat;have cj:=A_L hmk26 hm2 hne;rw [hl'] at cj;refine ⟨_,_,_,_,rfl,⟨x26.keepT _,x26.keepT _,trivial⟩,trivial,trivial,trivial,cj.mono ?_⟩;rintro _ w30 ⟨rfl,hmk30,x30⟩;have z30:Ext (fun k=>k=g) w w30:=(z22.then x26).trans x30 fun _ _ e=>e;have e2:ns.take (i+1).toNat=ns.take i.toNat++[q]:=take_succ i0 hqs;have nx:∀ many',many'=((if (J q v).1 then (w_7 J v (ns.take i.toNat) (0,m)).1+1 else (w_7 J v (ns.take i.toNat) (0,m)).1:Nat):Int)->many'<=i+1->K19 many' w30:=fun many' h4 h5=>hK19 many' w30 (by
   rw [f_c (by omega) (by omega)];refine ⟨⟨by omega,by omega,?_,h5,?_,z30⟩,by dsimp only;omega⟩
   ·rw [e2,z_r];exact h4
   ·rw [e2,z_r];exact hmk30)
  refine ⟨rfl,⟨w_6 hmk26 x30 (by decide),w_6 hmk26 x30 (by decide),trivial⟩,fun hb=>?_,fun hb=>?_⟩
  ·rw [f_c (by omega) (by omega)];refine nx _ ?_ (by omega);rw [hb,if_pos rfl,hmany];omega
  ·refine nx _ ?_ (by omega);rw [hb,if_neg (by decide),hmany]
 ·have hge:=odf hge;have:ns.take i.toNat=ns:=tl_ (by omega);rw [this] at hmany;rw [hmany]
 ·have hge:=odf hge;have:ns.take i.toNat=ns:=tl_ (by omega);rw [this] at hmk;exact hmk
end
section
variable {s:List JN} {f:Nat} {w:World} {a:OA} {l c:Nat} {sk:Sli}
theorem D_6 (IH:JC s f)(hr:RJNs w a l c s){v:JV}{cs:List Value}(hv:RJV w v cs)(hok:okV v)(hB:DB.B<=w.heap.size){m:JMo}(hm:m.k=3->1<=m.node/\m.node<=s.length/\MJ s.length v m.node.toNat<f):
  CP 109 #[.int .i64 2020,nodV a l c sk,.agg #[.int .i64 m.k,.int .i64 m.node],.agg cs.toArray] w fun e w'=>e=.returned (.tuple #[.bool (jmore (w_2 2020 s f) m v).1,.bool (jmore (w_2 2020 s f) m v).2])/\EF w w':=by
 have hv0:=hv;have IH':=IH;unfold JC at IH';generalize w_2 2020 s f=J at *;obtain ⟨k,b,n,t,ns,xs⟩:=v;obtain ⟨a1,l1,c1,a2,l2,c2,rfl,-, -, -⟩:=w_8.1 hv;refine E_k 2020 a l c sk.a sk.l sk.c m.k m.node k b n t a1 l1 c1 a2 l2 c2 w _ ⟨trivial,?_⟩;intro w12;have x12:EF w w12:=(Ext.refl _).alloc _;clear_value w12;refine ⟨trivial,?_⟩;intro w13;have x13:EF w w13:=x12.alloc _;clear_value w13;refine ⟨trivial,?_⟩;intro w14;have x14:EF w w14:=x13.alloc _;clear_value w14;unfold jmore;refine ⟨fun h1=>?_,fun h1=>⟨fun h2=>?_,fun h2=>⟨fun h3=>?_,fun h3=>?_⟩⟩⟩
 ·have h1:m.k=1:=by simpa using h1
  rw [if_pos h1];exact ⟨rfl,x14⟩
 ·have h1:m.k≠1:=by simpa using h1
  have h2:m.k=2:=by simpa using h2
  rw [if_neg h1,if_pos h2];exact ⟨rfl,x14⟩
 ·have h1:m.k≠1:=by simpa using h1
  have h2:m.k≠2:=by simpa using h2
  have h3:m.k=3:=by simpa using h3
  rw [if_neg h1,if_neg h2,if_pos h3];obtain ⟨n1,n2,n3⟩:=hm h3;refine (IH' m.node _ _ w14 a l c sk n3 n1 n2 hok (RJNs.keep x14.keep hr) (hv0.keep x14.keep) (lt_ hB x14.size)).mono ?_;rintro _ w16 ⟨g,rfl,-, -, x16⟩;exact ⟨_,_,_,_,rfl,⟨x16.keepT _,x16.keepT _,x16.keepT _,trivial⟩,rfl,x14.then x16⟩
 ·have h1:m.k≠1:=by simpa using h1
  have h2:m.k≠2:=by simpa using h2
  have h3:m.k≠3:=by simpa using h3
  rw [if_neg h1,if_neg h2,if_neg h3];exact ⟨rfl,x14⟩
theorem B_W (IH:JC s f)(hr:RJNs w a l c s){x:JN}{xc:List Value}(hx:RJN w x xc){v:JV}{cs:List Value}(hv:RJV w v cs)(hok:okV v)(hB:DB.B<=w.heap.size)(hn:∀ n:Int,(n∈x.first∨n=x.items)->n≠0->1<=n/\n<=s.length/\MJ s.length v n.toNat<f):
  CP 82 #[.int .i64 2020,nodV a l c sk,.agg xc.toArray,.int .i64 (i:Int),.agg cs.toArray] w fun e w'=>e=.returned (.tuple #[.bool (jelem 2020 (w_2 2020 s f) x i v).1,.bool (jelem 2020 (w_2 2020 s f) x i v).2])/\EF w w':=by
 have hv0:=hv;have IH':=IH;unfold JC at IH';generalize w_2 2020 s f=J at *;have hok':=hok;obtain ⟨s3,s4,s5,s10,s12,s13,s19,s21,s31,s39,s40,s41,s42,s43,s50,s53,rfl,h1,h2,h3,h4,h5,h6,h7,h8,h9,h10,h11,h12,h13,h14,h15,h16⟩:=hx;obtain ⟨k,b,n,t,ns,xs⟩:=v;obtain ⟨a1,l1,c1,a2,l2,c2,rfl,-, -, -⟩:=w_8.1 hv;generalize hV:(JV.mk k b n t ns xs)=v at *;refine B_8 2020 a l c sk.a sk.l sk.c x.kind x.ref s3.a s3.l s3.c s4.a s4.l s4.c s5.a s5.l s5.c x.nt x.iff x.thn x.els s10.a s10.l s10.c x.hasEnum s12.a s12.l s12.c s13.a s13.l s13.c x.minL.is x.minL.n x.maxL.is x.maxL.n x.pat.is s19.a s19.l s19.c x.fmt.is s21.a s21.l s21.c x.minI.is x.minI.n x.maxI.is x.maxI.n x.minC.is x.minC.n x.maxC.is x.maxC.n x.uniq s31.a s31.l s31.c x.items x.cont x.restI x.minP.is x.minP.n x.maxP.is x.maxP.n s39.a s39.l s39.c s40.a s40.l s40.c s41.a s41.l s41.c s42.a s42.l s42.c s43.a s43.l s43.c x.more.k x.more.node x.names x.restP x.single x.hasPl s50.a s50.l s50.c x.others.k x.others.node s53.a s53.l s53.c (i:Int) k b n t a1 l1 c1 a2 l2 c2 w _ ⟨trivial,?_⟩;intro w12;have x12:EF w w12:=(Ext.refl _).alloc _;clear_value w12;refine ⟨trivial,?_⟩;intro w13;have x13:EF w w13:=x12.alloc _;clear_value w13;refine ⟨trivial,?_⟩;intro w14;have x14:EF w w14:=x13.alloc _;clear_value w14;intro K67 hK67;obtain ⟨e9,e9'⟩:=h9.len;have k67:∀ n:Int,(n∈x.first∨n=x.items)->jelem 2020 J x i v=(if n=0 then (true,false) else ((J n v).1,true))->K67 n w14:=fun n hn1 he=>by
  refine hK67 n w14 fun K70 hK70=>⟨nofun,fun _=>hK70 n w14 ⟨fun h0=>?_,fun h0=>?_⟩⟩
  ·have h0:n=0:=by simpa using h0
   rw [he,if_pos h0];exact ⟨rfl,x14⟩
  ·have h0:n≠0:=by simpa using h0
   obtain ⟨n1,n2,n3⟩:=hn n hn1 h0;rw [he,if_neg h0];refine (IH' n _ _ w14 a l c sk n3 n1 n2 hok' (RJNs.keep x14.keep hr) (hv0.keep x14.keep) (lt_ hB x14.size)).mono ?_;rintro _ w16 ⟨g,rfl,-, -, x16⟩;exact ⟨_,_,_,_,rfl,⟨x16.keepT _,x16.keepT _,x16.keepT _,trivial⟩,rfl,x14.then x16⟩
 refine ⟨fun hlt=>?_,fun hge=>?_⟩
 ·have hlt:=odt hlt;obtain ⟨p,q,hp,hqs,cq,hc,rfl⟩:=(h9.keep x14.keep).get (i:=(i:Int)) (by omega) hlt;refine ⟨p,hp,⟨by omega,hlt⟩,q,hc.1.choose_spec.2.cell,k67 q (.inl (mg_ hqs)) ?_⟩;rw [Int.toNat_natCast] at hqs;unfold jelem;rw [if_neg (by decide),hqs]
 ·have hge:=odf hge;refine k67 x.items (.inr rfl) ?_;unfold jelem;rw [if_neg (by decide),List.getElem?_eq_none (by omega)]
theorem z_M (IH:JC s f)(hr:RJNs w a l c s){x:JN}{xc:List Value}(hx:RJN w x xc){v:JV}{cs:List Value}(hv:RJV w v cs)(hok:okV v)(hm:MK w g m)(hB:DB.B<=g)(hiff:x.iff≠0)(hn:∀ n:Int,(n=x.iff∨n=x.thn∨n=x.els)->n≠0->1<=n/\n<=s.length/\MJ s.length v n.toNat<f):
  CP 73 #[.int .i64 2020,nodV a l c sk,.agg xc.toArray,.agg cs.toArray,.slice (some (adr g)) m.length m.length] w fun e w'=>e=.returned (.bool (jcond (w_2 2020 s f) x v m).1)/\MK w' g (jcond (w_2 2020 s f) x v m).2/\Ext (fun k=>k=g) w w':=by
 have hv0:=hv;have IH':=IH;unfold JC at IH';generalize w_2 2020 s f=J at *;have hok':=hok;obtain ⟨s3,s4,s5,s10,s12,s13,s19,s21,s31,s39,s40,s41,s42,s43,s50,s53,rfl,h1,h2,h3,h4,h5,h6,h7,h8,h9,h10,h11,h12,h13,h14,h15,h16⟩:=hx;obtain ⟨k,b,n,t,ns,xs⟩:=v;obtain ⟨a1,l1,c1,a2,l2,c2,rfl,-, -, -⟩:=w_8.1 hv;generalize hV:(JV.mk k b n t ns xs)=v at *;refine z_P 2020 a l c sk.a sk.l sk.c x.kind x.ref s3.a s3.l s3.c s4.a s4.l s4.c s5.a s5.l s5.c x.nt x.iff x.thn x.els s10.a s10.l s10.c x.hasEnum s12.a s12.l s12.c s13.a s13.l s13.c x.minL.is x.minL.n x.maxL.is x.maxL.n x.pat.is s19.a s19.l s19.c x.fmt.is s21.a s21.l s21.c x.minI.is x.minI.n x.maxI.is x.maxI.n x.minC.is x.minC.n x.maxC.is x.maxC.n x.uniq s31.a s31.l s31.c x.items x.cont x.restI x.minP.is x.minP.n x.maxP.is x.maxP.n s39.a s39.l s39.c s40.a s40.l s40.c s41.a s41.l s41.c s42.a s42.l s42.c s43.a s43.l s43.c x.more.k x.more.node x.names x.restP x.single x.hasPl s50.a s50.l s50.c x.others.k x.others.node s53.a s53.l s53.c k b n t a1 l1 c1 a2 l2 c2 (some (adr g)) m.length m.length w _ ⟨trivial,?_⟩;intro w12;have x12:EF w w12:=(Ext.refl _).alloc _;clear_value w12;refine ⟨trivial,?_⟩;intro w13;have x13:EF w w13:=x12.alloc _;clear_value w13;refine ⟨trivial,?_⟩;intro w14;have x14:EF w w14:=x13.alloc _;clear_value w14;have hgl:=a_3 hm.1;obtain ⟨n1,n2,n3⟩:=hn x.iff (.inl rfl) hiff;have hs14:=x14.size;refine (IH' x.iff _ _ w14 a l c sk n3 n1 n2 hok' (RJNs.keep x14.keep hr) (hv0.keep x14.keep) (by omega)).mono ?_;rintro _ w68 ⟨g2,rfl,hm2,hg2,x68⟩;have hm68:=(hm.ext x14 id).ext x68 id;refine ⟨_,_,_,_,rfl,⟨x68.keepT _,x68.keepT _,x68.keepT _,trivial⟩,(A_L hm68 hm2 (by omega)).mono ?_⟩;rintro _ w72 ⟨rfl,hm72,x72⟩;have z72:Ext (fun k=>k=g) w w72:=(((x14.then x68).mono fun _ _ e=>e.elim).trans x72 fun _ _ e=>e);have kp:=z_5 hm hB z72;refine ⟨rfl,⟨w_6 hm68 x72 (by decide),w_6 hm68 x72 (by decide),w_6 hm68 x72 (by decide),trivial⟩,fun K73 hK73=>?_⟩;have hlen:(joinM m (J x.iff v).2).length=m.length:=x_b _ _;have k73:∀ nx:Int,nx=(if (J x.iff v).1 then x.thn else x.els)->K73 nx w72:=fun nx hnx=>by
  have hc:jcond J x v m=if nx=0 then (true,joinM m (J x.iff v).2) else ((J nx v).1,joinM (joinM m (J x.iff v).2) (J nx v).2):=by
   rw [hnx];rfl
  refine hK73 nx w72 ⟨fun h0=>?_,fun h0=>?_⟩
  ·have h0:nx=0:=by simpa using h0
   rw [hc,if_pos h0];exact ⟨rfl,hm72,z72⟩
  ·have h0:nx≠0:=by simpa using h0
   rw [hc,if_neg h0];obtain ⟨p1,p2,p3⟩:=hn nx (.inr (by rw [hnx];split;exact .inl rfl;exact .inr rfl)) h0;have hs72:=z72.size;refine (IH' nx _ _ w72 a l c sk p3 p1 p2 hok' (RJNs.keep kp hr) (hv0.keep kp) (by omega)).mono ?_;rintro _ w77 ⟨g3,rfl,hm3,hg3,x77⟩;have hm77:=hm72.ext x77 id;have cj:=A_L hm77 hm3 (by omega);rw [hlen] at cj;refine ⟨_,_,_,_,rfl,⟨x77.keepT _,x77.keepT _,x77.keepT _,trivial⟩,cj.mono ?_⟩;rintro _ w81 ⟨rfl,hm81,x81⟩;exact ⟨rfl,⟨w_6 hm77 x81 (by decide),w_6 hm77 x81 (by decide),w_6 hm77 x81 (by decide),trivial⟩,rfl,hm81,(z72.then x77).trans x81 fun _ _ e=>e⟩
 exact ⟨fun hb=>k73 _ (by rw [hb];rfl),fun hb=>k73 _ (by rw [hb];rfl)⟩
end
theorem MK.offF {w:World}(h:MK w g ms)(hi:i<ms.length){F:TypeId->Bool}(hT:F 4=false):∃ (cs:Array Value) (T:TypeId),objAt w ((adr g).add (i*1)).block=some (.cells cs T (0,0))/\((adr g).add (i*1)).spot=none/\((adr g).add (i*1)).off+1<=cs.size/\F T=false:=by
 refine ⟨(ms.map Value.bool).toArray,4,?_⟩;rw [Nat.mul_one,Addr.add_lit];exact ⟨h.1,rfl,by simp;omega,hT⟩
theorem x_k.skip {ms':List Bool}(h:x_k ms ls i ms'){x:Bool}(hx:ms'[i]? =some x)(hy:ls[i]? =some false):x_k ms ls (i+1) ms':=by
 have:=h.step hx hy;rw [Bool.or_false] at this;have e:ms'.set i x=ms':=by
  apply List.ext_getElem?;intro j;rw [List.getElem?_set];by_cases hj:i=j
  ·subst hj;rw [if_pos rfl,if_pos (List.getElem?_eq_some_iff.1 hx).1,hx]
  ·rw [if_neg hj]
 rwa [e] at this
section
variable {s:List JN} {f:Nat} {w:World} {a:OA} {l c:Nat} {sk:Sli}
theorem A_6 (IH:JC s f)(hr:RJNs w a l c s){x:JN}{xc:List Value}(hx:RJN w x xc){v:JV}{cs:List Value}(hv:RJV w v cs)(hok:okV v)(hm:MK w g m)(hB:DB.B<=g)(hml:m.length=v.xs.length)(hn:1<=x.cont/\x.cont<=s.length/\∀ y∈v.xs,MJ s.length y x.cont.toNat<f):
  CP 83 #[.int .i64 2020,nodV a l c sk,.agg xc.toArray,.agg cs.toArray,.slice (some (adr g)) m.length m.length] w fun e w'=>e=.returned (.bool (bound ((v.xs.map fun y=>(w_2 2020 s f x.cont y).1).filter id).length (if x.minC.is then x.minC else ⟨true,1⟩) x.maxC))/\MK w' g (joinM m (v.xs.map fun y=>(w_2 2020 s f x.cont y).1))/\Ext (fun k=>k=g) w w':=by
 have hv0:=hv;have IH':=IH;unfold JC at IH';generalize w_2 2020 s f=J at *;obtain ⟨s3,s4,s5,s10,s12,s13,s19,s21,s31,s39,s40,s41,s42,s43,s50,s53,rfl,h1,h2,h3,h4,h5,h6,h7,h8,h9,h10,h11,h12,h13,h14,h15,h16⟩:=hx;obtain ⟨k,b,n,t,ns,xs⟩:=v;obtain ⟨a1,l1,c1,a2,l2,c2,rfl,-, r1,r2⟩:=w_8.1 hv;have hsub:∀ y∈xs,okV y:=fun y hy=>hok.sub hy;simp only [JV.xs] at hml hn ⊢;obtain ⟨e2,e2'⟩:=r2.len;generalize hL:(xs.map fun y=>(J x.cont y).1)=L;have hLg:∀ (i:Nat) y,xs[i]? =some y->L[i]? =some (J x.cont y).1:=fun i y h=>by rw [<- hL,List.getElem?_map,h];rfl
 have hLl:L.length=xs.length:=by rw [<- hL,List.length_map]
 have hgl:=a_3 hm.1;refine B_e 2020 a l c sk.a sk.l sk.c x.kind x.ref s3.a s3.l s3.c s4.a s4.l s4.c s5.a s5.l s5.c x.nt x.iff x.thn x.els s10.a s10.l s10.c x.hasEnum s12.a s12.l s12.c s13.a s13.l s13.c x.minL.is x.minL.n x.maxL.is x.maxL.n x.pat.is s19.a s19.l s19.c x.fmt.is s21.a s21.l s21.c x.minI.is x.minI.n x.maxI.is x.maxI.n x.minC.is x.minC.n x.maxC.is x.maxC.n x.uniq s31.a s31.l s31.c x.items x.cont x.restI x.minP.is x.minP.n x.maxP.is x.maxP.n s39.a s39.l s39.c s40.a s40.l s40.c s41.a s41.l s41.c s42.a s42.l s42.c s43.a s43.l s43.c x.more.k x.more.node x.names x.restP x.single x.hasPl s50.a s50.l s50.c x.others.k x.others.node s53.a s53.l s53.c k b n t a1 l1 c1 a2 l2 c2 (some (adr g)) m.length m.length w _ ⟨trivial,?_⟩;intro w64;have x64:EF w w64:=(Ext.refl _).alloc _;clear_value w64;refine ⟨trivial,?_⟩;intro w65;have x65:EF w w65:=x64.alloc _;clear_value w65;refine ⟨trivial,?_⟩;intro w66;have x66:EF w w66:=x65.alloc _;clear_value w66;refine ⟨fun many i w1=>0<=i/\i<=l2/\many=(((L.take i.toNat).filter id).length:Nat)/\(∃ ms,x_k m L i.toNat ms/\MK w1 g ms)/\Ext (fun k=>k=g) w w1,fun _ i _=>((l2:Int)-i).toNat,⟨by omega,by omega,by simp,⟨m,x_k.start ..,hm.ext x66 id⟩,x66.mono fun _ _ e=>e.elim⟩,?_⟩;rintro many i w1 ⟨i0,i1,hmany,⟨ms,hj,hmk⟩,hx⟩;have hle:((L.take i.toNat).filter id).length<=i.toNat:=lt_ (List.length_filter_le _ _) (List.length_take_le _ _);refine ⟨fun hlt K72 hK72 w75 hw75=>?_,fun hge=>?_⟩
 ·have hlt:=odt hlt;have x75:EF w1 w75:=hw75▸(Ext.refl _).drew;clear hw75;have z75:=hx.then x75;have kp:=z_5 hm hB z75;have hs75:=z75.size;obtain ⟨p,y,hp,hy,cy,hcy,hvy⟩:=(r2.keep kp).get i0 hlt;have hym:=mg_ hy;obtain ⟨n1,n2,n3⟩:=hn;have call:=IH' x.cont y cy w75 a l c sk (n3 y hym) n1 n2 (hsub y hym) (RJNs.keep kp hr) hvy (by omega);have hLi:=hLg _ _ hy;have htk:L.take (i+1).toNat=L.take i.toNat++[(J x.cont y).1]:=take_succ i0 hLi;have hj1:=hj.1;obtain ⟨q,hq⟩:∃ q,ms[i.toNat]? =some q:=⟨_,List.getElem?_eq_getElem (by omega)⟩;obtain ⟨yk,yb,yn,yt,yns,yxs⟩:=y;obtain ⟨a5,l5,c5,a6,l6,c6,rfl,-, -, -⟩:=w_8.1 hvy;obtain ⟨⟨_,_,g0⟩,-, ⟨_,_,g1⟩,-, ⟨_,_,g2⟩,-, ⟨_,_,g3⟩,-, ⟨_,_,g4⟩,-, ⟨_,_,g5⟩,-⟩:=hcy;refine ⟨p,hp,⟨i0,hlt⟩,_,g0.cell,_,g1.cell,_,g2.cell,_,g3.cell,_,_,_,g4.cell,_,_,_,g5.cell,call.mono ?_⟩;rintro _ w84 ⟨gg,rfl,-, -, x84⟩;have hmk84:=(hmk.ext x75 id).ext x84 id;have z84:=z75.then x84;have k72:∀ (many':Int) (w':World) (ms':List Bool),many'=(((L.take (i+1).toNat).filter id).length:Nat)->x_k m L (i.toNat+1) ms'->MK w' g ms'->Ext (fun k=>k=g) w w'->K72 many' w':=fun many' w' ms' q1 q2 q3 q4=>hK72 many' w' (by
   rw [a_a i0 (by omega)];exact next i0 hlt ⟨q1,⟨ms',by rw [show (i+1).toNat=i.toNat+1 by omega];exact q2,q3⟩,q4⟩)
  refine ⟨_,_,_,_,rfl,⟨x84.keepT _,x84.keepT _,x84.keepT _,trivial⟩,trivial,trivial,trivial,fun hb K87 hK87=>?_,fun hb=>k72 _ _ ms ?_ (hj.skip hq (by rw [hLi,hb])) hmk84 z84⟩
  ·have st:K87 (w84.setCell ((adr g).add (i.toNat*1)) (.bool true)):=hK87 _ (k72 _ _ (ms.set i.toNat true) (by
    rw [f_c (by omega) (by omega),htk,List.filter_append,la_,hmany,hb];simp) (by
    have:=hj.step hq hLi
    rwa [hb,Bool.or_true] at this) (hmk84.set true) (z84.trans (w_1 _) fun _ _ e=>e))
   exact ⟨_,rfl,⟨i0,by omega⟩,q,hmk84.get hq,fun _=>⟨_,rfl,⟨i0,by omega⟩,hmk84.offF (by omega) (by decide),trivial,st⟩,fun _=>⟨_,rfl,⟨i0,by omega⟩,hmk84.offF (by omega) (by decide),trivial,st⟩⟩
  ·rw [htk,List.filter_append,la_,hmany,hb];simp
 ·have hge:=odf hge;have hfull:L.take i.toNat=L:=tl_ (by omega);rw [hfull] at hmany;have hms:ms=joinM m L:=hj.end_ (.inl (by omega));subst hms;refine ⟨trivial,trivial,trivial,?_⟩;intro w96;have x96:EF w1 w96:=(Ext.refl _).alloc _;intro K97 hK97;have k97:∀ (y:JLim) (w':World),EF w1 w'->y=(if x.minC.is then x.minC else ⟨true,1⟩)->K97 y.is y.n w':=fun y w' x' hy=>hK97 y.is y.n w' ((y_m many y x.maxC).mono (by
   rintro _ w102 ⟨b103,rfl,x102,rfl⟩;exact ⟨_,rfl,⟨x102.keepT _,x102.keepT _,x102.keepT _,x102.keepT _,trivial⟩,by rw [hmany,hy],(hmk.ext x' id).ext x102 id,(hx.then x').then x102⟩))
  exact ⟨fun h=>⟨trivial,k97 x.minC _ (x96.setB (.inr (Nat.le_refl _)) _ _) (by rw [if_pos h])⟩,fun h=>k97 ⟨true,1⟩ _ x96 (by rw [if_neg (by rw [h];decide)])⟩
theorem C_p (IH:JC s f)(hr:RJNs w a l c s){x:JN}{xc:List Value}(hx:RJN w x xc){v:JV}{cs:List Value}(hv:RJV w v cs)(hok:okV v)(hB:DB.B<=w.heap.size)(name:BA)
  (hp:∀ q∈x.props,1<=q.node/\q.node<=s.length/\MJ s.length v q.node.toNat<f) (hq:∀ q∈x.pats,1<=q.node/\q.node<=s.length/\MJ s.length v q.node.toNat<f) (hmo:x.more.k=3->1<=x.more.node/\x.more.node<=s.length/\MJ s.length v x.more.node.toNat<f):
  CP 86 #[.int .i64 2020,nodV a l c sk,.agg xc.toArray,.string name,.agg cs.toArray] w fun e w'=>e=.returned (.tuple #[.bool (x_d (w_2 2020 s f) x name v).1,.bool (x_d (w_2 2020 s f) x name v).2])/\EF w w':=by
 have hv0:=hv;have IH':=IH;unfold JC at IH';have more:=fun (w':World) (x':EF w w')=>D_6 (sk:=sk) IH (RJNs.keep x'.keep hr) (hv.keep x'.keep) hok (lt_ hB x'.size) (m:=x.more) hmo;generalize w_2 2020 s f=J at *;obtain ⟨s3,s4,s5,s10,s12,s13,s19,s21,s31,s39,s40,s41,s42,s43,s50,s53,rfl,h1,h2,h3,h4,h5,h6,h7,h8,h9,h10,h11,h12,h13,h14,h15,h16⟩:=hx;obtain ⟨e13,e13'⟩:=h13.len;obtain ⟨e14,e14'⟩:=h14.len;obtain ⟨k,b,n,t,ns,xs⟩:=v;obtain ⟨a1,l1,c1,a2,l2,c2,rfl,-, r1,r2⟩:=w_8.1 hv;generalize hV:(JV.mk k b n t ns xs)=v at *;refine C_Q 2020 a l c sk.a sk.l sk.c x.kind x.ref s3.a s3.l s3.c s4.a s4.l s4.c s5.a s5.l s5.c x.nt x.iff x.thn x.els s10.a s10.l s10.c x.hasEnum s12.a s12.l s12.c s13.a s13.l s13.c x.minL.is x.minL.n x.maxL.is x.maxL.n x.pat.is s19.a s19.l s19.c x.fmt.is s21.a s21.l s21.c x.minI.is x.minI.n x.maxI.is x.maxI.n x.minC.is x.minC.n x.maxC.is x.maxC.n x.uniq s31.a s31.l s31.c x.items x.cont x.restI x.minP.is x.minP.n x.maxP.is x.maxP.n s39.a s39.l s39.c s40.a s40.l s40.c s41.a s41.l s41.c s42.a s42.l s42.c s43.a s43.l s43.c x.more.k x.more.node x.names x.restP x.single x.hasPl s50.a s50.l s50.c x.others.k x.others.node s53.a s53.l s53.c name k b n t a1 l1 c1 a2 l2 c2 w _ ⟨trivial,?_⟩;intro w64;have x64:EF w w64:=(Ext.refl _).alloc _;clear_value w64;refine ⟨trivial,?_⟩;intro w65;have x65:EF w w65:=x64.alloc _;clear_value w65;refine ⟨trivial,?_⟩;intro w66;have x66:EF w w66:=x65.alloc _;clear_value w66;generalize hpr:(fun q:JPr=>decide (q.name=name))=pr;generalize hF:x.props.reverse.find? pr=F;rw [n_k (by omega) (by omega)];refine ⟨fun ok done i w1=> -1<=i/\i<s42.l/\EF w w1/\(done=false->ok=true/\F=(x.props.take (i+1).toNat).reverse.find? pr)/\(done=true->∃ q,F=some q/\ok=(J q.node v).1),fun _ _ i _=>(i+1).toNat,⟨by omega,by omega,x66,fun _=>⟨rfl,by rw [tl_ (by omega),hF]⟩,nofun⟩,?_⟩;rintro ok done i w72 ⟨i0,i1,hx,hd0,hd1⟩;intro K73 hK73
 suffices k73:∀ b,(b=true->0<=i/\done=false)->(b=false->done=true∨i= -1)->K73 b w72 by
  refine ⟨fun h=>k73 _ (fun h'=>⟨odt h,by simpa using h'⟩) (fun h'=>.inl (by simpa using h')),fun h=>k73 _ nofun fun _=>.inr ?_⟩;have:=odf h;omega
 intro b' ht hf;refine hK73 b' w72 ⟨fun hb K76 hK76=>?_,fun hb=>?_⟩
 ·obtain ⟨h0,hdn⟩:=ht hb;obtain ⟨hok1,hF1⟩:=hd0 hdn;obtain ⟨p,q,hp',hq',cq,hc,rfl⟩:=SlL.get (RJPrs.keep hx.keep h13) h0 i1;obtain ⟨⟨_,_,g0⟩,-, ⟨_,_,g1⟩,-, -⟩:=hc;have e:x.props.take (i+1).toNat=x.props.take i.toNat++[q]:=take_succ h0 hq';have k76:∀ (ok' dn':Bool) (w':World),EF w w'->(dn'=false->ok'=true/\F=(x.props.take i.toNat).reverse.find? pr)->(dn'=true->∃ q,F=some q/\ok'=(J q.node v).1)->K76 ok' dn' w':=fun ok' dn' w' q1 q2 q3=>hK76 ok' dn' w' (by
   rw [n_k (by omega) (by omega)];exact ⟨⟨by omega,by omega,q1,by rw [Int.sub_add_cancel];exact q2,q3⟩,by dsimp only;omega⟩)
  refine ⟨p,hp',⟨h0,i1⟩,q.name,g0.cell,fun he=>?_,fun hne=>?_⟩
  ·intro w82 hw82;have z82:EF w72 w82:=hw82▸(Ext.refl _).drew;clear hw82;have x82:=hx.then z82;obtain ⟨n1,n2,n3⟩:=hp q (mg_ hq');refine ⟨p,hp',⟨h0,i1⟩,q.node,z82.cell g1 id,(IH' q.node _ _ w82 a l c sk n3 n1 n2 hok (RJNs.keep x82.keep hr) (hv0.keep x82.keep) (lt_ hB x82.size)).mono ?_⟩;rintro _ w86 ⟨gg,rfl,-, -, x86⟩;refine ⟨_,_,_,_,rfl,⟨x86.keepT _,x86.keepT _,x86.keepT _,trivial⟩,trivial,trivial,k76 _ _ _ (x82.then x86) nofun fun _=>⟨q,?_,rfl⟩⟩;rw [hF1,e,List.reverse_append,<- hpr];simp [a_b.1 he]
  ·refine k76 _ _ _ hx (fun _=>⟨hok1,?_⟩) (fun h=>by rw [hdn] at h;cases h);rw [hF1,e,List.reverse_append,<- hpr];simp [a_f.1 hne]
 ·have hst:ok=(match (generalizing:=false) F with |some q=>(J q.node v).1|none=>true)/\done=F.isSome:=by
   cases hdn:done with
   | true=>
    obtain ⟨q,q1,q2⟩:=hd1 hdn;rw [q1];exact ⟨q2,rfl⟩
   | false=>
    obtain ⟨q1,q2⟩:=hd0 hdn;have hi:i= -1:=(hf hb).resolve_left (by rw [hdn];decide);rw [hi] at q2;rw [q2];exact ⟨q1,rfl⟩
  generalize hpq:(fun q:JPa=>among name q.ts)=pq;refine ⟨fun ok2 dn2 j w1=>0<=j/\j<=s43.l/\EF w w1/\ok2=(ok&&((x.pats.take j.toNat).filter pq).all fun q=>(J q.node v).1)/\dn2=(done|| !((x.pats.take j.toNat).filter pq).isEmpty),fun _ _ j _=>((s43.l:Int)-j).toNat,⟨by omega,by omega,hx,by simp,by simp⟩,?_⟩;rintro ok2 dn2 j w94 ⟨j0,j1,hx94,hok2,hdn2⟩;refine ⟨fun hlt K95 hK95=>?_,fun hge=>?_⟩
  ·have hlt:=odt hlt;obtain ⟨p,q,hp',hq',cq,hc,a7,l7,c7,rfl,hts⟩:=SlL.get (RJPas.keep hx94.keep h14) j0 hlt;obtain ⟨⟨_,_,g0⟩,-, ⟨_,_,g1⟩,-, -⟩:=hc;have e:x.pats.take (j+1).toNat=x.pats.take j.toNat++[q]:=take_succ j0 hq';have k95:∀ (ok' dn':Bool) (w':World),EF w w'->ok'=(ok&&((x.pats.take (j+1).toNat).filter pq).all fun q=>(J q.node v).1)->dn'=(done|| !((x.pats.take (j+1).toNat).filter pq).isEmpty)->K95 ok' dn' w':=fun ok' dn' w' q1 q2 q3=>hK95 ok' dn' w' (by
    rw [a_a j0 (by omega)];exact next j0 hlt ⟨q1,q2,q3⟩)
   refine ⟨p,hp',⟨j0,hlt⟩,_,_,_,g0.cell,(B_v name hts).mono ?_⟩;rintro _ w102 ⟨b103,rfl,x102,hb103⟩;have y102:=hx94.then x102;have hpqq:pq q=b103:=by rw [<- hpq,hb103]
   refine ⟨_,rfl,⟨x102.keepT _,x102.keepT _,x102.keepT _,trivial⟩,fun hb=>?_,fun hb=>k95 _ _ _ y102 ?_ ?_⟩
   ·intro w104 hw104;have z104:EF w102 w104:=hw104▸(Ext.refl _).drew;clear hw104;have x104:=y102.then z104;obtain ⟨n1,n2,n3⟩:=hq q (mg_ hq');refine ⟨p,hp',⟨j0,hlt⟩,q.node,(x102.then z104).cell g1 id,(IH' q.node _ _ w104 a l c sk n3 n1 n2 hok (RJNs.keep x104.keep hr) (hv0.keep x104.keep) (lt_ hB x104.size)).mono ?_⟩;rintro _ w108 ⟨gg,rfl,-, -, x108⟩;have hft:(x.pats.take (j+1).toNat).filter pq=(x.pats.take j.toNat).filter pq++[q]:=by rw [e,List.filter_append];simp [hpqq,hb]
    refine ⟨_,_,_,_,rfl,⟨x108.keepT _,x108.keepT _,x108.keepT _,trivial⟩,trivial,trivial,trivial,fun h1=>k95 _ _ _ (x104.then x108) ?_ (by rw [hft];simp),fun h1=>k95 _ _ _ (x104.then x108) ?_ (by rw [hft];simp)⟩
    ·rw [hft,List.all_append,<- Bool.and_assoc,<- hok2,h1];simp
    ·rw [hft,List.all_append,<- Bool.and_assoc,<- hok2,h1];simp
   ·rw [hok2,e,List.filter_append];simp [hpqq,hb]
   ·rw [hdn2,e,List.filter_append];simp [hpqq,hb]
  ·have hge:=odf hge;rw [tl_ (by omega)] at hok2 hdn2;have hjm:x_d J x name v=if dn2=true then (ok2,true) else jmore J x.more v:=by
    unfold x_d;rw [hpr,hpq,hdn2,hok2,hst.1,hst.2,hF];rfl
   rw [hjm];refine ⟨fun h1=>?_,fun h1=>(more w94 hx94).mono ?_⟩
   ·rw [if_pos h1];exact ⟨rfl,hx94⟩
   ·rintro _ w112 ⟨rfl,x112⟩;refine ⟨_,_,rfl,⟨x112.keepT _,x112.keepT _,x112.keepT _,trivial⟩,?_,hx94.then x112⟩;rw [if_neg (by rw [h1];decide)]
theorem C_9 {ps:List JPr}(hl:RJPrs w a l c ps){i:Int}{q:JPr}(i0:0<=i)(hq:ps[i.toNat]? =some q):CP 75 #[.slice a l c,.int .i64 i] w (RetB w fun z=>z=(ps.drop (i.toNat+1)).any fun y=>decide (y.name=q.name)):=by
 obtain ⟨e1,e1'⟩:=SlL.len hl;have hil:=(List.getElem?_eq_some_iff.1 hq).1;refine D_z a l c i w _ ?_;rw [a_a i0 (by omega)];refine ⟨fun k w1=>i+1<=k/\k<=l/\EF w w1/\((ps.drop k.toNat).any fun y=>decide (y.name=q.name))=(ps.drop (i.toNat+1)).any fun y=>decide (y.name=q.name),fun k _=>((l:Int)-k).toNat,⟨by omega,by omega,Ext.refl w,by rw [show (i+1).toNat=i.toNat+1 by omega]⟩,?_⟩;rintro k w1 ⟨k0,k1,hx,he⟩;refine ⟨fun hlt w7 hw7=>?_,fun hge=>⟨false,rfl,hx,?_⟩⟩
 ·have hlt:=odt hlt;have z7:EF w1 w7:=hw7▸(Ext.refl _).drew;clear hw7;have x7:=hx.then z7;obtain ⟨p,y,hp,hy,cy,hc,rfl⟩:=SlL.get (RJPrs.keep x7.keep hl) (i:=k) (by omega) hlt;obtain ⟨p2,y2,hp2,hy2,cy2,hc2,rfl⟩:=SlL.get (RJPrs.keep x7.keep hl) (i:=i) (by omega) (by omega);rw [hq] at hy2;cases hy2;obtain ⟨⟨_,_,g0⟩,-⟩:=hc;obtain ⟨⟨_,_,g1⟩,-⟩:=hc2;have hd:ps.drop k.toNat=y::ps.drop (k.toNat+1):=by
   obtain ⟨h,rfl⟩:=List.getElem?_eq_some_iff.1 hy;exact List.drop_eq_getElem_cons h
  refine ⟨p,hp,⟨by omega,hlt⟩,y.name,g0.cell,p2,hp2,⟨i0,by omega⟩,q.name,g1.cell,fun h=>⟨true,rfl,x7,?_⟩,fun h=>?_⟩
  ·rw [<- he,hd];simp [a_b.1 h]
  ·rw [a_a (by omega) (by omega)];refine ⟨⟨by omega,by omega,x7,?_⟩,by dsimp only;omega⟩;rw [<- he,hd,show (k+1).toNat=k.toNat+1 by omega];simp [a_f.1 h]
 ·have hge:=odf hge;rw [<- he,List.drop_eq_nil_of_le (by omega)];rfl
end
theorem drop_cons' {α:Type}{l:List α}{y:α}(h:l[i]? =some y):l.drop i=y::l.drop (i+1):=by
 obtain ⟨hi,rfl⟩:=List.getElem?_eq_some_iff.1 h;exact List.drop_eq_getElem_cons hi
section
variable {w:World} {x:JN} {xc:List Value} {v:JV} {cs:List Value}
theorem D_c (hx:RJN w x xc)(hv:RJV w v cs):CP 85 #[.agg xc.toArray,.agg cs.toArray] w (RetB w fun z=>z=x_T x v):=by
 have hv0:=hv;obtain ⟨s3,s4,s5,s10,s12,s13,s19,s21,s31,s39,s40,s41,s42,s43,s50,s53,rfl,h1,h2,h3,h4,h5,h6,h7,h8,h9,h10,h11,h12,h13,h14,h15,h16⟩:=hx;obtain ⟨k,b,n,t,ns,xs⟩:=v;obtain ⟨a1,l1,c1,a2,l2,c2,rfl,-, r1,r2⟩:=w_8.1 hv;obtain ⟨e11,e11'⟩:=h11.len;refine D_E x.kind x.ref s3.a s3.l s3.c s4.a s4.l s4.c s5.a s5.l s5.c x.nt x.iff x.thn x.els s10.a s10.l s10.c x.hasEnum s12.a s12.l s12.c s13.a s13.l s13.c x.minL.is x.minL.n x.maxL.is x.maxL.n x.pat.is s19.a s19.l s19.c x.fmt.is s21.a s21.l s21.c x.minI.is x.minI.n x.maxI.is x.maxI.n x.minC.is x.minC.n x.maxC.is x.maxC.n x.uniq s31.a s31.l s31.c x.items x.cont x.restI x.minP.is x.minP.n x.maxP.is x.maxP.n s39.a s39.l s39.c s40.a s40.l s40.c s41.a s41.l s41.c s42.a s42.l s42.c s43.a s43.l s43.c x.more.k x.more.node x.names x.restP x.single x.hasPl s50.a s50.l s50.c x.others.k x.others.node s53.a s53.l s53.c k b n t a1 l1 c1 a2 l2 c2 w _ ⟨trivial,?_⟩;intro w60;have x60:EF w w60:=(Ext.refl _).alloc _;clear_value w60;refine ⟨trivial,?_⟩;intro w61;have x61:EF w w61:=x60.alloc _;clear_value w61;refine (B_y (r1.keep x61.keep) (h10.keep x61.keep)).mono ?_;rintro _ w63 ⟨b64,rfl,x63,hb64⟩;have y63:=x61.then x63;have hj:x_T x (.mk k b n t ns xs)=(b64&&(lasts JNe.name x.needs).all fun q=> !(memb ns q.name).isSome||there (.mk k b n t ns xs) q.names):=by rw [hb64];rfl
 rw [hj];generalize hpr:(fun q:JNe=> !(memb ns q.name).isSome||there (.mk k b n t ns xs) q.names)=pr;refine ⟨b64,rfl,⟨x63.keepT _,x63.keepT _,trivial⟩,fun h=>⟨false,rfl,y63,?_⟩,fun h=>?_⟩
 ·have h:b64=false:=by simpa using h
  rw [h];rfl
 have h:b64=true:=by simpa using h
 rw [h,Bool.true_and];refine ⟨fun i w1=>0<=i/\i<=s40.l/\EF w w1/\(lasts JNe.name (x.needs.drop i.toNat)).all pr=(lasts JNe.name x.needs).all pr,fun i _=>((s40.l:Int)-i).toNat,⟨by omega,by omega,y63,by simp⟩,?_⟩;rintro i w68 ⟨i0,i1,hx68,he⟩;refine ⟨fun hlt=>?_,fun hge=>⟨true,rfl,hx68,?_⟩⟩
 ·have hlt:=odt hlt;obtain ⟨p,q,hp,hq,cq,hc,a7,l7,c7,rfl,hts⟩:=SlL.get h11 i0 hlt;obtain ⟨⟨_,_,g0⟩,-, ⟨_,_,g1⟩,-, -⟩:=hc;have hd:=drop_cons' hq;rw [a_a i0 (by omega)];generalize hC:(!(x.needs.drop (i.toNat+1)).any fun y=>decide (y.name=q.name))=C;refine ⟨fun counts k w1=>i+1<=k/\k<=s40.l/\EF w w1/\(counts&& !(x.needs.drop k.toNat).any fun y=>decide (y.name=q.name))=C,fun _ k _=>((s40.l:Int)-k).toNat,⟨by omega,by omega,hx68,by rw [show (i+1).toNat=i.toNat+1 by omega,Bool.true_and,hC]⟩,?_⟩;rintro counts m w73 ⟨m0,m1,hx73,hcs⟩;refine ⟨fun hlt2 K74 hK74 w77 hw77=>?_,fun hge2 K82 hK82 w85 hw85=>?_⟩
  ·have hlt2:=odt hlt2;have z77:EF w73 w77:=hw77▸(Ext.refl _).drew;clear hw77;have x77:=hx73.then z77;obtain ⟨p2,y,hp2,hy,cy,hc2,a8,l8,c8,rfl,-⟩:=SlL.get (RJNes.keep x77.keep h11) (i:=m) (by omega) hlt2;obtain ⟨⟨_,_,g2⟩,-⟩:=hc2;have hd2:=drop_cons' hy;have k74:∀ z w',EF w w'->z=(counts&& !decide (y.name=q.name))->K74 z w':=fun z w' q1 q2=>hK74 z w' (by
    rw [a_a (by omega) (by omega)];refine ⟨⟨by omega,by omega,q1,?_⟩,by dsimp only;omega⟩;rw [<- hcs,hd2,q2,show (m+1).toNat=m.toNat+1 by omega,List.any_cons,Bool.not_or,Bool.and_assoc])
   refine ⟨fun ht=>⟨p2,hp2,⟨by omega,hlt2⟩,y.name,g2.cell,p,hp,⟨i0,hlt⟩,q.name,x77.cell g0 id,trivial,k74 _ _ x77 ?_⟩,fun hf=>⟨trivial,k74 _ _ x77 (by rw [hf];rfl)⟩⟩;rw [ht,Bool.true_and];congr 1;rw [c_A]
  ·have hge2:=odf hge2;rw [List.drop_eq_nil_of_le (by omega)] at hcs;have hcs:counts=C:=by simpa using hcs
   have z85:EF w73 w85:=hw85▸(Ext.refl _).drew;clear hw85;have x85:=hx73.then z85;have hl:lasts JNe.name (x.needs.drop i.toNat)=if C=true then q::lasts JNe.name (x.needs.drop (i.toNat+1)) else lasts JNe.name (x.needs.drop (i.toNat+1)):=by
    rw [hd,lasts,<- hC];cases (x.needs.drop (i.toNat+1)).any fun y=>decide (y.name=q.name)<;>rfl
   have k82:∀ z w',EF w w'->z=(counts&& !pr q)->K82 z w':=fun z w' q1 q2=>hK82 z w' ⟨fun hz=>⟨false,rfl,q1,?_⟩,fun hz=>?_⟩
   rotate_left
   ·rw [<- he,hl];rw [q2] at hz;have h3:counts=true/\pr q=false:=by simpa using hz
    rw [if_pos (by rw [<- hcs];exact h3.1),List.all_cons,h3.2];rfl
   ·refine next i0 hlt ⟨q1,?_⟩
    rw [<- he,hl,show (i+1).toNat=i.toNat+1 by omega];split
    ·rename_i hc;rw [q2,hcs,hc] at hz;have h3:pr q=true:=by simpa using hz
     rw [List.all_cons,h3,Bool.true_and]
    ·rfl
   refine ⟨fun ht=>⟨p,hp,⟨i0,hlt⟩,q.name,x85.cell g0 id,(y_a (r1.keep x85.keep) q.name).mono ?_⟩,fun hf=>k82 _ _ x85 (by rw [hf];rfl)⟩;rintro _ w89 ⟨rfl,x89⟩;have y89:=x85.then x89;have hprq:pr q=(!(memb ns q.name).isSome||there (.mk k b n t ns xs) q.names):=by rw [<- hpr]
   have hmi:decide (membI ns q.name>=0)=(memb ns q.name).isSome:=by
    have:=y_h (ns:=ns) (s:=q.name);cases hm:(memb ns q.name).isSome with
    | true=>
     rw [hm] at this;have:=odf this;exact decide_eq_true (by omega)
    | false=>
     rw [hm] at this;have:=odt this;exact decide_eq_false (by omega)
   refine ⟨_,rfl,⟨x89.keepT _,x89.keepT _,trivial⟩,trivial,fun hm=>⟨p,hp,⟨i0,hlt⟩,_,_,_,y89.cell g1 id,(B_y (r1.keep y89.keep) (hts.keep y89.keep)).mono ?_⟩,fun hm=>k82 _ _ y89 ?_⟩
   ·rintro _ w94 ⟨b95,rfl,x94,hb95⟩;refine ⟨b95,rfl,⟨x94.keepT _,x94.keepT _,trivial⟩,trivial,k82 _ _ (y89.then x94) ?_⟩;rw [hmi] at hm;rw [ht,hprq,hm,hb95];rfl
   ·rw [hmi] at hm;rw [ht,hprq,hm];rfl
 ·have hge:=odf hge;rw [<- he,List.drop_eq_nil_of_le (by omega)];rfl
theorem C_r (hx:RJN w x xc)(hN:(∀ v∈x.enm,okV v)/\(∀ v∈x.cst,okV v))(hv:RJV w v cs)(hok:okV v):CP 44 #[.agg xc.toArray,.agg cs.toArray] w (RetB w fun z=>z=x_j x v):=by
 have hv0:=hv;have hok0:=hok;obtain ⟨s3,s4,s5,s10,s12,s13,s19,s21,s31,s39,s40,s41,s42,s43,s50,s53,rfl,h1,h2,h3,h4,h5,h6,h7,h8,h9,h10,h11,h12,h13,h14,h15,h16⟩:=hx;obtain ⟨k,b,n,t,ns,xs⟩:=v;obtain ⟨a1,l1,c1,a2,l2,c2,rfl,-, r1,r2⟩:=w_8.1 hv;obtain ⟨k2,k0,k5,-⟩:=hok;obtain ⟨e4,e4'⟩:=h4.len;obtain ⟨e6,e6'⟩:=h6.len;refine C_T x.kind x.ref s3.a s3.l s3.c s4.a s4.l s4.c s5.a s5.l s5.c x.nt x.iff x.thn x.els s10.a s10.l s10.c x.hasEnum s12.a s12.l s12.c s13.a s13.l s13.c x.minL.is x.minL.n x.maxL.is x.maxL.n x.pat.is s19.a s19.l s19.c x.fmt.is s21.a s21.l s21.c x.minI.is x.minI.n x.maxI.is x.maxI.n x.minC.is x.minC.n x.maxC.is x.maxC.n x.uniq s31.a s31.l s31.c x.items x.cont x.restI x.minP.is x.minP.n x.maxP.is x.maxP.n s39.a s39.l s39.c s40.a s40.l s40.c s41.a s41.l s41.c s42.a s42.l s42.c s43.a s43.l s43.c x.more.k x.more.node x.names x.restP x.single x.hasPl s50.a s50.l s50.c x.others.k x.others.node s53.a s53.l s53.c k b n t a1 l1 c1 a2 l2 c2 w _ ⟨trivial,?_⟩;intro w60;have x60:EF w w60:=(Ext.refl _).alloc _;clear_value w60;refine ⟨trivial,?_⟩;intro w61;have x61:EF w w61:=x60.alloc _;clear_value w61;intro K62 hK62 w65 hw65;have z65:EF w61 w65:=hw65▸(Ext.refl _).drew;clear hw65;have x65:=x61.then z65;generalize hV:(JV.mk k b n t ns xs)=v at *;generalize hA:(x.types.isEmpty||among (kindN k) x.types)=A;generalize hE:(!x.hasEnum||x.enm.any (eqJ v))=E;generalize hC:(match x.cst with |[]=>true|c::_=>eqJ v c)=C;have hj:x_j x v=(A&&E&&C):=by
  rw [<- hA,<- hE,<- hC,<- hV];rfl
 have k62:∀ z w',EF w w'->z=(A&&E&&C)->K62 z w':=fun z w' q1 q2=>hK62 z w' ⟨z,rfl,q1,by rw [hj,q2]⟩;have kc:∀ w',EF w w'->A=true->E=true->((((s13.l:Int)==(0:Int))=true->True/\K62 true w')/\(((s13.l:Int)==(0:Int))=false->∃ p66,s13.a=some p66/\(0<=(0:Int)/\(0:Int)<(s13.l:Int))/\∃ n67:Int,w'.cell? (p66.add ((0:Int).toNat*6))=some (.int .i64 n67)/\∃ b68:Bool,w'.cell? ((p66.add ((0:Int).toNat*6)).add 1)=some (.bool b68)/\∃ n69:Int,w'.cell? ((p66.add ((0:Int).toNat*6)).add 2)=some (.int .i64 n69)/\∃ s70:BA,w'.cell? ((p66.add ((0:Int).toNat*6)).add 3)=some (.string s70)/\∃ (a71:OA) (a71l a71c:Nat),w'.cell? ((p66.add ((0:Int).toNat*6)).add 4)=some (.slice a71 a71l a71c)/\∃ (a72:OA) (a72l a72c:Nat),w'.cell? ((p66.add ((0:Int).toNat*6)).add 5)=some (.slice a72 a72l a72c)/\
   CP 70 #[.agg #[.int .i64 k,.bool b,.int .i64 n,.string t,.slice a1 l1 c1,.slice a2 l2 c2],.agg #[.int .i64 n67,.bool b68,.int .i64 n69,.string s70,.slice a71 a71l a71c,.slice a72 a72l a72c]] w' fun e73 w74=>∃ b75:Bool,e73=.returned (.bool b75)/\(KeepT 44 w' w74/\KeepT 27 w' w74/\True)/\True/\True/\K62 b75 w74)):=fun w' x' hA1 hE1=>by
  refine ⟨fun h=>⟨trivial,k62 _ _ x' ?_⟩,fun h=>?_⟩
  ·have h:(s13.l:Int)=0:=by simpa using h
   have:x.cst=[]:=List.eq_nil_of_length_eq_zero (by omega);rw [hA1,hE1,<- hC,this];rfl
  ·have h:(s13.l:Int)≠0:=by simpa using h
   obtain ⟨p,u,hp,hu,cu,hcu,hvu⟩:=SlL.get (RJVs.keep x'.keep h6) (Int.le_refl 0) (by omega);have hum:=mg_ hu;have hcst:C=eqJ v u:=by
    rw [<- hC];cases hcc:x.cst with
    | nil=>rw [hcc] at hu;simp at hu
    | cons c r=>
     rw [hcc] at hu;have:c=u:=by simpa using hu
     rw [this]
   have call:=z_g _ v u _ cu w' (Nat.le_refl _) hok0.ok (hN.2 u hum).ok (hv0.keep x'.keep) hvu;obtain ⟨yk,yb,yn,yt,yns,yxs⟩:=u;obtain ⟨a5,l5,c5,a6,l6,c6,rfl,-, -, -⟩:=w_8.1 hvu;obtain ⟨⟨_,_,g0⟩,-, ⟨_,_,g1⟩,-, ⟨_,_,g2⟩,-, ⟨_,_,g3⟩,-, ⟨_,_,g4⟩,-, ⟨_,_,g5⟩,-⟩:=hcu;refine ⟨p,hp,⟨Int.le_refl 0,by omega⟩,_,g0.cell,_,g1.cell,_,g2.cell,_,g3.cell,_,_,_,g4.cell,_,_,_,g5.cell,call.mono ?_⟩;rintro _ w74 ⟨b75,rfl,x74,hb75⟩;refine ⟨b75,rfl,⟨x74.keepT _,x74.keepT _,trivial⟩,trivial,trivial,k62 _ _ (x'.then x74) ?_⟩;rw [hb75,hA1,hE1,hcst];rfl
 have ke:∀ w',EF w w'->A=true->x.hasEnum=true->CP 69 #[.agg #[.int .i64 k,.bool b,.int .i64 n,.string t,.slice a1 l1 c1,.slice a2 l2 c2],.slice s12.a s12.l s12.c] w' fun e76 w77=>∃ b78:Bool,e76=.returned (.bool b78)/\(KeepT 44 w' w77/\KeepT 27 w' w77/\True)/\True/\b78=E/\EF w w77:=fun w' x' hA1 hh=>(C_o (hv0.keep x'.keep) hok0.ok (RJVs.keep x'.keep h5) fun u hu=>(hN.1 u hu).ok).mono (by
  rintro _ w77 ⟨b78,rfl,x77,hb78⟩;exact ⟨b78,rfl,⟨x77.keepT _,x77.keepT _,trivial⟩,trivial,by rw [hb78,<- hE,hh];rfl,x'.then x77⟩)
 have hE0:(!x.hasEnum)=true->E=true:=fun h=>by rw [<- hE,h];rfl
 refine ⟨fun h0=>?_,fun h0=>(D_f k2 k0 k5 (h4.keep x65.keep)).mono ?_⟩
 ·have hA1:A=true:=by
   have h0:(s10.l:Int)=0:=by simpa using h0
   have:x.types=[]:=List.eq_nil_of_length_eq_zero (by omega);rw [<- hA,this];rfl
  refine ⟨fun h1=>kc _ x65 hA1 (hE0 h1),fun h1=>(ke _ x65 hA1 (by simpa using h1)).mono ?_⟩;rintro _ w77 ⟨b78,rfl,kt,-, hb78,y77⟩;exact ⟨b78,rfl,kt,trivial,fun h2=>kc _ y77 hA1 (by rw [<- hb78,h2]),fun h2=>⟨trivial,k62 _ _ y77 (by rw [<- hb78,h2,hA1];rfl)⟩⟩
 ·rintro _ w90 ⟨b91,rfl,x90,hb91⟩;have y90:=x65.then x90;have hAb:A=b91:=by
   have h0:(s10.l:Int)≠0:=by simpa using h0
   rw [<- hA,hb91];cases ht:x.types with
   | nil=>rw [ht] at e4;simp at e4;omega
   | cons u r=>rfl
  refine ⟨b91,rfl,⟨x90.keepT _,x90.keepT _,trivial⟩,trivial,fun h2=>?_,fun h2=>?_⟩
  ·have hA1:A=true:=by rw [hAb,h2]
   refine ⟨fun h1=>kc _ y90 hA1 (hE0 h1),fun h1=>(ke _ y90 hA1 (by simpa using h1)).mono ?_⟩;rintro _ w77 ⟨b78,rfl,kt,-, hb78,y77⟩;exact ⟨b78,rfl,kt,trivial,fun h3=>kc _ y77 hA1 (by rw [<- hb78,h3]),fun h3=>⟨trivial,k62 _ _ y77 (by rw [<- hb78,h3,hA1];rfl)⟩⟩
  ·exact ⟨trivial,k62 _ _ y90 (by rw [hAb,h2];rfl)⟩
end
theorem B_c {v:JV}:∀ (l:List Int) (b:Bool) (m:List Bool),jdeps J v l (b,m)=(b&&(jdeps J v l (true,m)).1,(jdeps J v l (true,m)).2)
 | [],b,m=>by simp [jdeps]
 | n::l,b,m=>by
  simp only [jdeps];rw [B_c l (b&&(J n v).1),B_c l (true&&(J n v).1),Bool.true_and,Bool.and_assoc]
theorem jcond_len' {x:JN}{v:JV}(m:List Bool):(jcond J x v m).2.length=m.length:=by
 unfold jcond;dsimp only;generalize (if (J x.iff v).1 then x.thn else x.els)=nx;by_cases h:nx=0
 ·rw [if_pos h,x_b]
 ·rw [if_neg h,x_b,x_b]
theorem E_e {X:Bool}(h:true= !X):X=false:=by cases X<;>simp_all
theorem E_d {X:Bool}(h:false= !X):X=true:=by cases X<;>simp_all
theorem E_b {v:JV}(l:List Int)(m:List Bool):(w_7 J v l (0,m)).1<=l.length:=by
 rw [A_N];have:=List.countP_le_length (p:=fun n=>(J n v).1) (l:=l);simpa using this
def depG (v:JV)(l:List JPr):List Int:=if v.k=5 then (lasts JPr.name l).filterMap fun q=>if (memb v.ns q.name).isSome then some q.node else none else []
theorem E_u {x:JN}{v:JV}(hd:x.dep=[]){R A B C E:_}(hR:(if x.ref>0 then ((J x.ref v).1,joinM m (J x.ref v).2) else (true,m))=R)(hA:w_7 J v x.allOf (0,R.2)=A)(hB:w_7 J v x.anyOf (0,A.2)=B)(hC:w_7 J v x.oneOf (0,B.2)=C)(hE:(if x.iff>0 then jcond J x v C.2 else (true,C.2))=E):
  x_e J x v m=jdeps J v (depG v x.deps) (R.1&&decide (A.1=x.allOf.length)&&(x.anyOf.isEmpty||decide (B.1>=1))&&(x.oneOf.isEmpty||decide (C.1=1))&&(decide (x.nt<=0)|| !(J x.nt v).1)&&E.1,E.2):=by
 unfold x_e;dsimp only;rw [hR,hA,hB,hC,hE,hd];have hf:(if v.k=5 then jdeps J v ((lasts JPr.name x.deps).filterMap fun q=>if (memb v.ns q.name).isSome then some q.node else none) (true,E.2) else (true,E.2))=jdeps J v (depG v x.deps) (true,E.2):=by
  unfold depG;split<;>rfl
 rw [hf,B_c _ (R.1&&_&&_&&_&&_&&_)];have hg:(if v.k=5 then (lasts JDe.name []).filter fun q=>(memb v.ns q.name).isSome else [])=[]:=by
  split<;>rfl
 rw [hg];simp [jdeps]
section
variable {s:List JN} {f:Nat} {w:World} {a:OA} {l c:Nat} {sk:Sli}
theorem B_V {x:JN}{xc:List Value}(hx:RJN w x xc)(hd:x.dep=[]){v:JV}{cs:List Value}(hv:RJV w v cs){ga:OA}{gl gc:Nat}:
  CP 76 #[.int .i64 2020,nodV a l c sk,.agg xc.toArray,.agg cs.toArray,.slice ga gl gc] w fun e w'=>e=.returned (.bool true)/\EF w w':=by
 obtain ⟨s3,s4,s5,s10,s12,s13,s19,s21,s31,s39,s40,s41,s42,s43,s50,s53,rfl,h1,h2,h3,h4,h5,h6,h7,h8,h9,h10,h11,h12,h13,h14,h15,h16⟩:=hx;obtain ⟨e16,-⟩:=h16.len;rw [hd] at e16;simp only [List.length_nil] at e16;obtain ⟨k,b,n,t,ns,xs⟩:=v;obtain ⟨a1,l1,c1,a2,l2,c2,rfl,-, r1,r2⟩:=w_8.1 hv;refine B_7 2020 a l c sk.a sk.l sk.c x.kind x.ref s3.a s3.l s3.c s4.a s4.l s4.c s5.a s5.l s5.c x.nt x.iff x.thn x.els s10.a s10.l s10.c x.hasEnum s12.a s12.l s12.c s13.a s13.l s13.c x.minL.is x.minL.n x.maxL.is x.maxL.n x.pat.is s19.a s19.l s19.c x.fmt.is s21.a s21.l s21.c x.minI.is x.minI.n x.maxI.is x.maxI.n x.minC.is x.minC.n x.maxC.is x.maxC.n x.uniq s31.a s31.l s31.c x.items x.cont x.restI x.minP.is x.minP.n x.maxP.is x.maxP.n s39.a s39.l s39.c s40.a s40.l s40.c s41.a s41.l s41.c s42.a s42.l s42.c s43.a s43.l s43.c x.more.k x.more.node x.names x.restP x.single x.hasPl s50.a s50.l s50.c x.others.k x.others.node s53.a s53.l s53.c k b n t a1 l1 c1 a2 l2 c2 ga gl gc w _ ⟨trivial,?_⟩;intro w64;have x64:EF w w64:=(Ext.refl _).alloc _;clear_value w64;refine ⟨trivial,?_⟩;intro w65;have x65:EF w w65:=x64.alloc _;clear_value w65;refine ⟨trivial,?_⟩;intro w66;have x66:EF w w66:=x65.alloc _;clear_value w66;refine ⟨fun ok i w1=>ok=true/\i=0/\w1=w66,fun _ _ _=>0,⟨rfl,rfl,rfl⟩,?_⟩;rintro ok i w1 ⟨rfl,rfl,rfl⟩ K hK;rw [e16];exact ⟨fun h=>by simp at h,fun _=>hK _ _ ⟨nofun,fun _=>⟨rfl,x66⟩⟩⟩
theorem B_X (IH:JC s f)(hr:RJNs w a l c s){x:JN}{xc:List Value}(hx:RJN w x xc)(hd:x.dep=[]){v:JV}{cs:List Value}(hv:RJV w v cs)(hok:okV v)(hm:MK w g m)(hB:DB.B<=g)(hml:m.length=v.xs.length)
  (hn:∀ n:Int,(n=x.ref∨n∈x.allOf∨n∈x.anyOf∨n∈x.oneOf∨n=x.nt∨n=x.iff∨n=x.thn∨n=x.els∨∃ q∈x.deps,n=q.node)->n≠0->1<=n/\n<=s.length/\MJ s.length v n.toNat<f)
  (hw:(∀ n∈x.allOf,n≠0)/\(∀ n∈x.anyOf,n≠0)/\(∀ n∈x.oneOf,n≠0)/\∀ q∈x.deps,q.node≠0):
  CP 45 #[.int .i64 2020,nodV a l c sk,.agg xc.toArray,.agg cs.toArray,.slice (some (adr g)) m.length m.length] w fun e w'=>e=.returned (.bool (x_e (w_2 2020 s f) x v m).1)/\MK w' g (x_e (w_2 2020 s f) x v m).2/\Ext (fun k=>k=g) w w':=by
 have hv0:=hv;have hx0:=hx;have IH':=IH;unfold JC at IH';have sev:=fun (ns:List Int) (na:OA) (nl nc:Nat) (m':List Bool) (w':World) (kp:Keep w w') (hmk:MK w' g m') (hns:∀ n∈ns,1<=n/\n<=s.length/\MJ s.length v n.toNat<f) (hi:RInts w na nl nc ns)=>B_Y (s3:=sk) IH (RJNs.keep kp hr) (hv.keep kp) hok (hi.keep kp) hns hmk hB;have cnd:=fun (m':List Bool) (w':World) (kp:Keep w w') (hmk:MK w' g m') (hi:x.iff≠0)=>z_M (sk:=sk) IH (RJNs.keep kp hr) (hx.keep kp) (hv.keep kp) hok hmk hB hi fun n h1 h2=>hn n (by rcases h1 with h|h|h<;>simp [h]) h2;have dpd:=fun (w':World) (kp:Keep w w')=>B_V (a:=a) (l:=l) (c:=c) (sk:=sk) (hx.keep kp) hd (hv.keep kp) (ga:=some (adr g)) (gl:=m.length) (gc:=m.length);generalize w_2 2020 s f=J at *;obtain ⟨s3,s4,s5,s10,s12,s13,s19,s21,s31,s39,s40,s41,s42,s43,s50,s53,rfl,h1,h2,h3,h4,h5,h6,h7,h8,h9,h10,h11,h12,h13,h14,h15,h16⟩:=hx;obtain ⟨q1,q1'⟩:=h1.len;obtain ⟨q2,q2'⟩:=h2.len;obtain ⟨q3,q3'⟩:=h3.len;obtain ⟨q12,q12'⟩:=h12.len;have hgl:=a_3 hm.1;generalize hR:(if x.ref>0 then ((J x.ref v).1,joinM m (J x.ref v).2) else (true,m))=R;generalize hA:w_7 J v x.allOf (0,R.2)=A;generalize hBB:w_7 J v x.anyOf (0,A.2)=B;generalize hC:w_7 J v x.oneOf (0,B.2)=C;generalize hE:(if x.iff>0 then jcond J x v C.2 else (true,C.2))=E;rw [E_u hd hR hA hBB hC hE];have lR:R.2.length=m.length:=by rw [<- hR];split;exact x_b _ _;rfl
 have lA:A.2.length=m.length:=by rw [<- hA,x_B];exact lR
 have lB:B.2.length=m.length:=by rw [<- hBB,x_B];exact lA
 have lC:C.2.length=m.length:=by rw [<- hC,x_B];exact lB
 have lE:E.2.length=m.length:=by rw [<- hE];split;rw [jcond_len'];exact lC;exact lC
 have nA:A.1<=x.allOf.length:=by rw [<- hA];exact E_b _ _
 generalize hO:(R.1&&decide (A.1=x.allOf.length)&&(x.anyOf.isEmpty||decide (B.1>=1))&&(x.oneOf.isEmpty||decide (C.1=1))&&(decide (x.nt<=0)|| !(J x.nt v).1)&&E.1)=O;generalize hD:jdeps J v (depG v x.deps) (O,E.2)=D;obtain ⟨k,b,n,t,ns,xs⟩:=v;obtain ⟨a1,l1,c1,a2,l2,c2,rfl,-, r1,r2⟩:=w_8.1 hv;simp only [JV.xs] at hml;obtain ⟨e1,e1'⟩:=r1.len;generalize hV:(JV.mk k b n t ns xs)=v at *;have hVk:v.k=k:=by rw [<- hV];rfl
 have hVn:v.ns=ns:=by rw [<- hV];rfl
 refine B_9 2020 a l c sk.a sk.l sk.c x.kind x.ref s3.a s3.l s3.c s4.a s4.l s4.c s5.a s5.l s5.c x.nt x.iff x.thn x.els s10.a s10.l s10.c x.hasEnum s12.a s12.l s12.c s13.a s13.l s13.c x.minL.is x.minL.n x.maxL.is x.maxL.n x.pat.is s19.a s19.l s19.c x.fmt.is s21.a s21.l s21.c x.minI.is x.minI.n x.maxI.is x.maxI.n x.minC.is x.minC.n x.maxC.is x.maxC.n x.uniq s31.a s31.l s31.c x.items x.cont x.restI x.minP.is x.minP.n x.maxP.is x.maxP.n s39.a s39.l s39.c s40.a s40.l s40.c s41.a s41.l s41.c s42.a s42.l s42.c s43.a s43.l s43.c x.more.k x.more.node x.names x.restP x.single x.hasPl s50.a s50.l s50.c x.others.k x.others.node s53.a s53.l s53.c k b n t a1 l1 c1 a2 l2 c2 (some (adr g)) m.length m.length w _ ⟨trivial,?_⟩;intro w64;have x64:EF w w64:=(Ext.refl _).alloc _;clear_value w64;refine ⟨trivial,?_⟩;intro w65;have x65:EF w w65:=x64.alloc _;clear_value w65;refine ⟨trivial,?_⟩;intro w66;have x66:EF w w66:=x65.alloc _;clear_value w66;have m66:=hm.ext x66 id;have j66:Ext (fun k=>k=g) w w66:=x66.mono fun _ _ e=>e.elim;have kp:=fun {w':World} (x':Ext (fun k=>k=g) w w')=>z_5 hm hB x';intro K67 hK67
 suffices k67:∀ w',MK w' g R.2->Ext (fun k=>k=g) w w'->K67 R.1 w' by
  refine ⟨fun h=>?_,fun h=>?_⟩
  ·have h:=odt h;obtain ⟨p1,p2,p3⟩:=hn x.ref (.inl rfl) (by omega);have hs66:=x66.size;refine (IH' x.ref _ _ w66 a l c sk p3 p1 p2 hok (RJNs.keep x66.keep hr) (hv0.keep x66.keep) (by omega)).mono ?_;rintro _ w146 ⟨g2,rfl,hm2,hg2,x146⟩;have m146:=m66.ext x146 id;refine ⟨_,_,_,_,rfl,⟨x146.keepT _,x146.keepT _,x146.keepT _,trivial⟩,(A_L m146 hm2 (by omega)).mono ?_⟩;rintro _ w150 ⟨rfl,m150,x150⟩;refine ⟨rfl,⟨w_6 m146 x150 (by decide),w_6 m146 x150 (by decide),w_6 m146 x150 (by decide),trivial⟩,?_⟩;have hR1:R=((J x.ref v).1,joinM m (J x.ref v).2):=by rw [<- hR,if_pos h]
   have:=k67 w150 (by rw [hR1];exact m150) ((j66.then x146).trans x150 fun _ _ e=>e);rw [hR1] at this;exact this
  ·have h:=odf h;have hR1:R=(true,m):=by rw [<- hR,if_neg h]
   have:=k67 w66 (by rw [hR1];exact m66) j66;rw [hR1] at this;exact this
 intro w69 m69 x69;refine hK67 R.1 w69 fun K70 hK70=>?_
 suffices k70:∀ w',MK w' g A.2->Ext (fun k=>k=g) w w'->K70 (R.1&&decide (A.1=x.allOf.length)) w' by
  have call:=sev x.allOf s3.a s3.l s3.c R.2 w69 (kp x69) m69 (fun n hm'=>hn n (.inr (.inl hm')) (hw.1 n hm')) h1;rw [lR,hA] at call;refine call.mono ?_;rintro _ w143 ⟨rfl,m143,x143⟩;have y143:=x69.trans x143 fun _ _ e=>e;have:=k70 w143 m143 y143;refine ⟨_,rfl,⟨w_6 m69 x143 (by decide),w_6 m69 x143 (by decide),w_6 m69 x143 (by decide),trivial⟩,fun h=>?_,fun h=>?_⟩
  ·have h:=odt h
   rwa [decide_eq_false (by omega:¬ A.1=x.allOf.length),Bool.and_false] at this
  ·have h:=odf h
   rwa [decide_eq_true (by omega:A.1=x.allOf.length),Bool.and_true] at this
 intro w72 m72 x72;refine hK70 _ w72 fun K73 hK73=>?_
 suffices k73:∀ w',MK w' g B.2->Ext (fun k=>k=g) w w'->K73 (R.1&&decide (A.1=x.allOf.length)&&(x.anyOf.isEmpty||decide (B.1>=1))) w' by
  have call:=sev x.anyOf s4.a s4.l s4.c A.2 w72 (kp x72) m72 (fun n hm'=>hn n (.inr (.inr (.inl hm'))) (hw.2.1 n hm')) h2;rw [lA,hBB] at call;refine call.mono ?_;rintro _ w137 ⟨rfl,m137,x137⟩;have y137:=x72.trans x137 fun _ _ e=>e;have:=k73 w137 m137 y137;refine ⟨_,rfl,⟨w_6 m72 x137 (by decide),w_6 m72 x137 (by decide),w_6 m72 x137 (by decide),trivial⟩,fun K139 hK139=>?_⟩;have k139:∀ z,z= !(x.anyOf.isEmpty||decide (B.1>=1))->K139 z w137:=fun z hz=>hK139 z w137 ⟨fun h=>by
   have e:(x.anyOf.isEmpty||decide (B.1>=1))=false:=by
    rw [h] at hz;exact E_e hz
   rwa [e,Bool.and_false] at this,fun h=>by
   have e:(x.anyOf.isEmpty||decide (B.1>=1))=true:=by
    rw [h] at hz;exact E_d hz
   rwa [e,Bool.and_true] at this⟩
  have hemp:x.anyOf.isEmpty=decide (s4.l=0):=by
   rw [q2];cases x.anyOf<;>simp
  refine ⟨fun h=>k139 _ ?_,fun h=>k139 _ ?_⟩
  ·have h:=odt h;rw [decide_eq_false (by omega:¬ B.1>=1),Bool.or_false,hemp];by_cases e:s4.l=0
   ·rw [decide_eq_true e,e];rfl
   ·rw [decide_eq_false e,decide_eq_true (by omega)];rfl
  ·have h:=odf h;rw [decide_eq_true (by omega:B.1>=1),Bool.or_true];rfl
 intro w75 m75 x75;refine hK73 _ w75 fun K76 hK76=>?_
 suffices k76:∀ w',MK w' g C.2->Ext (fun k=>k=g) w w'->K76 (R.1&&decide (A.1=x.allOf.length)&&(x.anyOf.isEmpty||decide (B.1>=1))&&(x.oneOf.isEmpty||decide (C.1=1))) w' by
  have call:=sev x.oneOf s5.a s5.l s5.c B.2 w75 (kp x75) m75 (fun n hm'=>hn n (.inr (.inr (.inr (.inl hm')))) (hw.2.2.1 n hm')) h3;rw [lB,hC] at call;refine call.mono ?_;rintro _ w131 ⟨rfl,m131,x131⟩;have y131:=x75.trans x131 fun _ _ e=>e;have:=k76 w131 m131 y131;refine ⟨_,rfl,⟨w_6 m75 x131 (by decide),w_6 m75 x131 (by decide),w_6 m75 x131 (by decide),trivial⟩,fun K133 hK133=>?_⟩;have k133:∀ z,z= !(x.oneOf.isEmpty||decide (C.1=1))->K133 z w131:=fun z hz=>hK133 z w131 ⟨fun h=>by
   have e:(x.oneOf.isEmpty||decide (C.1=1))=false:=by
    rw [h] at hz;exact E_e hz
   rwa [e,Bool.and_false] at this,fun h=>by
   have e:(x.oneOf.isEmpty||decide (C.1=1))=true:=by
    rw [h] at hz;exact E_d hz
   rwa [e,Bool.and_true] at this⟩
  have hemp:x.oneOf.isEmpty=decide (s5.l=0):=by
   rw [q3];cases x.oneOf<;>simp
  refine ⟨fun h=>k133 _ ?_,fun h=>k133 _ ?_⟩
  ·have h:(C.1:Int)≠1:=by simpa using h
   rw [decide_eq_false (by omega:¬ C.1=1),Bool.or_false,hemp];by_cases e:s5.l=0
   ·rw [decide_eq_true e,e];rfl
   ·rw [decide_eq_false e,decide_eq_true (by omega)];rfl
  ·have h:(C.1:Int)=1:=by simpa using h
   rw [decide_eq_true (by omega:C.1=1),Bool.or_true];rfl
 intro w78 m78 x78;refine hK76 _ w78 fun K79 hK79=>?_;generalize hO3:(R.1&&decide (A.1=x.allOf.length)&&(x.anyOf.isEmpty||decide (B.1>=1))&&(x.oneOf.isEmpty||decide (C.1=1)))=O3 at *
 suffices k79:∀ w',MK w' g C.2->Ext (fun k=>k=g) w w'->K79 (O3&&(decide (x.nt<=0)|| !(J x.nt v).1)) w' by
  refine ⟨fun h=>?_,fun h=>?_⟩
  ·have h:=odt h;obtain ⟨p1,p2,p3⟩:=hn x.nt (by simp) (by omega);have hs78:=x78.size;refine (IH' x.nt _ _ w78 a l c sk p3 p1 p2 hok (RJNs.keep (kp x78) hr) (hv0.keep (kp x78)) (by omega)).mono ?_;rintro _ w127 ⟨g2,rfl,-, -, x127⟩;have:=k79 w127 (m78.ext x127 id) (x78.then x127);rw [decide_eq_false (by omega),Bool.false_or] at this;exact ⟨_,_,_,_,rfl,⟨x127.keepT _,x127.keepT _,x127.keepT _,trivial⟩,fun h1=>by rwa [h1,Bool.true_and] at this,fun h1=>by rwa [h1,Bool.false_and] at this⟩
  ·have h:=odf h;have:=k79 w78 m78 x78
   rwa [decide_eq_true (by omega),Bool.true_or,Bool.and_true] at this
 intro w81 m81 x81;refine hK79 _ w81 fun K82 hK82=>?_
 suffices k82:∀ w',MK w' g E.2->Ext (fun k=>k=g) w w'->K82 O w' by
  refine ⟨fun h=>?_,fun h=>?_⟩
  ·have h:=odt h;have hE1:jcond J x v C.2=E:=by rw [<- hE,if_pos h]
   have call:=cnd C.2 w81 (kp x81) m81 (by omega);rw [lC,hE1] at call;refine call.mono ?_;rintro _ w124 ⟨rfl,m124,x124⟩;have:=k82 w124 m124 (x81.trans x124 fun _ _ e=>e);rw [<- hO] at this;exact ⟨_,rfl,⟨w_6 m81 x124 (by decide),w_6 m81 x124 (by decide),w_6 m81 x124 (by decide),trivial⟩,fun h1=>by rwa [h1,Bool.and_true] at this,fun h1=>by rwa [h1,Bool.and_false] at this⟩
  ·have h:=odf h;have hE1:E=(true,C.2):=by rw [<- hE,if_neg h]
   have:=k82 w81 (by rw [hE1];exact m81) x81;rw [<- hO,hE1,Bool.and_true] at this;exact this
 intro w84 m84 x84;refine hK82 O w84 ?_;refine ⟨fun ok i w1=>0<=i/\i<=s41.l/\(∃ m',MK w1 g m'/\m'.length=m.length/\jdeps J v (depG v (x.deps.drop i.toNat)) (ok,m')=D)/\Ext (fun k=>k=g) w w1,fun _ i _=>((s41.l:Int)-i).toNat,⟨by omega,by omega,⟨E.2,m84,lE,by simpa using hD⟩,x84⟩,?_⟩;rintro ok i w89 ⟨i0,i1,⟨m',m89,lm,hDi⟩,x89⟩;intro K90 hK90
 suffices k90:∀ z,(z=true->i<(s41.l:Int)/\k=5)->(z=false->(s41.l:Int)<=i∨k≠5)->K90 z w89 by
  refine ⟨fun h=>k90 _ (fun h'=>⟨odt h,by simpa using h'⟩) (fun h'=>.inr (by simpa using h')),fun h=>k90 _ nofun fun _=>.inl ?_⟩;have:=odf h;omega
 intro z hz1 hz2;refine hK90 z w89 ⟨fun hb K93 hK93 K96 hK96 w108 hw108=>?_,fun hb K117 hK117=>?_⟩
 ·obtain ⟨hlt,hk5⟩:=hz1 hb;have z108:EF w89 w108:=hw108▸(Ext.refl _).drew;clear hw108;have x108:=x89.then z108;have m108:=m89.ext z108 id;obtain ⟨p,q,hp,hq,cq,hc,rfl⟩:=SlL.get (RJPrs.keep (kp x108) h12) i0 hlt;obtain ⟨⟨_,_,g0⟩,-, ⟨_,_,g1⟩,-, -⟩:=hc;have hqm:=mg_ hq;have hdr:=drop_cons' hq;have hdep:∀ l:List JPr,depG v (q::l)=if (l.any fun y=>decide (y.name=q.name))=true∨(memb ns q.name).isSome=false then depG v l else q.node::depG v l:=fun l=>by
   have h5:v.k=5:=by rw [hVk];exact hk5
   unfold depG;simp only [if_pos h5];rw [lasts,hVn];cases (l.any fun y=>decide (y.name=q.name)) with
   | true=>simp
   | false=>
    cases hmm:(memb ns q.name).isSome with
    | true=>simp [hmm]
    | false=>simp [hmm]
  rw [hdr,hdep] at hDi;have k93:∀ (ok':Bool) (w':World) (m2:List Bool),MK w' g m2->m2.length=m.length->jdeps J v (depG v (x.deps.drop (i.toNat+1))) (ok',m2)=D->Ext (fun k=>k=g) w w'->K93 ok' w':=fun ok' w' m2 p1 p2 p3 p4=>hK93 ok' w' (by
   rw [a_a i0 (by omega)];exact next i0 hlt ⟨⟨m2,p1,p2,by rw [show (i+1).toNat=i.toNat+1 by omega];exact p3⟩,p4⟩)
  have k96:∀ (z:Bool) (w':World),MK w' g m'->Ext (fun k=>k=g) w w'->EF w108 w'->(z=true↔((x.deps.drop (i.toNat+1)).any fun y=>decide (y.name=q.name))=true∨(memb ns q.name).isSome=false)->K96 z w':=fun z w' mw xw zw hz=>hK96 z w' ⟨fun h=>k93 ok w' m' mw lm (by rwa [if_pos (hz.1 h)] at hDi) xw,fun h w99 hw99=>by
   rw [if_neg (fun h'=>by rw [hz.2 h'] at h;cases h),jdeps] at hDi;have z99:EF w' w99:=hw99▸(Ext.refl _).drew;clear hw99;have x99:=xw.then z99;obtain ⟨p1,p2,p3⟩:=hn q.node (by exact .inr (.inr (.inr (.inr (.inr (.inr (.inr (.inr ⟨q,hqm,rfl⟩)))))))) (hw.2.2.2 q hqm);have hs99:=x99.size;refine ⟨p,hp,⟨i0,hlt⟩,q.node,(zw.then z99).cell g1 id,(IH' q.node _ _ w99 a l c sk p3 p1 p2 hok (RJNs.keep (kp x99) hr) (hv0.keep (kp x99)) (by omega)).mono ?_⟩;rintro _ w103 ⟨g2,rfl,hm2,hg2,x103⟩;have mk103:=(mw.ext z99 id).ext x103 id;have cj:=A_L mk103 hm2 (by have:=a_3 (mw.ext z99 id).1;omega);rw [lm] at cj;refine ⟨_,_,_,_,rfl,⟨x103.keepT _,x103.keepT _,x103.keepT _,trivial⟩,trivial,trivial,trivial,cj.mono ?_⟩;rintro _ w107 ⟨rfl,m107,x107⟩;have kk:=k93 (ok&&(J q.node v).1) w107 _ m107 (by rw [x_b];exact lm) hDi ((x99.then x103).trans x107 fun _ _ e=>e);exact ⟨rfl,⟨w_6 mk103 x107 (by decide),w_6 mk103 x107 (by decide),w_6 mk103 x107 (by decide),trivial⟩,fun h1=>by rwa [h1,Bool.true_and] at kk,fun h1=>by rwa [h1,Bool.false_and] at kk⟩⟩
  refine ⟨p,hp,⟨i0,hlt⟩,q.name,g0.cell,(y_a (r1.keep (kp x108)) q.name).mono ?_⟩;rintro _ w112 ⟨rfl,x112⟩;have y112:=x108.then x112;have m112:=m108.ext x112 id;refine ⟨_,rfl,⟨x112.keepT _,x112.keepT _,x112.keepT _,trivial⟩,trivial,fun hneg=>k96 _ _ m112 y112 x112 ?_,fun hpos=>(C_9 (RJPrs.keep (kp y112) h12) i0 hq).mono ?_⟩
  ·rw [y_h] at hneg;simp only [true_iff];exact .inr (by simpa using hneg)
  ·rintro _ w115 ⟨b116,rfl,x115,hb116⟩;refine ⟨b116,rfl,⟨x115.keepT _,x115.keepT _,x115.keepT _,trivial⟩,trivial,k96 _ _ (m112.ext x115 id) (y112.then x115) (x112.then x115) ?_⟩;rw [y_h] at hpos;have hpos:(memb ns q.name).isSome=true:=by simpa using hpos
   rw [hb116,hpos];simp
 ·have hout:=hz2 hb;have hfin:D=(ok,m'):=by
   rw [<- hDi];have:depG v (x.deps.drop i.toNat)=[]:=by
    unfold depG;rcases hout with h|h
    ·rw [List.drop_eq_nil_of_le (by omega)];split<;>rfl
    ·rw [if_neg (by rw [hVk];exact h)]
   rw [this];rfl
  have k117:∀ w',EF w89 w'->K117 ok w':=fun w' x'=>hK117 ok w' ⟨by rw [hfin],by rw [hfin];exact m89.ext x' id,x89.then x'⟩;refine (dpd w89 (kp x89)).mono ?_;rintro _ w121 ⟨rfl,x121⟩;exact ⟨_,rfl,⟨x121.keepT _,x121.keepT _,x121.keepT _,trivial⟩,fun _=>k117 _ x121,nofun⟩
end
theorem z_3:∀ m:List Bool,joinM m (m.map fun _=>true)=m.map fun _=>true
 | []=>rfl
 | x::m=>by simp [joinM,z_3 m]
section
variable {s:List JN} {f:Nat} {w:World} {a:OA} {l c:Nat} {sk:Sli}
theorem D_a (IH:JC s f)(hr:RJNs w a l c s){x:JN}{xc:List Value}(hx:RJN w x xc){v:JV}{cs:List Value}(hv:RJV w v cs)(hok:okV v)(hm:MK w g m)(hB:DB.B<=g)(hml:m.length=v.xs.length)
  (hn:∀ y∈v.xs,∀ n:Int,(n∈x.first∨n=x.items∨n=x.cont∨n=x.restI)->n≠0->1<=n/\n<=s.length/\MJ s.length y n.toNat<f) (hcl:x.cont>0->1<=x.cont/\x.cont<=s.length):
  CP 51 #[.int .i64 2020,nodV a l c sk,.agg xc.toArray,.agg cs.toArray,.slice (some (adr g)) m.length m.length] w fun e w'=>e=.returned (.bool (x_8 2020 (w_2 2020 s f) x v m).1)/\MK w' g (x_8 2020 (w_2 2020 s f) x v m).2/\Ext (fun k=>k=g) w w':=by
 have hv0:=hv;have hok0:=hok;have IH':=IH;unfold JC at IH';have elm:=fun (i:Int) (i0:0<=i) (y:JV) (cy:List Value) (w':World) (kp:Keep w w') (hs:DB.B<=w'.heap.size) (hy:y∈v.xs) (hvy:RJV w' y cy)=>by
  have:=B_W (sk:=sk) IH (RJNs.keep kp hr) (hx.keep kp) hvy (hok.sub hy) hs (i:=i.toNat) fun n h1 h2=>hn y hy n (by rcases h1 with h|h;exact .inl h;exact .inr (.inl h)) h2;rw [Int.toNat_of_nonneg i0] at this;exact this
 have ctn:=fun (m':List Bool) (w':World) (kp:Keep w w') (hmk:MK w' g m') (hl':m'.length=v.xs.length) (hc:x.cont>0)=>A_6 (sk:=sk) IH (RJNs.keep kp hr) (hx.keep kp) (hv.keep kp) hok hmk hB hl' ⟨(hcl hc).1,(hcl hc).2,fun y hy=>(hn y hy x.cont (by simp) (by omega)).2.2⟩;generalize w_2 2020 s f=J at *;obtain ⟨s3,s4,s5,s10,s12,s13,s19,s21,s31,s39,s40,s41,s42,s43,s50,s53,rfl,h1,h2,h3,h4,h5,h6,h7,h8,h9,h10,h11,h12,h13,h14,h15,h16⟩:=hx;have hgl:=a_3 hm.1;obtain ⟨k,b,n,t,ns,xs⟩:=v;obtain ⟨a1,l1,c1,a2,l2,c2,rfl,-, r1,r2⟩:=w_8.1 hv;have hsub:∀ y∈xs,okV y:=fun y hy=>hok.sub hy;obtain ⟨e2,e2'⟩:=r2.len;unfold x_8;simp only [JV.xs] at hml hn elm ctn ⊢;generalize hES:(xs.zipIdx.map fun y=>jelem 2020 J x y.2 y.1)=ES;have hEg:∀ (i:Nat) y,xs[i]? =some y->ES[i]? =some (jelem 2020 J x i y):=fun i y h=>by rw [<- hES,List.getElem?_map,List.getElem?_zipIdx,h];simp
 have hEl:ES.length=xs.length:=by rw [<- hES];simp
 generalize hCS:(xs.map fun y=>(J x.cont y).1)=CS at *;generalize hM1:joinM m (ES.map (·.2))=M1;have lM1:M1.length=m.length:=by rw [<- hM1,x_b]
 generalize hM2:(if x.cont>0/\(2020:Int)>=2020 then joinM M1 CS else M1)=M2;have lM2:M2.length=m.length:=by rw [<- hM2];split;rw [x_b,lM1];exact lM1
 generalize hLS:(if x.minC.is=true then x.minC else (⟨true,1⟩:JLim))=LS at *;generalize hk0:(bound xs.length x.minI x.maxI&& !(x.uniq&&twins xs))=ok0;generalize hk1:(ok0&&ES.all (·.1))=ok1;generalize hk2:(ok1&&(decide (x.cont<=0)||bound (CS.filter id).length LS x.maxC))=ok2;generalize hpr:(fun y:JV × Bool=>y.2||(J x.restI y.1).1)=pr;generalize hD:(if x.restI>0 then (ok2&&(xs.zip M2).all pr,M2.map fun _=>true) else (ok2,M2))=D;refine D_A 2020 a l c sk.a sk.l sk.c x.kind x.ref s3.a s3.l s3.c s4.a s4.l s4.c s5.a s5.l s5.c x.nt x.iff x.thn x.els s10.a s10.l s10.c x.hasEnum s12.a s12.l s12.c s13.a s13.l s13.c x.minL.is x.minL.n x.maxL.is x.maxL.n x.pat.is s19.a s19.l s19.c x.fmt.is s21.a s21.l s21.c x.minI.is x.minI.n x.maxI.is x.maxI.n x.minC.is x.minC.n x.maxC.is x.maxC.n x.uniq s31.a s31.l s31.c x.items x.cont x.restI x.minP.is x.minP.n x.maxP.is x.maxP.n s39.a s39.l s39.c s40.a s40.l s40.c s41.a s41.l s41.c s42.a s42.l s42.c s43.a s43.l s43.c x.more.k x.more.node x.names x.restP x.single x.hasPl s50.a s50.l s50.c x.others.k x.others.node s53.a s53.l s53.c k b n t a1 l1 c1 a2 l2 c2 (some (adr g)) m.length m.length w _ ⟨trivial,?_⟩;intro w64;have x64:EF w w64:=(Ext.refl _).alloc _;clear_value w64;refine ⟨trivial,?_⟩;intro w65;have x65:EF w w65:=x64.alloc _;clear_value w65;refine ⟨trivial,?_⟩;intro w66;have x66:EF w w66:=x65.alloc _;clear_value w66;have kp:=fun {w':World} (x':Ext (fun k=>k=g) w w')=>z_5 hm hB x';refine (y_m (l2:Int) x.minI x.maxI).mono ?_;rintro _ w68 ⟨b69,rfl,x68,hb69⟩;have y68:=x66.then x68;refine ⟨b69,rfl,⟨x68.keepT _,x68.keepT _,x68.keepT _,trivial⟩,fun K70 hK70=>?_⟩
 suffices k70:∀ w',MK w' g m->Ext (fun k=>k=g) w w'->K70 ok0 w' by
  refine (C_4 (r2.keep y68.keep) fun y hy=>(hsub y hy).ok).mono ?_;rintro _ w143 ⟨p,q,rfl,x143,htw⟩;have y143:=y68.then x143;have kk:=k70 w143 (hm.ext y143 id) (y143.mono fun _ _ e=>e.elim);refine ⟨p,q,rfl,⟨x143.keepT _,x143.keepT _,x143.keepT _,trivial⟩,fun K146 hK146=>?_⟩;have hb:bound xs.length x.minI x.maxI=b69:=by rw [hb69,e2]
  have k146:∀ z,z=(x.uniq&&twins xs)->K146 z w143:=fun z hz=>hK146 z w143 ⟨fun h=>by
   rw [<- hk0,<- hz,h] at kk;simpa using kk,fun h=>by
   rw [<- hk0,<- hz,h,hb] at kk;simpa using kk⟩
  refine ⟨fun h=>k146 _ ?_,fun h=>k146 _ (by rw [h];rfl)⟩;rw [h,Bool.true_and];rcases htw with ⟨t1,t2,-⟩|⟨t1,t2,-⟩
  ·rw [t1,decide_eq_true t2]
  ·rw [t1,decide_eq_false (by omega)]
 intro w72 m72 x72;refine hK70 ok0 w72 ?_;refine ⟨fun ok i w1=>0<=i/\i<=l2/\ok=(ok0&&(ES.take i.toNat).all (·.1))/\(∃ ms,x_k m (ES.map (·.2)) i.toNat ms/\MK w1 g ms)/\Ext (fun k=>k=g) w w1,fun _ i _=>((l2:Int)-i).toNat,⟨by omega,by omega,by simp,⟨m,x_k.start ..,m72⟩,x72⟩,?_⟩;rintro ok i w77 ⟨i0,i1,hoki,⟨ms,hj,m77⟩,x77⟩;refine ⟨fun hlt K78 hK78 w81 hw81=>?_,fun hge K102 hK102=>?_⟩
 ·have hlt:=odt hlt;have z81:EF w77 w81:=hw81▸(Ext.refl _).drew;clear hw81;have x81:=x77.then z81;have hs81:=x81.size;obtain ⟨p,y,hp,hy,cy,hcy,hvy⟩:=(r2.keep (kp x81)).get i0 hlt;have call:=elm i i0 y cy w81 (kp x81) (by omega) (mg_ hy) hvy;have hEi:=hEg _ _ hy;generalize hEE:jelem 2020 J x i.toNat y=EE at *;have htk:ES.take (i+1).toNat=ES.take i.toNat++[EE]:=take_succ i0 hEi;have hj1:=hj.1;obtain ⟨q,hq⟩:∃ q,ms[i.toNat]? =some q:=⟨_,List.getElem?_eq_getElem (by omega)⟩;obtain ⟨yk,yb,yn,yt,yns,yxs⟩:=y;obtain ⟨a5,l5,c5,a6,l6,c6,rfl,-, -, -⟩:=w_8.1 hvy;obtain ⟨⟨_,_,g0⟩,-, ⟨_,_,g1⟩,-, ⟨_,_,g2⟩,-, ⟨_,_,g3⟩,-, ⟨_,_,g4⟩,-, ⟨_,_,g5⟩,-⟩:=hcy;refine ⟨p,hp,⟨i0,hlt⟩,_,g0.cell,_,g1.cell,_,g2.cell,_,g3.cell,_,_,_,g4.cell,_,_,_,g5.cell,call.mono ?_⟩;rintro _ w90 ⟨rfl,x90⟩;have m90:=(m77.ext z81 id).ext x90 id;have y90:=x81.then x90;refine ⟨_,_,rfl,⟨x90.keepT _,x90.keepT _,x90.keepT _,trivial⟩,trivial,trivial,trivial,fun K93 hK93=>?_⟩;have st:∀ (ok' z:Bool),ok'=(ok&&EE.1)->z=(q||EE.2)->K78 ok' (w90.setCell ((adr g).add (i.toNat*1)) (.bool z)):=fun ok' z h1 h2=>hK78 ok' _ (by
   rw [a_a i0 (by omega)];refine next i0 hlt ⟨?_,⟨ms.set i.toNat z,?_,m90.set z⟩,y90.trans (w_1 _) fun _ _ e=>e⟩
   ·rw [h1,htk,hoki,List.all_append,<- Bool.and_assoc];simp
   ·rw [show (i+1).toNat=i.toNat+1 by omega,h2];exact hj.step hq (by rw [List.getElem?_map,hEi];rfl))
  have k93:∀ ok',ok'=(ok&&EE.1)->K93 ok' w90:=fun ok' h1=>hK93 ok' w90 ⟨_,rfl,⟨i0,by omega⟩,q,m90.get hq,fun h2=>⟨_,rfl,⟨i0,by omega⟩,m90.offF (by omega) (by decide),trivial,st ok' _ h1 (by rw [h2];rfl)⟩,fun h2=>⟨_,rfl,⟨i0,by omega⟩,m90.offF (by omega) (by decide),trivial,st ok' _ h1 (by rw [h2];rfl)⟩⟩;exact ⟨fun h=>k93 _ (by rw [h,Bool.true_and]),fun h=>k93 _ (by rw [h,Bool.false_and])⟩
 have hge:=odf hge;have hms:ms=M1:=by rw [<- hM1];exact hj.end_ (.inl (by omega))
 rw [hms] at m77;rw [tl_ (by omega),hk1] at hoki;subst hoki
 suffices k102:∀ w',MK w' g M2->Ext (fun k=>k=g) w w'->K102 ok2 w' by
  refine ⟨fun h=>?_,fun h=>?_⟩
  ·have h:=odt h;have call:=ctn M1 w77 (kp x77) m77 (by omega) h;rw [lM1] at call;refine call.mono ?_;rintro _ w140 ⟨rfl,m140,x140⟩;have hM:M2=joinM M1 CS:=by rw [<- hM2,if_pos ⟨h,Int.le_refl _⟩]
   have kk:=k102 w140 (by rw [hM];exact m140) (x77.trans x140 fun _ _ e=>e);rw [<- hk2,decide_eq_false (by omega),Bool.false_or] at kk;exact ⟨_,rfl,⟨w_6 m77 x140 (by decide),w_6 m77 x140 (by decide),w_6 m77 x140 (by decide),trivial⟩,fun h1=>by rwa [h1,Bool.and_true] at kk,fun h1=>by rwa [h1,Bool.and_false] at kk⟩
  ·have h:=odf h;have hM:M2=M1:=by rw [<- hM2,if_neg fun hh=>h hh.1]
   have kk:=k102 w77 (by rw [hM];exact m77) x77
   rwa [<- hk2,decide_eq_true (by omega),Bool.true_or,Bool.and_true] at kk
 intro w104 m104 x104;refine hK102 ok2 w104 ?_;clear hK102 K102;refine ⟨fun ok i w1=>0<=i/\i<=l2/\ok=(ok2&&((xs.zip M2).take i.toNat).all pr)/\(x.restI<=0->i=0)/\MK w1 g M2/\Ext (fun k=>k=g) w w1,fun _ i _=>((l2:Int)-i).toNat,⟨by omega,by omega,by simp,fun _=>rfl,m104,x104⟩,?_⟩;rintro ok i w109 ⟨j0,j1,hoki,hr0,m109,x109⟩;intro K110 hK110;have hzl:(xs.zip M2).length=xs.length:=by rw [List.length_zip];omega
 suffices k110:∀ z,(z=true->i<(l2:Int)/\x.restI>0)->(z=false->(l2:Int)<=i∨x.restI<=0)->K110 z w109 by
  refine ⟨fun h=>k110 _ (fun h'=>⟨odt h,odt h'⟩) (fun h'=>.inr (by have:=odf h';omega)),fun h=>k110 _ nofun fun _=>.inl (by have:=odf h;omega)⟩
 intro z hz1 hz2;refine hK110 z w109 ⟨fun hb K113 hK113=>?_,fun hb=>?_⟩
 ·obtain ⟨hlt,hrp⟩:=hz1 hb;obtain ⟨q,hq⟩:∃ q,M2[i.toNat]? =some q:=⟨_,List.getElem?_eq_getElem (by omega)⟩;obtain ⟨y,hy⟩:∃ y,xs[i.toNat]? =some y:=⟨_,List.getElem?_eq_getElem (by omega)⟩;have hzi:(xs.zip M2)[i.toNat]? =some (y,q):=by rw [List.getElem?_zip_eq_some];exact ⟨hy,hq⟩
  have htk:(xs.zip M2).take (i+1).toNat=(xs.zip M2).take i.toNat++[(y,q)]:=take_succ j0 hzi;have k113:∀ (ok':Bool) (w':World),ok'=(ok&&(q||(J x.restI y).1))->MK w' g M2->Ext (fun k=>k=g) w w'->K113 ok' w':=fun ok' w' h1 h2 h3=>hK113 ok' w' (by
   rw [a_a j0 (by omega)];refine next j0 hlt ⟨?_,fun h=>by omega,h2,h3⟩
   rw [h1,htk,hoki,List.all_append,<- Bool.and_assoc,<- hpr];simp)
  refine ⟨_,rfl,⟨j0,by omega⟩,q,m109.get hq,fun h1 w118 hw118=>?_,fun h1=>k113 _ _ (by
   have:q=true:=by simpa using h1
   rw [this,Bool.true_or,Bool.and_true]) m109 x109⟩
  have hqf:q=false:=by simpa using h1
  have z118:EF w109 w118:=hw118▸(Ext.refl _).drew;clear hw118;have x118:=x109.then z118;have hs118:=x118.size;obtain ⟨p,y',hp,hy',cy,hcy,hvy⟩:=(r2.keep (kp x118)).get j0 hlt;rw [hy] at hy';cases hy';have hym:=mg_ hy;obtain ⟨p1,p2,p3⟩:=hn y hym x.restI (by simp) (by omega);have call:=IH' x.restI y cy w118 a l c sk p3 p1 p2 (hsub y hym) (RJNs.keep (kp x118) hr) hvy (by omega);obtain ⟨yk,yb,yn,yt,yns,yxs⟩:=y;obtain ⟨a5,l5,c5,a6,l6,c6,rfl,-, -, -⟩:=w_8.1 hvy;obtain ⟨⟨_,_,g0⟩,-, ⟨_,_,g1⟩,-, ⟨_,_,g2⟩,-, ⟨_,_,g3⟩,-, ⟨_,_,g4⟩,-, ⟨_,_,g5⟩,-⟩:=hcy;refine ⟨p,hp,⟨j0,hlt⟩,_,g0.cell,_,g1.cell,_,g2.cell,_,g3.cell,_,_,_,g4.cell,_,_,_,g5.cell,call.mono ?_⟩;rintro _ w127 ⟨gg,rfl,-, -, x127⟩;have m127:=(m109.ext z118 id).ext x127 id;exact ⟨_,_,_,_,rfl,⟨x127.keepT _,x127.keepT _,x127.keepT _,trivial⟩,trivial,trivial,trivial,fun h2=>k113 _ _ (by rw [h2,hqf];rfl) m127 (x118.then x127),fun h2=>k113 _ _ (by rw [h2];rfl) m127 (x118.then x127)⟩
 ·have hout:=hz2 hb;have hDk:D.1=ok:=by
   rw [<- hD,hoki];by_cases hrp:x.restI>0
   ·rw [if_pos hrp,tl_ (by omega)]
   ·rw [if_neg hrp,hr0 (by omega)];simp
  refine ⟨fun i w1=>0<=i/\i<=l2/\(x.restI<=0->i=0)/\(∃ ms,x_k M2 (M2.map fun _=>true) i.toNat ms/\MK w1 g ms)/\Ext (fun k=>k=g) w w1,fun i _=>((l2:Int)-i).toNat,⟨by omega,by omega,fun _=>rfl,⟨M2,x_k.start ..,m109⟩,x109⟩,?_⟩;rintro i3 w133 ⟨d0,d1,dr,⟨ms,hj3,m133⟩,x133⟩;intro K134 hK134;have hj31:=hj3.1
  suffices k134:∀ z,(z=true->i3<(l2:Int)/\x.restI>0)->(z=false->(l2:Int)<=i3∨x.restI<=0)->K134 z w133 by
   refine ⟨fun h=>k134 _ (fun h'=>⟨odt h,odt h'⟩) (fun h'=>.inr (by have:=odf h';omega)),fun h=>k134 _ nofun fun _=>.inl (by have:=odf h;omega)⟩
  intro z3 hz31 hz32;refine hK134 z3 w133 ⟨fun hb3=>?_,fun hb3=>?_⟩
  ·obtain ⟨hlt,hrp⟩:=hz31 hb3;obtain ⟨q,hq⟩:∃ q,ms[i3.toNat]? =some q:=⟨_,List.getElem?_eq_getElem (by omega)⟩;obtain ⟨q2,hq2⟩:∃ q,M2[i3.toNat]? =some q:=⟨_,List.getElem?_eq_getElem (by omega)⟩;refine ⟨_,rfl,⟨d0,by omega⟩,m133.offF (by omega) (by decide),trivial,?_⟩;rw [a_a d0 (by omega)];refine next d0 hlt ⟨fun h=>by omega,⟨ms.set i3.toNat true,?_,m133.set true⟩,x133.trans (w_1 _) fun _ _ e=>e⟩
   have:=hj3.step hq (y:=true) (by rw [List.getElem?_map,hq2];rfl);rw [Bool.or_true] at this
   rwa [show (i3+1).toNat=i3.toNat+1 by omega]
  ·have hD2:D.2=ms:=by
    rw [<- hD];by_cases hrp:x.restI>0
    ·rw [if_pos hrp];have:(l2:Int)<=i3:=by
      rcases hz32 hb3 with h|h
      ·exact h
      ·omega
     rw [hj3.end_ (.inl (by omega)),z_3]
    ·rw [if_neg hrp];have:i3=0:=dr (by omega);rw [this] at hj3;exact List.ext_getElem? fun j=>by
      have:=hj3.2 j;simp only [Int.toNat_zero,Nat.not_lt_zero,if_false] at this;exact this.symm
   exact ⟨by rw [hDk],by rw [hD2];exact m133,x133⟩
end
theorem D_s {u:BA}(h:U8 u):okV (.mk 3 false 0 u [] []):=⟨by decide,by decide,by decide,nofun,nofun,h,nofun,trivial⟩
theorem C_Z {w:World}{u:BA}(h:u.size<=4194304):RJV w (.mk 3 false 0 u [] []) [.int .i64 3,.bool false,.int .i64 0,.string u,.slice none 0 0,.slice none 0 0]:=
 w_8.2 ⟨none,0,0,none,0,0,rfl,h,⟨rfl,Nat.le_refl _,by omega,fun i x h=>by simp at h⟩,⟨rfl,Nat.le_refl _,by omega,fun i x h=>by simp at h⟩⟩
section
variable {s:List JN} {f:Nat} {w:World} {a:OA} {l c:Nat} {sk:Sli}
theorem C_q (IH:JC s f)(hr:RJNs w a l c s){x:JN}{xc:List Value}(hx:RJN w x xc){v:JV}{cs:List Value}(hv:RJV w v cs)(hok:okV v)(h5:v.k=5)(hm:MK w g m)(hB:DB.B<=g)(hml:m.length=v.xs.length)
  (hp:∀ y∈v.xs,∀ q∈x.props,1<=q.node/\q.node<=s.length/\MJ s.length y q.node.toNat<f) (hq:∀ y∈v.xs,∀ q∈x.pats,1<=q.node/\q.node<=s.length/\MJ s.length y q.node.toNat<f) (hmo:∀ y∈v.xs,x.more.k=3->1<=x.more.node/\x.more.node<=s.length/\MJ s.length y x.more.node.toNat<f)
  (hnm:x.names>0->∀ u∈v.ns,1<=x.names/\x.names<=s.length/\MJ s.length (.mk 3 false 0 u [] []) x.names.toNat<f) (hre:x.restP>0->∀ y∈v.xs,1<=x.restP/\x.restP<=s.length/\MJ s.length y x.restP.toNat<f):
  CP 52 #[.int .i64 2020,nodV a l c sk,.agg xc.toArray,.agg cs.toArray,.slice (some (adr g)) m.length m.length] w fun e w'=>e=.returned (.bool (x_w (w_2 2020 s f) x v m).1)/\MK w' g (x_w (w_2 2020 s f) x v m).2/\Ext (fun k=>k=g) w w':=by
 have hv0:=hv;have hx0:=hx;have hnsl:=hok.len5 h5;have IH':=IH;unfold JC at IH';have mem:=fun (u:BA) (y:JV) (cy:List Value) (w':World) (kp:Keep w w') (hs:DB.B<=w'.heap.size) (hy:y∈v.xs) (hvy:RJV w' y cy)=>C_p (sk:=sk) IH (RJNs.keep kp hr) (hx.keep kp) hvy (hok.sub hy) hs u (hp y hy) (hq y hy) (hmo y hy);generalize w_2 2020 s f=J at *;obtain ⟨s3,s4,s5,s10,s12,s13,s19,s21,s31,s39,s40,s41,s42,s43,s50,s53,rfl,h1,h2,h3,h4,h5,h6,h7,h8,h9,h10,h11,h12,h13,h14,h15,h16⟩:=hx;have hgl:=a_3 hm.1;obtain ⟨k,b,n,t,ns,xs⟩:=v;obtain ⟨a1,l1,c1,a2,l2,c2,rfl,-, r1,r2⟩:=w_8.1 hv;have hsub:∀ y∈xs,okV y:=fun y hy=>hok.sub hy;have hnam:∀ u∈ns,U8 u:=fun u hu=>hok.names hu;obtain ⟨e1,e1'⟩:=r1.len;obtain ⟨e2,e2'⟩:=r2.len;unfold x_w;simp only [JV.xs,JV.ns] at hml hnm hre hnsl mem ⊢;generalize hV:(JV.mk k b n t ns xs)=v at *;have hVn:v.ns=ns:=by rw [<- hV];rfl
 have hVx:v.xs=xs:=by rw [<- hV];rfl
 generalize hL:membs ns=L;have hLm:∀ i∈L,i<ns.length:=fun i hi=>z_u (hL▸hi);have hLl:L.length<=ns.length:=by rw [<- hL];exact x_3 ns ns.length
 generalize hk0:(bound L.length x.minP x.maxP&&x_T x v)=ok0;generalize hR1:jmems J x v L (ok0,m)=R1;generalize hR2:(if x.restP>0 then jrest J x v L R1 else R1)=R2;refine C_S 2020 a l c sk.a sk.l sk.c x.kind x.ref s3.a s3.l s3.c s4.a s4.l s4.c s5.a s5.l s5.c x.nt x.iff x.thn x.els s10.a s10.l s10.c x.hasEnum s12.a s12.l s12.c s13.a s13.l s13.c x.minL.is x.minL.n x.maxL.is x.maxL.n x.pat.is s19.a s19.l s19.c x.fmt.is s21.a s21.l s21.c x.minI.is x.minI.n x.maxI.is x.maxI.n x.minC.is x.minC.n x.maxC.is x.maxC.n x.uniq s31.a s31.l s31.c x.items x.cont x.restI x.minP.is x.minP.n x.maxP.is x.maxP.n s39.a s39.l s39.c s40.a s40.l s40.c s41.a s41.l s41.c s42.a s42.l s42.c s43.a s43.l s43.c x.more.k x.more.node x.names x.restP x.single x.hasPl s50.a s50.l s50.c x.others.k x.others.node s53.a s53.l s53.c k b n t a1 l1 c1 a2 l2 c2 (some (adr g)) m.length m.length w _ ⟨trivial,?_⟩;intro w64;have x64:EF w w64:=(Ext.refl _).alloc _;clear_value w64;refine ⟨trivial,?_⟩;intro w65;have x65:EF w w65:=x64.alloc _;clear_value w65;refine ⟨trivial,?_⟩;intro w66;have x66:EF w w66:=x65.alloc _;clear_value w66;have kp:=fun {w':World} (x':Ext (fun k=>k=g) w w')=>z_5 hm hB x';have hs66:=x66.size;refine (z_Y (r1.keep x66.keep)).mono ?_;rintro _ w68 ⟨AL,LL,CL,rfl,x68,hO⟩;rw [hL] at hO;have y68:=x66.then x68;have eLL:=hO.len (by omega);rw [List.length_map] at eLL;have rd:∀ {w':World},Ext (fun k=>k=g) w68 w'->∀ {i:Int},0<=i->i<(LL:Int)->∃ (p:Addr) (j:Nat),AL=some p/\L[i.toNat]? =some j/\w'.cell? (p.add (i.toNat*1))=some (.int .i64 (j:Int)):=fun {w'} x' {i} i0 i1=>by
  have h:=(hO.keep x' fun b hb e=>by
   have:=(hO.ge b hb).1;have e:b=g:=e;omega).sl (by omega) (by omega)
  obtain ⟨p,q,hp,hq,cs,hc,rfl⟩:=SlL.get h i0 i1;rw [List.getElem?_map] at hq;obtain ⟨j,hj,rfl⟩:=Option.map_eq_some_iff.1 hq;exact ⟨p,j,hp,hj,hc.1.choose_spec.2.cell⟩
 refine ⟨AL,LL,CL,rfl,⟨x68.keepT _,x68.keepT _,x68.keepT _,trivial⟩,fun K70 hK70=>?_⟩
 suffices k70:∀ w',EF w68 w'->K70 ok0 w' by
  refine (y_m (LL:Int) x.minP x.maxP).mono ?_;rintro _ w152 ⟨b153,rfl,x152,hb153⟩;rw [eLL] at hb153;refine ⟨b153,rfl,⟨x152.keepT _,x152.keepT _,x152.keepT _,trivial⟩,fun h1=>?_,fun h1=>?_⟩
  ·have y152:=y68.then x152;refine (D_c (hx0.keep y152.keep) (hv0.keep y152.keep)).mono ?_;rintro _ w155 ⟨b156,rfl,x155,hb156⟩;refine ⟨b156,rfl,⟨x155.keepT _,x155.keepT _,x155.keepT _,trivial⟩,?_⟩;have kk:=k70 w155 (x152.then x155)
   rwa [<- hk0,<- hb153,h1,Bool.true_and,<- hb156] at kk
  ·have kk:=k70 w152 x152
   rwa [<- hk0,<- hb153,h1,Bool.false_and] at kk
 intro w72 z72;have m72:=(hm.ext y68 id).ext z72 id;refine hK70 ok0 w72 ?_;clear hK70 K70;have j68:Ext (fun k=>k=g) w w68:=y68.mono fun _ _ e=>e.elim;refine ⟨fun ok i w1=>0<=i/\i<=LL/\(∃ m',MK w1 g m'/\m'.length=m.length/\jmems J x v (L.drop i.toNat) (ok,m')=R1)/\Ext (fun k=>k=g) w68 w1,fun _ i _=>((LL:Int)-i).toNat,⟨by omega,by omega,⟨m,m72,rfl,by simpa using hR1⟩,z72.mono fun _ _ e=>e.elim⟩,?_⟩;rintro ok i w77 ⟨i0,i1,⟨m',m77,lm,hDi⟩,x77⟩;refine ⟨fun hlt K78 hK78 w81 hw81=>?_,fun hge=>?_⟩
 ·have hlt:=odt hlt;have z81:EF w77 w81:=hw81▸(Ext.refl _).drew;clear hw81;have x81:=x77.then z81;have y81:Ext (fun k=>k=g) w w81:=j68.trans x81 fun _ _ e=>e;have m81:=m77.ext z81 id;have hs81:=y81.size;obtain ⟨p,j,hp',hj,hcj⟩:=rd x81 i0 hlt;have hjm:=mg_ hj;have hjl:=hLm j hjm;have hdr:=drop_cons' hj;obtain ⟨p1,u,hp1,hu,_,hcu,rfl⟩:=(r1.keep (kp y81)).get (i:=(j:Int)) (by omega) (by omega);rw [Int.toNat_natCast] at hu;have hum:=mg_ hu;have hus:u.size<=4194304:=hcu.2.1;obtain ⟨y,hy⟩:∃ y,xs[j]? =some y:=⟨_,List.getElem?_eq_getElem (by omega)⟩;have hym:=mg_ hy;rw [hdr,jmems,hVn,hVx,hu,hy] at hDi;dsimp only at hDi;refine ⟨p,hp',⟨i0,hlt⟩,_,hcj,p1,hp1,⟨by omega,by omega⟩,u,hcu.1.choose_spec.2.cell,trivial,fun K86 hK86=>?_⟩
  suffices k86:∀ (w':World),MK w' g m'->Ext (fun k=>k=g) w68 w'->K86 (ok&&(decide (x.names<=0)||(J x.names (.mk 3 false 0 u [] [])).1)) w' by
   refine ⟨fun h=>⟨trivial,?_⟩,fun h=>?_⟩
   ·have h:=odt h;obtain ⟨p3,p4,p5⟩:=hnm h u hum;refine (IH' x.names _ _ w81 a l c sk p5 p3 p4 (D_s (hnam u hum)) (RJNs.keep (kp y81) hr) (C_Z hus) (by omega)).mono ?_;rintro _ w109 ⟨gg,rfl,-, -, x109⟩;have kk:=k86 w109 (m81.ext x109 id) (x81.then x109);rw [decide_eq_false (by omega),Bool.false_or] at kk;exact ⟨_,_,_,_,rfl,⟨x109.keepT _,x109.keepT _,x109.keepT _,trivial⟩,fun h1=>by rwa [h1,Bool.true_and] at kk,fun h1=>by rwa [h1,Bool.false_and] at kk⟩
   ·have h:=odf h;have kk:=k86 w81 m81 x81
    rwa [decide_eq_true (by omega),Bool.true_or,Bool.and_true] at kk
  generalize hok87:(ok&&(decide (x.names<=0)||(J x.names (.mk 3 false 0 u [] [])).1))=ok87 at *;intro w88 m88 x88;refine hK86 ok87 w88 fun w89 hw89=>?_;have z89:EF w88 w89:=hw89▸(Ext.refl _).drew;clear hw89;have x89:=x88.then z89;have y89:Ext (fun k=>k=g) w w89:=j68.trans x89 fun _ _ e=>e;have hs89:=y89.size;obtain ⟨q,j',hq',hj',hcj'⟩:=rd x89 i0 hlt;rw [hj] at hj';cases hj';obtain ⟨p2,y',hp2,hy',cy,hcy,hvy⟩:=(r2.keep (kp y89)).get (i:=(j:Int)) (by omega) (by omega);rw [Int.toNat_natCast,hy] at hy';cases hy';have call:=mem u y cy w89 (kp y89) (by omega) hym hvy;generalize hEE:x_d J x u y=EE at *;obtain ⟨yk,yb,yn,yt,yns,yxs⟩:=y;obtain ⟨a5,l5,c5,a6,l6,c6,rfl,-, -, -⟩:=w_8.1 hvy;obtain ⟨⟨_,_,g0⟩,-, ⟨_,_,g1⟩,-, ⟨_,_,g2⟩,-, ⟨_,_,g3⟩,-, ⟨_,_,g4⟩,-, ⟨_,_,g5⟩,-⟩:=hcy;refine ⟨q,hq',⟨i0,hlt⟩,_,hcj',p2,hp2,⟨by omega,by omega⟩,_,g0.cell,_,g1.cell,_,g2.cell,_,g3.cell,_,_,_,g4.cell,_,_,_,g5.cell,call.mono ?_⟩;rintro _ w100 ⟨rfl,x100⟩;have m100:=(m88.ext z89 id).ext x100 id;have y100:=x89.then x100;refine ⟨_,_,rfl,⟨x100.keepT _,x100.keepT _,x100.keepT _,trivial⟩,trivial,trivial,trivial,fun K103 hK103=>?_⟩;have k78:∀ (w':World) (m2:List Bool),MK w' g m2->m2=(if EE.2=true then nameM ns u m' else m')->Ext (fun k=>k=g) w68 w'->K78 (ok87&&EE.1) w':=fun w' m2 h1 h2 h3=>hK78 _ w' (by
   rw [a_a i0 (by omega)];refine next i0 hlt ⟨⟨m2,h1,?_,?_⟩,h3⟩
   ·rw [h2];split
    ·rw [x_U,lm]
    ·exact lm
   ·rw [show (i+1).toNat=i.toNat+1 by omega,h2,<- hDi])
  have k103:K103 (ok87&&EE.1) w100:=hK103 _ w100 ⟨fun h1=>by
   have cn:=D_U (v:=v) m100 (hv0.keep (kp (j68.trans y100 fun _ _ e=>e))) hB u;rw [lm] at cn;refine cn.mono ?_;rintro _ w107 ⟨rfl,m107,x107⟩;rw [hVn] at m107;exact ⟨rfl,⟨w_6 m100 x107 (by decide),w_6 m100 x107 (by decide),w_6 m100 x107 (by decide),trivial⟩,k78 w107 _ m107 (by rw [if_pos h1]) (y100.trans x107 fun _ _ e=>e)⟩,fun h1=>k78 w100 m' m100 (by rw [if_neg (by rw [h1];decide)]) y100⟩
  exact ⟨fun h=>by rwa [h,Bool.true_and] at k103,fun h=>by rwa [h,Bool.false_and] at k103⟩
 have hge:=odf hge;rw [List.drop_eq_nil_of_le (by omega),jmems] at hDi;refine ⟨fun ok i w1=>0<=i/\i<=LL/\(∃ m',MK w1 g m'/\m'.length=m.length/\(if x.restP>0 then jrest J x v (L.drop i.toNat) (ok,m') else (ok,m'))=R2)/\Ext (fun k=>k=g) w68 w1,fun _ i _=>((LL:Int)-i).toNat,⟨by omega,by omega,⟨m',m77,lm,by simp only [Int.toNat_zero,List.drop_zero];rw [hDi,hR2]⟩,x77⟩,?_⟩;rintro ok i w116 ⟨i0,i1,⟨m',m116,lm,hDi⟩,x116⟩;intro K117 hK117
 suffices k117:∀ z,(z=true->i<(LL:Int)/\x.restP>0)->(z=false->(LL:Int)<=i∨¬ x.restP>0)->K117 z w116 by
  exact ⟨fun h=>k117 _ (fun h'=>⟨odt h,odt h'⟩) (fun h'=>.inr (odf h')),fun h=>k117 _ nofun fun _=>.inl (by have:=odf h;omega)⟩
 intro z hz1 hz2;refine hK117 z w116 ⟨fun hb K120 hK120=>?_,fun hb=>?_⟩
 ·obtain ⟨hlt,hrp⟩:=hz1 hb;rw [if_pos hrp] at hDi;obtain ⟨p,j,hp',hj,hcj⟩:=rd x116 i0 hlt;have hjm:=mg_ hj;have hjl:=hLm j hjm;have hdr:=drop_cons' hj;obtain ⟨u,hu⟩:∃ u,ns[j]? =some u:=⟨_,List.getElem?_eq_getElem (by omega)⟩;obtain ⟨y,hy⟩:∃ y,xs[j]? =some y:=⟨_,List.getElem?_eq_getElem (by omega)⟩;obtain ⟨q,hq0⟩:∃ q,m'[j]? =some q:=⟨_,List.getElem?_eq_getElem (by omega)⟩;have hym:=mg_ hy;rw [hdr,jrest,hVn,hVx,hu,hy,hq0] at hDi;dsimp only at hDi;have k120:∀ (ok':Bool) (w':World) (m2:List Bool),MK w' g m2->m2.length=m.length->jrest J x v (L.drop (i.toNat+1)) (ok',m2)=R2->Ext (fun k=>k=g) w68 w'->K120 ok' w':=fun ok' w' m2 h1 h2 h3 h4=>hK120 ok' w' (by
   rw [a_a i0 (by omega)];exact next i0 hlt ⟨⟨m2,h1,h2,by rw [if_pos hrp,show (i+1).toNat=i.toNat+1 by omega];exact h3⟩,h4⟩)
  have hcq:=m116.get hq0;have hjt:((j:Int)).toNat=j:=Int.toNat_natCast j;refine ⟨p,hp',⟨i0,hlt⟩,_,hcj,_,rfl,⟨by omega,by omega⟩,q,by rw [hjt];exact hcq,fun h1 w127 hw127=>?_,fun h1=>?_⟩
  ·have hqf:q=false:=by simpa using h1
   rw [hqf,if_neg (by simp)] at hDi;have z127:EF w116 w127:=hw127▸(Ext.refl _).drew;clear hw127;have x127:=x116.then z127;have y127:Ext (fun k=>k=g) w w127:=j68.trans x127 fun _ _ e=>e;have hs127:=y127.size;obtain ⟨p0,j0,hp0,hj0,hcj0⟩:=rd x127 i0 hlt;rw [hj] at hj0;cases hj0;obtain ⟨p2,y',hp2,hy',cy,hcy,hvy⟩:=(r2.keep (kp y127)).get (i:=(j:Int)) (by omega) (by omega);rw [Int.toNat_natCast,hy] at hy';cases hy';obtain ⟨p3,p4,p5⟩:=hre hrp y hym;have call:=IH' x.restP y cy w127 a l c sk p5 p3 p4 (hsub y hym) (RJNs.keep (kp y127) hr) hvy (by omega);generalize hEE:(J x.restP y).1=EE at *;obtain ⟨yk,yb,yn,yt,yns,yxs⟩:=y;obtain ⟨a5,l5,c5,a6,l6,c6,rfl,-, -, -⟩:=w_8.1 hvy;obtain ⟨⟨_,_,g0⟩,-, ⟨_,_,g1⟩,-, ⟨_,_,g2⟩,-, ⟨_,_,g3⟩,-, ⟨_,_,g4⟩,-, ⟨_,_,g5⟩,-⟩:=hcy;refine ⟨p0,hp0,⟨i0,hlt⟩,_,hcj0,p2,hp2,⟨by omega,by omega⟩,_,g0.cell,_,g1.cell,_,g2.cell,_,g3.cell,_,_,_,g4.cell,_,_,_,g5.cell,call.mono ?_⟩;rintro _ w138 ⟨gg,rfl,-, -, x138⟩;have y138:=x127.then x138;have m138:=(m116.ext z127 id).ext x138 id;refine ⟨_,_,_,_,rfl,⟨x138.keepT _,x138.keepT _,x138.keepT _,trivial⟩,trivial,trivial,trivial,fun K141 hK141=>?_⟩;have k141:K141 (ok&&EE) w138:=hK141 _ w138 fun w144 hw144=>by
    have z144:EF w138 w144:=hw144▸(Ext.refl _).drew;clear hw144;have x144:=y138.then z144;have y144:Ext (fun k=>k=g) w w144:=j68.trans x144 fun _ _ e=>e;obtain ⟨p6,j6,hp6,hj6,hcj6⟩:=rd x144 i0 hlt;rw [hj] at hj6;cases hj6;obtain ⟨p7,u',hp7,hu',_,hcu,rfl⟩:=(r1.keep (kp y144)).get (i:=(j:Int)) (by omega) (by omega);rw [Int.toNat_natCast,hu] at hu';cases hu';have m144:=m138.ext z144 id;have cn:=D_U (v:=v) m144 (hv0.keep (kp y144)) hB u;rw [lm] at cn;refine ⟨p6,hp6,⟨i0,hlt⟩,_,hcj6,p7,hp7,⟨by omega,by omega⟩,u,hcu.1.choose_spec.2.cell,cn.mono ?_⟩;rintro _ w150 ⟨rfl,m150,x150⟩;rw [hVn] at m150;exact ⟨rfl,⟨w_6 m144 x150 (by decide),w_6 m144 x150 (by decide),w_6 m144 x150 (by decide),trivial⟩,trivial,k120 _ w150 _ m150 (by rw [x_U,lm]) hDi (x144.trans x150 fun _ _ e=>e)⟩
   exact ⟨fun h=>by rwa [h,Bool.true_and] at k141,fun h=>by rwa [h,Bool.false_and] at k141⟩
  ·have hqt:q=true:=by simpa using h1
   rw [hqt,if_pos rfl] at hDi;exact k120 ok w116 m' m116 lm hDi x116
 ·have hout:=hz2 hb;have hfin:R2=(ok,m'):=by
   rw [<- hDi];rcases hout with h|h
   ·rw [List.drop_eq_nil_of_le (by omega)];split<;>rfl
   ·rw [if_neg h]
  exact ⟨by rw [hfin],by rw [hfin];exact m116,j68.trans x116 fun _ _ e=>e⟩
end
def jkind (J:JJ)(x:JN)(v:JV)(m:List Bool):Bool × List Bool:=if v.k=3 then (bound (x_c v.t.toList) x.minL x.maxL&&tkn v.t x.pat&&tkn v.t x.fmt,m) else if v.k=4 then x_8 2020 J x v m else if v.k=5 then x_w J x v m else (true,m)
theorem B_4 {s:List JN}{f:Nat}{n:Int}{x:JN}(hx:s[(n-1).toNat]? =some x)(v:JV):w_2 2020 s (f+1) n v=
  if x.kind≠0 then (decide (x.kind=1),v.xs.map fun _=>false) else if (x_j x v&&(x_e (w_2 2020 s f) x v (v.xs.map fun _=>false)).1&&(jkind (w_2 2020 s f) x v (x_e (w_2 2020 s f) x v (v.xs.map fun _=>false)).2).1)=true then (true,(jkind (w_2 2020 s f) x v (x_e (w_2 2020 s f) x v (v.xs.map fun _=>false)).2).2) else (false,v.xs.map fun _=>false):=by
 rw [w_2,hx];rfl
theorem jarray_len' (x:JN)(v:JV)(m:List Bool):(x_8 2020 J x v m).2.length=m.length:=by
 unfold x_8;dsimp only;split
 ·rw [List.length_map];split<;>simp [x_b]
 ·dsimp only;split<;>simp [x_b]
theorem A_Y (w:World)(xs:List JV)(hl:xs.length<=4194304):∃ w',(Instr.makeSlice 61 (.int .i64 (xs.length:Int)) (.int .i64 (xs.length:Int))).run Tryz.prog w=.ok (.slice (some (adr w.heap.size)) xs.length xs.length) w'/\MK w' w.heap.size (xs.map fun _=>false)/\EF w w':=by
 have ht:Tryz.prog.underlying 61=some (.slice 4):=by kernel_rfl
 have hi:Tryz.prog.info? 4=some Tryz.t4:=by kernel_rfl
 have hz:Tryz.t4.zero=some (.bool false):=by kernel_rfl
 have hs:Tryz.t4.size=1:=by kernel_rfl
 have hb:Tryz.t4.bytes=1:=by kernel_rfl
 have r:=run_makeSlice (P:=Tryz.prog) w 61 4 Tryz.t4 _ ht hi hz .i64 .i64 (xs.length:Int) (xs.length:Int) (by omega) (by omega) (by rw [hs];omega) (by rw [hb];omega) (by omega);rw [Int.toNat_natCast] at r;refine ⟨_,r,⟨?_,by rw [List.length_map];exact hl⟩,(Ext.refl w).alloc _⟩;have e:madeCells (Value.bool false).cells (xs.length*Tryz.t4.size)=((xs.map fun _=>false).map Value.bool).toArray:=by
  rw [hs,Nat.mul_one];apply Array.ext
  ·rw [size_madeCells];simp
  ·intro i h1 h2;simp [madeCells,Value.cells,Nat.mod_one]
 rw [e];exact w_3 _ _
section
variable {s:List JN} {f:Nat}
theorem D_b (hS:okS s)(IH:JC s f):JC s (f+1):=by
 intro n v cs w a l c sk hM n1 n2 hok hr hv hB;have hv0:=hv;have hok0:=hok;obtain ⟨el,el'⟩:=hr.len;obtain ⟨x,hxs⟩:∃ x,s[(n-1).toNat]? =some x:=⟨_,List.getElem?_eq_getElem (by omega)⟩;have hN:=hS _ x hxs;have hown:((n-1).toNat+1:Nat)=n.toNat:=by omega
 rw [hown] at hN;rw [B_4 hxs];have lat:∀ n':Int,later s.length n.toNat n'->n'≠0->1<=n'/\n'<=s.length/\MJ s.length v n'.toNat<f:=fun n' h h0=>by
  rcases h with h|⟨h,h'⟩
  ·exact absurd h h0
  ·have:=C_e (v:=v) (n:=n.toNat) (n':=n'.toNat) (N:=s.length) (by omega) (by omega);exact ⟨by omega,h',by omega⟩
 have sub:∀ (y:JV) (n':Int),szJ y<szJ v->later s.length 0 n'->n'≠0->1<=n'/\n'<=s.length/\MJ s.length y n'.toNat<f:=fun y n' hy h h0=>by
  rcases h with h|⟨h,h'⟩
  ·exact absurd h h0
  ·have:=C_f (n:=n.toNat) (n':=n'.toNat) (N:=s.length) hy;exact ⟨by omega,h',by omega⟩
 have hsz:∀ y∈v.xs,szJ y<szJ v:=fun y hy=>x_y hy;have place:=fun (w':World) (g:Nat) (m:List Bool) (xc:List Value) (hx:RJN w' x xc) (kp:Keep w w') (hm:MK w' g m) (hBg:DB.B<=g) (hml:m.length=v.xs.length)=>B_X (sk:=sk) IH (RJNs.keep kp hr) hx hN.dep (hv.keep kp) hok hm hBg hml (fun n' h h0=>lat n' (by
  rcases h with h|h|h|h|h|h|h|h|⟨q,hq,h⟩
  ·rw [h];exact hN.ref
  ·exact (hN.allOf n' h).1
  ·exact (hN.anyOf n' h).1
  ·exact (hN.oneOf n' h).1
  ·rw [h];exact hN.nt
  ·rw [h];exact hN.iff
  ·rw [h];exact hN.thn
  ·rw [h];exact hN.els
  ·rw [h];exact (hN.deps q hq).1) h0) ⟨fun n' h=>(hN.allOf n' h).2,fun n' h=>(hN.anyOf n' h).2,fun n' h=>(hN.oneOf n' h).2,fun q h=>(hN.deps q h).2⟩
 have array:=fun (w':World) (g:Nat) (m:List Bool) (xc:List Value) (hx:RJN w' x xc) (kp:Keep w w') (hm:MK w' g m) (hBg:DB.B<=g) (hml:m.length=v.xs.length)=>D_a (sk:=sk) IH (RJNs.keep kp hr) hx (hv.keep kp) hok hm hBg hml (fun y hy n' h h0=>sub y n' (hsz y hy) (by
  rcases h with h|h|h|h
  ·exact (hN.first n' h).1
  ·rw [h];exact hN.items
  ·rw [h];exact hN.cont
  ·rw [h];exact hN.restI) h0) (fun hc=>by
   rcases hN.cont with h|⟨h,h'⟩
   ·omega
   ·exact ⟨by omega,h'⟩)
 have obj:=fun (w':World) (g:Nat) (m:List Bool) (xc:List Value) (hx:RJN w' x xc) (kp:Keep w w') (hm:MK w' g m) (hBg:DB.B<=g) (hml:m.length=v.xs.length) (h5:v.k=5)=>C_q (sk:=sk) IH (RJNs.keep kp hr) hx (hv.keep kp) hok h5 hm hBg hml (fun y hy q hq=>sub y q.node (hsz y hy) (hN.props q hq).1 (hN.props q hq).2) (fun y hy q hq=>sub y q.node (hsz y hy) (hN.pats q hq).1 (hN.pats q hq).2) (fun y hy h3=>sub y _ (hsz y hy) hN.moreN.1 (hN.moreN.2 h3)) (fun hc u hu=>sub _ _ (by
   have h1:=y_l v;have h2:=hok.len5 h5;have h3:=List.length_pos_of_mem hu;simp only [szJ,szL];omega) hN.names (by omega)) (fun hc y hy=>sub y _ (hsz y hy) hN.restP (by omega))
 generalize w_2 2020 s f=J at *;obtain ⟨p,x',hp,hx',cx,hc,hrx⟩:=SlL.get hr (i:=n-1) (by omega) (by omega);rw [hxs] at hx';cases hx';have hrx0:=hrx;obtain ⟨s3,s4,s5,s10,s12,s13,s19,s21,s31,s39,s40,s41,s42,s43,s50,s53,rfl,h1,h2,h3,h4,h5,h6,h7,h8,h9,h10,h11,h12,h13,h14,h15,h16⟩:=hrx;obtain ⟨k,b,vn,t,ns,xs⟩:=v;obtain ⟨a1,l1,c1,a2,l2,c2,rfl,ht,r1,r2⟩:=w_8.1 hv;have hk2:k≠2:=hok.1;obtain ⟨e2,e2'⟩:=r2.len;generalize hV:(JV.mk k b vn t ns xs)=v at *;have hVx:v.xs=xs:=by rw [<- hV];rfl
 have hVk:v.k=k:=by rw [<- hV];rfl
 have hVt:v.t=t:=by rw [<- hV];rfl
 refine D_C 2020 a l c sk.a sk.l sk.c n k b vn t a1 l1 c1 a2 l2 c2 w _ ⟨trivial,?_⟩;intro w11;have x11:EF w w11:=(Ext.refl _).alloc _;clear_value w11;refine ⟨trivial,?_⟩;intro w12;have x12:EF w w12:=x11.alloc _;clear_value w12;rw [n_k (by omega) (by omega)];refine ⟨p,hp,⟨by omega,by omega⟩,_,hc.cl0 x12 rfl,_,hc.cl x12 1 rfl,_,_,_,hc.cl x12 2 rfl,_,_,_,hc.cl x12 3 rfl,_,_,_,hc.cl x12 4 rfl,_,hc.cl x12 5 rfl,_,hc.cl x12 6 rfl,_,hc.cl x12 7 rfl,_,hc.cl x12 8 rfl,_,_,_,hc.cl x12 9 rfl,_,hc.cl x12 10 rfl,_,_,_,hc.cl x12 11 rfl,_,_,_,hc.cl x12 12 rfl,_,hc.cl x12 13 rfl,_,hc.cl x12 14 rfl,_,hc.cl x12 15 rfl,_,hc.cl x12 16 rfl,_,hc.cl x12 17 rfl,_,_,_,hc.cl x12 18 rfl,_,hc.cl x12 19 rfl,_,_,_,hc.cl x12 20 rfl,_,hc.cl x12 21 rfl,_,hc.cl x12 22 rfl,_,hc.cl x12 23 rfl,_,hc.cl x12 24 rfl,_,hc.cl x12 25 rfl,_,hc.cl x12 26 rfl,_,hc.cl x12 27 rfl,_,hc.cl x12 28 rfl,_,hc.cl x12 29 rfl,_,_,_,hc.cl x12 30 rfl,_,hc.cl x12 31 rfl,_,hc.cl x12 32 rfl,_,hc.cl x12 33 rfl,_,hc.cl x12 34 rfl,_,hc.cl x12 35 rfl,_,hc.cl x12 36 rfl,_,hc.cl x12 37 rfl,_,_,_,hc.cl x12 38 rfl,_,_,_,hc.cl x12 39 rfl,_,_,_,hc.cl x12 40 rfl,_,_,_,hc.cl x12 41 rfl,_,_,_,hc.cl x12 42 rfl,_,hc.cl x12 43 rfl,_,hc.cl x12 44 rfl,_,hc.cl x12 45 rfl,_,hc.cl x12 46 rfl,_,hc.cl x12 47 rfl,_,hc.cl x12 48 rfl,_,_,_,hc.cl x12 49 rfl,_,hc.cl x12 50 rfl,_,hc.cl x12 51 rfl,_,_,_,hc.cl x12 52 rfl,trivial,trivial,?_⟩;intro w68;have x68:EF w w68:=x12.alloc _;clear_value w68;have hs68:=x68.size;subst e2;obtain ⟨w70,r70,m70,z70⟩:=A_Y w68 xs e2';generalize hg:w68.heap.size=g at *;have x70:=x68.then z70;rw [hVx];generalize hM0:(xs.map fun _=>false)=M0 at *;have lM0:M0.length=xs.length:=by rw [<- hM0,List.length_map]
 refine ⟨_,_,_,w70,r70,⟨z70.keepT _,z70.keepT _,z70.keepT _,trivial⟩,fun h=>?_,fun h=>?_⟩
 ·have h:x.kind≠0:=by simpa using h
  rw [if_pos h];exact ⟨g,by rw [lM0];rfl,m70,by omega,x70⟩
 have h:x.kind=0:=by simpa using h
 rw [if_neg (fun hh=>hh h)];refine (C_r (hrx0.keep x70.keep) ⟨hN.enm,hN.cstv⟩ (hv0.keep x70.keep) hok).mono ?_;rintro _ w72 ⟨jv,rfl,x72,hjv⟩;rw [<- hjv];have y72:=x70.then x72;have m72:=m70.ext x72 id;refine ⟨jv,rfl,⟨x72.keepT _,x72.keepT _,x72.keepT _,trivial⟩,fun K74 hK74=>?_⟩;generalize hA:x_e J x v M0=A;have lA:A.2.length=M0.length:=by rw [<- hA,y_1]
 generalize hBq:jkind J x v A.2=Bq;have back:∀ {w':World},Ext (fun k=>k=g) w72 w'->EF w w':=fun x'=>y72.trans x' fun b hb e=>by
  have e:b=g:=e;omega
 suffices k74:∀ w',MK w' g A.2->Ext (fun k=>k=g) w72 w'->K74 (jv&&A.1) w' by
  have call:=place w72 g M0 _ (hrx0.keep y72.keep) y72.keep m72 (by omega) (by rw [lM0,hVx]);rw [hA,lM0] at call;refine call.mono ?_;rintro _ w120 ⟨rfl,m120,x120⟩;have kk:=k74 w120 m120 x120;exact ⟨_,rfl,⟨w_6 m72 x120 (by decide),w_6 m72 x120 (by decide),w_6 m72 x120 (by decide),trivial⟩,fun h1=>by
   have h1:A.1=false:=by simpa using h1
   rwa [h1,Bool.and_false] at kk,fun h1=>by
   have h1:A.1=true:=by simpa using h1
   rwa [h1,Bool.and_true] at kk⟩
 intro w76 m76 x76;refine hK74 _ w76 fun K77 hK77=>?_;have y76:=back x76;have lBq:MK w76 g A.2->True:=fun _=>trivial
 suffices k77:∀ w',MK w' g Bq.2->Bq.2.length=xs.length->Ext (fun k=>k=g) w72 w'->K77 (jv&&A.1&&Bq.1) w' by
  refine ⟨fun h1=>absurd (by simpa using h1) hk2,fun _=>⟨fun h1 w100 hw100=>?_,fun h3=>⟨fun h1=>?_,fun h4=>⟨fun h1=>?_,fun h5=>?_⟩⟩⟩⟩
  ·have h1:k=3:=by simpa using h1
   have z100:EF w76 w100:=hw100▸(Ext.refl _).drew;clear hw100;have hB3:Bq=(bound (x_c t.toList) x.minL x.maxL&&tkn t x.pat&&tkn t x.fmt,A.2):=by rw [<- hBq,jkind,if_pos (by rw [hVk,h1]),hVt]
   have fin:∀ (z:Bool) (w':World),EF w100 w'->z=(jv&&A.1&&Bq.1)->K77 z w':=fun z w' x' hz=>by
    have x'':Ext (fun k=>k=g) w72 w':=(x76.then z100).then x';have:=k77 w' (by rw [hB3];exact (m76.ext z100 id).ext x' id) (by rw [hB3,lA,lM0]) x''
    rwa [<- hz] at this
   refine ⟨fun h2=>(C_2 t ht w100).mono ?_,fun h2=>⟨trivial,fin _ _ (Ext.refl _) (by rw [h2];rfl)⟩⟩;rintro _ w102 ⟨rfl,rfl⟩;refine ⟨_,rfl,⟨(Ext.refl _).keepT _,(Ext.refl _).keepT _,(Ext.refl _).keepT _,trivial⟩,⟨rfl,rfl,trivial⟩,(y_m _ x.minL x.maxL).mono ?_⟩;rintro _ w105 ⟨b106,rfl,x105,hb106⟩;refine ⟨b106,rfl,⟨x105.keepT _,x105.keepT _,x105.keepT _,trivial⟩,trivial,fun h3=>?_,fun h3=>⟨trivial,fin _ _ x105 (by rw [h2,hB3];dsimp only;rw [<- hb106,h3];rfl)⟩⟩;have y105:EF w w105:=(y76.then z100).then x105;refine (B_x t x.pat (h7.keep y105.keep)).mono ?_;rintro _ w108 ⟨b109,rfl,x108,hb109⟩;refine ⟨b109,rfl,⟨x108.keepT _,x108.keepT _,x108.keepT _,trivial⟩,trivial,fun h4=>?_,fun h4=>⟨trivial,fin _ _ (x105.then x108) (by rw [h2,hB3];dsimp only;rw [<- hb106,<- hb109,h3,h4];rfl)⟩⟩;refine (B_x t x.fmt (h8.keep (y105.then x108).keep)).mono ?_;rintro _ w111 ⟨b112,rfl,x111,hb112⟩;exact ⟨b112,rfl,⟨x111.keepT _,x111.keepT _,x111.keepT _,trivial⟩,trivial,trivial,fin _ _ ((x105.then x108).then x111) (by rw [h2,hB3];dsimp only;rw [<- hb106,<- hb109,h3,h4,<- hb112];rfl)⟩
  ·have h1:k=4:=by simpa using h1
   have hB4:x_8 2020 J x v A.2=Bq:=by rw [<- hBq,jkind,if_neg (by rw [hVk,h1];decide),if_pos (by rw [hVk,h1])]
   have call:=array w76 g A.2 _ (hrx0.keep y76.keep) y76.keep m76 (by omega) (by rw [lA,lM0,hVx]);rw [hB4,lA,lM0] at call;refine call.mono ?_;rintro _ w114 ⟨rfl,m114,x114⟩;have kk:=k77 w114 m114 (by rw [<- hB4,jarray_len',lA,lM0]) (x76.trans x114 fun _ _ e=>e);exact ⟨_,rfl,⟨w_6 m76 x114 (by decide),w_6 m76 x114 (by decide),w_6 m76 x114 (by decide),trivial⟩,fun h1=>by rwa [h1,Bool.and_true] at kk,fun h1=>by rwa [h1,Bool.and_false] at kk⟩
  ·have h1:k=5:=by simpa using h1
   have hB5:x_w J x v A.2=Bq:=by rw [<- hBq,jkind,if_neg (by rw [hVk,h1];decide),if_neg (by rw [hVk,h1];decide),if_pos (by rw [hVk,h1])]
   have call:=obj w76 g A.2 _ (hrx0.keep y76.keep) y76.keep m76 (by omega) (by rw [lA,lM0,hVx]) (by rw [hVk,h1]);rw [hB5,lA,lM0] at call;refine call.mono ?_;rintro _ w117 ⟨rfl,m117,x117⟩;have kk:=k77 w117 m117 (by rw [<- hB5,z_p,lA,lM0]) (x76.trans x117 fun _ _ e=>e);exact ⟨_,rfl,⟨w_6 m76 x117 (by decide),w_6 m76 x117 (by decide),w_6 m76 x117 (by decide),trivial⟩,fun h1=>by rwa [h1,Bool.and_true] at kk,fun h1=>by rwa [h1,Bool.and_false] at kk⟩
  ·have h3:k≠3:=by simpa using h3
   have h4:k≠4:=by simpa using h4
   have h5:k≠5:=by simpa using h5
   have hB0:Bq=(true,A.2):=by rw [<- hBq,jkind,if_neg (by rw [hVk];exact h3),if_neg (by rw [hVk];exact h4),if_neg (by rw [hVk];exact h5)]
   have kk:=k77 w76 (by rw [hB0];exact m76) (by rw [hB0,lA,lM0]) x76
   rwa [hB0,Bool.and_true] at kk
 intro w79 m79 lB x79;have y79:=back x79;refine hK77 _ w79 ⟨fun h1 K80 hK80 w84 hw84=>?_,fun h1=>?_⟩
 ·have h1:(jv&&A.1&&Bq.1)=false:=E_e h1.symm;have z84:EF w79 w84:=hw84▸(Ext.refl _).drew;clear hw84;have x84:=y79.then z84;obtain ⟨w86,r86,m86,z86⟩:=A_Y w84 xs e2';rw [hM0] at m86;have hs84:=x84.size;have fin:K80 false (some (adr w84.heap.size)) xs.length xs.length w86:=hK80 _ _ _ _ _ (by
   rw [hA,hBq,h1,if_neg (by decide)];exact ⟨w84.heap.size,by rw [lM0],m86,hs84,x84.then z86⟩)
  exact ⟨⟨_,_,_,w86,r86,⟨z86.keepT _,z86.keepT _,z86.keepT _,trivial⟩,trivial,trivial,trivial,fin⟩,⟨rfl,trivial⟩,_,_,_,w86,r86,⟨z86.keepT _,z86.keepT _,z86.keepT _,trivial⟩,trivial,trivial,fin⟩
 ·have h1:(jv&&A.1&&Bq.1)=true:=E_d h1.symm;rw [hA,hBq,if_pos h1];exact ⟨g,by rw [lB],m79,by omega,y79⟩
theorem D_X (hS:okS s):∀ f,JC s f
 | 0=>fun n v cs w a l c s3 hM=>by omega
 | f+1=>D_b hS (D_X hS f)
theorem C_6 (hS:okS s)(hs:s≠[]){w:World}{a:OA}{l c:Nat}(hr:RJNs w a l c s){v:JV}{cs:List Value}(hv:RJV w v cs)(hok:okV v)(hB:DB.B<=w.heap.size)(hM:MJ s.length v 1<f):CP 16 #[.slice a l c,.agg cs.toArray] w (RetB w fun z=>z=(w_2 2020 s f 1 v).1):=by
 have hv0:=hv;obtain ⟨k,b,vn,t,ns,xs⟩:=v;obtain ⟨a1,l1,c1,a2,l2,c2,rfl,ht,r1,r2⟩:=w_8.1 hv;refine D_y a l c k b vn t a1 l1 c1 a2 l2 c2 w _ ⟨trivial,?_⟩;intro w8;have x8:EF w w8:=(Ext.refl _).alloc _;clear_value w8;have hpos:=List.length_pos_iff.2 hs;refine ⟨trivial,(D_X hS f 1 _ _ w8 a l c ⟨none,0,0⟩ hM (by omega) (by omega) hok (RJNs.keep x8.keep hr) (hv0.keep x8.keep) (lt_ hB x8.size)).mono ?_⟩;rintro _ w10 ⟨g,rfl,-, -, x10⟩;exact ⟨_,_,_,_,rfl,⟨x10.keepT _,trivial⟩,_,rfl,x8.then x10,rfl⟩
end
end Go.VC
