/- Part of the proof of a law of a rule over documents (JpB), where what the arguments hold is of bulk at most 1048576. -/
import Derived.Test.YtdakokhbeoohlaaGreatDoorBaseB
import Derived.Test.YtdakokhbeoohlaaGreatDoorBaseC
import Derived.MapKept
import Derived.Maps.RangeRun
import Derived.Maps.AppendAt
import Derived.Test.YtdakokhbeoohlaaGreatDoorJpA
import Derived.LaidEqlPtr
import Derived.Laws.Cover3
set_option linter.unusedVariables false
set_option linter.unusedSimpArgs false
set_option linter.unusedSectionVars false
namespace Go.VC
open Go Go.Proofs
set_option maxRecDepth 100000
theorem y_r (a:OA)(b:Option (TypeId × Value))(w:World)(R:EW)(h:
 CP 66 #[P9 a,(ifcV b)] w (fun c d=>∃ e:Option (TypeId × Value),c=R9 (ifcV e)/\True/\R (R9 (ifcV e)) d)):CP 42 #[P9 a,(ifcV b)] w R:=
 vcq Tryz.func42 [] [] [.l (.optr a),.l (.ifc b)] h
theorem y_s (a:OA)(b:Option (TypeId × Value))(w:World)(R:EW)(h:
 ∀ c:OA->World->Prop,(∀ d:OA,∀ e:World,
 (CP 101 #[P9 d] e (fun f g=>∃ i,∃ j:Option (TypeId × Value),f=R9 (.tuple #[P9 i,(ifcV j)])/\True/\(Br (!j.isNone) (∃ k,j=some (169,(P9 k))/\∀ l:OA->Nat->Nat->World->Prop,(∀ (m:OA) (n o:Nat),∀ p:World,
 (∀ q,q=p.drew->Pt a fun r=>Ls q (r.add 4) fun s=>Pt a fun t=>Ls q (t.add 4) fun u=>True/\True/\(let v:=q.alloc (.cells #[T9 u] 178);
 ((v.cell? (r.add 4)=q.cell? (r.add 4))/\True)/\True/\True/\(let x:=v.alloc (.cells #[T9 s,S9 none 0 0,(ifcV (some (176,(P9 (some (adr q.heap.size)))))),S9 m n o] 175);
 True/\True/\R (R9 (ifcV (some (169,(P9 (some (adr v.heap.size))))))) x)))->
 l m n o p)->
 ∀ y:Bool->World->Prop,(∀ z:Bool,∀ A:World,
 ((Br z (Pt k fun B=>Ll A (B.add 3) fun C D E=>l C D E A) (True/\(let F:=A.alloc (.cells #[P9 k] 169);
 l (some (adr A.heap.size)) 1 1 F))))->
 y z A)->
 Pt k fun G=>Lo g (G.add 2) fun H=>((∀ I,H=some (170,I)->∃ K,I=(P9 K)/\y true g)/\((∀ J,H≠some (170,J))->y false g))) (R (.returned .nilIface) g))))->
 c d e)->
 ∀ L,L=w.drew->True/\((∃ M N O,∃ P,(Instr.makeSlice 24 (N9 0) (N9 8)).run Tryz.prog L=.ok (S9 M N O) P/\True/\True/\((True/\(let Q:=P.alloc (.cells #[P9 a,(T9 (⟨#[]⟩:BA)),N9 0,P9 none] 161);
 True/\((Cp 100 #[(ifcV b),P9 a,.bool false] Q (fun S U=>True/\True/\True/\True/\(let V:=U.alloc (.cells #[.nilIface,S9 none 0 0,P9 none,P9 none,P9 none,S9 none 0 0,.bool false] 166);
 True/\Off V (adr U.heap.size) 7 []/\True/\(let W:=(((((((V.setCell (adr U.heap.size) (ifcV b)).setCell ((adr U.heap.size).add 1) (S9 M N O)).setCell ((adr U.heap.size).add 2) (P9 a)).setCell ((adr U.heap.size).add 3) (P9 (some (adr P.heap.size)))).setCell ((adr U.heap.size).add 4) (P9 S)).setCell ((adr U.heap.size).add 5) (S9 none 0 0)).setCell ((adr U.heap.size).add 6) (.bool false));
 True/\c (some (adr U.heap.size)) W))))/\
 (True/\(let X:=Q.alloc (.cells #[.nilIface,S9 none 0 0,P9 none,P9 none,P9 none,S9 none 0 0,.bool false] 166);
 True/\Cp 100 #[(ifcV b),P9 a,.bool false] X (fun Y Z=>True/\True/\True/\Off Z (adr Q.heap.size) 7 []/\True/\(let aa:=(((((((Z.setCell (adr Q.heap.size) (ifcV b)).setCell ((adr Q.heap.size).add 1) (S9 M N O)).setCell ((adr Q.heap.size).add 2) (P9 a)).setCell ((adr Q.heap.size).add 3) (P9 (some (adr P.heap.size)))).setCell ((adr Q.heap.size).add 4) (P9 Y)).setCell ((adr Q.heap.size).add 5) (S9 none 0 0)).setCell ((adr Q.heap.size).add 6) (.bool false));
 True/\c (some (adr Q.heap.size)) aa)))))))/\
 (Cp 100 #[(ifcV b),P9 a,.bool false] P (fun ab ac=>True/\True/\((True/\(let ad:=ac.alloc (.cells #[P9 a,(T9 (⟨#[]⟩:BA)),N9 0,P9 none] 161);
 True/\True/\True/\(let ae:=ad.alloc (.cells #[.nilIface,S9 none 0 0,P9 none,P9 none,P9 none,S9 none 0 0,.bool false] 166);
 True/\Off ae (adr ad.heap.size) 7 []/\True/\(let af:=(((((((ae.setCell (adr ad.heap.size) (ifcV b)).setCell ((adr ad.heap.size).add 1) (S9 M N O)).setCell ((adr ad.heap.size).add 2) (P9 a)).setCell ((adr ad.heap.size).add 3) (P9 (some (adr ac.heap.size)))).setCell ((adr ad.heap.size).add 4) (P9 ab)).setCell ((adr ad.heap.size).add 5) (S9 none 0 0)).setCell ((adr ad.heap.size).add 6) (.bool false));
 True/\c (some (adr ad.heap.size)) af))))/\
 (True/\(let ag:=ac.alloc (.cells #[.nilIface,S9 none 0 0,P9 none,P9 none,P9 none,S9 none 0 0,.bool false] 166);
 True/\True/\(let ah:=ag.alloc (.cells #[P9 a,(T9 (⟨#[]⟩:BA)),N9 0,P9 none] 161);
 True/\True/\Off ah (adr ac.heap.size) 7 []/\True/\(let ai:=(((((((ah.setCell (adr ac.heap.size) (ifcV b)).setCell ((adr ac.heap.size).add 1) (S9 M N O)).setCell ((adr ac.heap.size).add 2) (P9 a)).setCell ((adr ac.heap.size).add 3) (P9 (some (adr ag.heap.size)))).setCell ((adr ac.heap.size).add 4) (P9 ab)).setCell ((adr ac.heap.size).add 5) (S9 none 0 0)).setCell ((adr ac.heap.size).add 6) (.bool false));
 True/\c (some (adr ac.heap.size)) ai)))))))/\
 (True/\(let aj:=P.alloc (.cells #[.nilIface,S9 none 0 0,P9 none,P9 none,P9 none,S9 none 0 0,.bool false] 166);
 True/\((True/\(let ak:=aj.alloc (.cells #[P9 a,(T9 (⟨#[]⟩:BA)),N9 0,P9 none] 161);
 True/\Cp 100 #[(ifcV b),P9 a,.bool false] ak (fun al am=>True/\True/\True/\Off am (adr P.heap.size) 7 []/\True/\(let an:=(((((((am.setCell (adr P.heap.size) (ifcV b)).setCell ((adr P.heap.size).add 1) (S9 M N O)).setCell ((adr P.heap.size).add 2) (P9 a)).setCell ((adr P.heap.size).add 3) (P9 (some (adr aj.heap.size)))).setCell ((adr P.heap.size).add 4) (P9 al)).setCell ((adr P.heap.size).add 5) (S9 none 0 0)).setCell ((adr P.heap.size).add 6) (.bool false));
 True/\c (some (adr P.heap.size)) an))))/\
 (Cp 100 #[(ifcV b),P9 a,.bool false] aj (fun ao ap=>True/\True/\True/\(let aq:=ap.alloc (.cells #[P9 a,(T9 (⟨#[]⟩:BA)),N9 0,P9 none] 161);
 True/\True/\Off aq (adr P.heap.size) 7 []/\True/\(let ar:=(((((((aq.setCell (adr P.heap.size) (ifcV b)).setCell ((adr P.heap.size).add 1) (S9 M N O)).setCell ((adr P.heap.size).add 2) (P9 a)).setCell ((adr P.heap.size).add 3) (P9 (some (adr ap.heap.size)))).setCell ((adr P.heap.size).add 4) (P9 ao)).setCell ((adr P.heap.size).add 5) (S9 none 0 0)).setCell ((adr P.heap.size).add 6) (.bool false));
 True/\c (some (adr P.heap.size)) ar)))))))))/\
 (True/\(let au:=L.alloc (.cells #[P9 a,(T9 (⟨#[]⟩:BA)),N9 0,P9 none] 161);
 True/\((∃ av ax ay,∃ az,(Instr.makeSlice 24 (N9 0) (N9 8)).run Tryz.prog au=.ok (S9 av ax ay) az/\True/\True/\((Cp 100 #[(ifcV b),P9 a,.bool false] az (fun aA aB=>True/\True/\True/\True/\(let aC:=aB.alloc (.cells #[.nilIface,S9 none 0 0,P9 none,P9 none,P9 none,S9 none 0 0,.bool false] 166);
 True/\Off aC (adr aB.heap.size) 7 []/\True/\(let aD:=(((((((aC.setCell (adr aB.heap.size) (ifcV b)).setCell ((adr aB.heap.size).add 1) (S9 av ax ay)).setCell ((adr aB.heap.size).add 2) (P9 a)).setCell ((adr aB.heap.size).add 3) (P9 (some (adr L.heap.size)))).setCell ((adr aB.heap.size).add 4) (P9 aA)).setCell ((adr aB.heap.size).add 5) (S9 none 0 0)).setCell ((adr aB.heap.size).add 6) (.bool false));
 True/\c (some (adr aB.heap.size)) aD))))/\
 (True/\(let aE:=az.alloc (.cells #[.nilIface,S9 none 0 0,P9 none,P9 none,P9 none,S9 none 0 0,.bool false] 166);
 True/\Cp 100 #[(ifcV b),P9 a,.bool false] aE (fun aF aG=>True/\True/\True/\Off aG (adr az.heap.size) 7 []/\True/\(let aH:=(((((((aG.setCell (adr az.heap.size) (ifcV b)).setCell ((adr az.heap.size).add 1) (S9 av ax ay)).setCell ((adr az.heap.size).add 2) (P9 a)).setCell ((adr az.heap.size).add 3) (P9 (some (adr L.heap.size)))).setCell ((adr az.heap.size).add 4) (P9 aF)).setCell ((adr az.heap.size).add 5) (S9 none 0 0)).setCell ((adr az.heap.size).add 6) (.bool false));
 True/\c (some (adr az.heap.size)) aH))))))/\
 (Cp 100 #[(ifcV b),P9 a,.bool false] au (fun aI aJ=>True/\True/\((∃ aK aL aM,∃ aN,(Instr.makeSlice 24 (N9 0) (N9 8)).run Tryz.prog aJ=.ok (S9 aK aL aM) aN/\True/\True/\True/\True/\(let aO:=aN.alloc (.cells #[.nilIface,S9 none 0 0,P9 none,P9 none,P9 none,S9 none 0 0,.bool false] 166);
 True/\Off aO (adr aN.heap.size) 7 []/\True/\(let aP:=(((((((aO.setCell (adr aN.heap.size) (ifcV b)).setCell ((adr aN.heap.size).add 1) (S9 aK aL aM)).setCell ((adr aN.heap.size).add 2) (P9 a)).setCell ((adr aN.heap.size).add 3) (P9 (some (adr L.heap.size)))).setCell ((adr aN.heap.size).add 4) (P9 aI)).setCell ((adr aN.heap.size).add 5) (S9 none 0 0)).setCell ((adr aN.heap.size).add 6) (.bool false));
 True/\c (some (adr aN.heap.size)) aP)))/\
 (True/\(let aQ:=aJ.alloc (.cells #[.nilIface,S9 none 0 0,P9 none,P9 none,P9 none,S9 none 0 0,.bool false] 166);
 True/\∃ aS aU aV,∃ aW,(Instr.makeSlice 24 (N9 0) (N9 8)).run Tryz.prog aQ=.ok (S9 aS aU aV) aW/\True/\True/\True/\Off aW (adr aJ.heap.size) 7 []/\True/\(let aX:=(((((((aW.setCell (adr aJ.heap.size) (ifcV b)).setCell ((adr aJ.heap.size).add 1) (S9 aS aU aV)).setCell ((adr aJ.heap.size).add 2) (P9 a)).setCell ((adr aJ.heap.size).add 3) (P9 (some (adr L.heap.size)))).setCell ((adr aJ.heap.size).add 4) (P9 aI)).setCell ((adr aJ.heap.size).add 5) (S9 none 0 0)).setCell ((adr aJ.heap.size).add 6) (.bool false));
 True/\c (some (adr aJ.heap.size)) aX))))))/\
 (True/\(let aY:=au.alloc (.cells #[.nilIface,S9 none 0 0,P9 none,P9 none,P9 none,S9 none 0 0,.bool false] 166);
 True/\((∃ aZ ba bb,∃ bc,(Instr.makeSlice 24 (N9 0) (N9 8)).run Tryz.prog aY=.ok (S9 aZ ba bb) bc/\True/\True/\Cp 100 #[(ifcV b),P9 a,.bool false] bc (fun bd be=>True/\True/\True/\Off be (adr au.heap.size) 7 []/\True/\(let bf:=(((((((be.setCell (adr au.heap.size) (ifcV b)).setCell ((adr au.heap.size).add 1) (S9 aZ ba bb)).setCell ((adr au.heap.size).add 2) (P9 a)).setCell ((adr au.heap.size).add 3) (P9 (some (adr L.heap.size)))).setCell ((adr au.heap.size).add 4) (P9 bd)).setCell ((adr au.heap.size).add 5) (S9 none 0 0)).setCell ((adr au.heap.size).add 6) (.bool false));
 True/\c (some (adr au.heap.size)) bf)))/\
 (Cp 100 #[(ifcV b),P9 a,.bool false] aY (fun bg bh=>True/\True/\∃ bi bj bk,∃ bl,(Instr.makeSlice 24 (N9 0) (N9 8)).run Tryz.prog bh=.ok (S9 bi bj bk) bl/\True/\True/\True/\Off bl (adr au.heap.size) 7 []/\True/\(let bm:=(((((((bl.setCell (adr au.heap.size) (ifcV b)).setCell ((adr au.heap.size).add 1) (S9 bi bj bk)).setCell ((adr au.heap.size).add 2) (P9 a)).setCell ((adr au.heap.size).add 3) (P9 (some (adr L.heap.size)))).setCell ((adr au.heap.size).add 4) (P9 bg)).setCell ((adr au.heap.size).add 5) (S9 none 0 0)).setCell ((adr au.heap.size).add 6) (.bool false));
 True/\c (some (adr au.heap.size)) bm)))))))))/\
 (Cp 100 #[(ifcV b),P9 a,.bool false] L (fun bn bo=>True/\True/\((∃ bp bq br,∃ bs,(Instr.makeSlice 24 (N9 0) (N9 8)).run Tryz.prog bo=.ok (S9 bp bq br) bs/\True/\True/\((True/\(let bt:=bs.alloc (.cells #[P9 a,(T9 (⟨#[]⟩:BA)),N9 0,P9 none] 161);
 True/\True/\True/\(let bu:=bt.alloc (.cells #[.nilIface,S9 none 0 0,P9 none,P9 none,P9 none,S9 none 0 0,.bool false] 166);
 True/\Off bu (adr bt.heap.size) 7 []/\True/\(let bv:=(((((((bu.setCell (adr bt.heap.size) (ifcV b)).setCell ((adr bt.heap.size).add 1) (S9 bp bq br)).setCell ((adr bt.heap.size).add 2) (P9 a)).setCell ((adr bt.heap.size).add 3) (P9 (some (adr bs.heap.size)))).setCell ((adr bt.heap.size).add 4) (P9 bn)).setCell ((adr bt.heap.size).add 5) (S9 none 0 0)).setCell ((adr bt.heap.size).add 6) (.bool false));
 True/\c (some (adr bt.heap.size)) bv))))/\
 (True/\(let bx:=bs.alloc (.cells #[.nilIface,S9 none 0 0,P9 none,P9 none,P9 none,S9 none 0 0,.bool false] 166);
 True/\True/\(let bz:=bx.alloc (.cells #[P9 a,(T9 (⟨#[]⟩:BA)),N9 0,P9 none] 161);
 True/\True/\Off bz (adr bs.heap.size) 7 []/\True/\(let bA:=(((((((bz.setCell (adr bs.heap.size) (ifcV b)).setCell ((adr bs.heap.size).add 1) (S9 bp bq br)).setCell ((adr bs.heap.size).add 2) (P9 a)).setCell ((adr bs.heap.size).add 3) (P9 (some (adr bx.heap.size)))).setCell ((adr bs.heap.size).add 4) (P9 bn)).setCell ((adr bs.heap.size).add 5) (S9 none 0 0)).setCell ((adr bs.heap.size).add 6) (.bool false));
 True/\c (some (adr bs.heap.size)) bA))))))/\
 (True/\(let bB:=bo.alloc (.cells #[P9 a,(T9 (⟨#[]⟩:BA)),N9 0,P9 none] 161);
 True/\((∃ bC bD bE,∃ bF,(Instr.makeSlice 24 (N9 0) (N9 8)).run Tryz.prog bB=.ok (S9 bC bD bE) bF/\True/\True/\True/\True/\(let bG:=bF.alloc (.cells #[.nilIface,S9 none 0 0,P9 none,P9 none,P9 none,S9 none 0 0,.bool false] 166);
 True/\Off bG (adr bF.heap.size) 7 []/\True/\(let bH:=(((((((bG.setCell (adr bF.heap.size) (ifcV b)).setCell ((adr bF.heap.size).add 1) (S9 bC bD bE)).setCell ((adr bF.heap.size).add 2) (P9 a)).setCell ((adr bF.heap.size).add 3) (P9 (some (adr bo.heap.size)))).setCell ((adr bF.heap.size).add 4) (P9 bn)).setCell ((adr bF.heap.size).add 5) (S9 none 0 0)).setCell ((adr bF.heap.size).add 6) (.bool false));
 True/\c (some (adr bF.heap.size)) bH)))/\
 (True/\(let bI:=bB.alloc (.cells #[.nilIface,S9 none 0 0,P9 none,P9 none,P9 none,S9 none 0 0,.bool false] 166);
 True/\∃ bJ bK bL,∃ bM,(Instr.makeSlice 24 (N9 0) (N9 8)).run Tryz.prog bI=.ok (S9 bJ bK bL) bM/\True/\True/\True/\Off bM (adr bB.heap.size) 7 []/\True/\(let bN:=(((((((bM.setCell (adr bB.heap.size) (ifcV b)).setCell ((adr bB.heap.size).add 1) (S9 bJ bK bL)).setCell ((adr bB.heap.size).add 2) (P9 a)).setCell ((adr bB.heap.size).add 3) (P9 (some (adr bo.heap.size)))).setCell ((adr bB.heap.size).add 4) (P9 bn)).setCell ((adr bB.heap.size).add 5) (S9 none 0 0)).setCell ((adr bB.heap.size).add 6) (.bool false));
 True/\c (some (adr bB.heap.size)) bN))))))/\
 (True/\(let bO:=bo.alloc (.cells #[.nilIface,S9 none 0 0,P9 none,P9 none,P9 none,S9 none 0 0,.bool false] 166);
 True/\((∃ bP bQ bS,∃ bU,(Instr.makeSlice 24 (N9 0) (N9 8)).run Tryz.prog bO=.ok (S9 bP bQ bS) bU/\True/\True/\True/\(let bV:=bU.alloc (.cells #[P9 a,(T9 (⟨#[]⟩:BA)),N9 0,P9 none] 161);
 True/\True/\Off bV (adr bo.heap.size) 7 []/\True/\(let bW:=(((((((bV.setCell (adr bo.heap.size) (ifcV b)).setCell ((adr bo.heap.size).add 1) (S9 bP bQ bS)).setCell ((adr bo.heap.size).add 2) (P9 a)).setCell ((adr bo.heap.size).add 3) (P9 (some (adr bU.heap.size)))).setCell ((adr bo.heap.size).add 4) (P9 bn)).setCell ((adr bo.heap.size).add 5) (S9 none 0 0)).setCell ((adr bo.heap.size).add 6) (.bool false));
 True/\c (some (adr bo.heap.size)) bW)))/\
 (True/\(let bX:=bO.alloc (.cells #[P9 a,(T9 (⟨#[]⟩:BA)),N9 0,P9 none] 161);
 True/\∃ bY bZ ca,∃ cb,(Instr.makeSlice 24 (N9 0) (N9 8)).run Tryz.prog bX=.ok (S9 bY bZ ca) cb/\True/\True/\True/\Off cb (adr bo.heap.size) 7 []/\True/\(let cc:=(((((((cb.setCell (adr bo.heap.size) (ifcV b)).setCell ((adr bo.heap.size).add 1) (S9 bY bZ ca)).setCell ((adr bo.heap.size).add 2) (P9 a)).setCell ((adr bo.heap.size).add 3) (P9 (some (adr bO.heap.size)))).setCell ((adr bo.heap.size).add 4) (P9 bn)).setCell ((adr bo.heap.size).add 5) (S9 none 0 0)).setCell ((adr bo.heap.size).add 6) (.bool false));
 True/\c (some (adr bo.heap.size)) cc)))))))))/\
 (True/\(let cd:=L.alloc (.cells #[.nilIface,S9 none 0 0,P9 none,P9 none,P9 none,S9 none 0 0,.bool false] 166);
 True/\((∃ ce cf cg,∃ ch,(Instr.makeSlice 24 (N9 0) (N9 8)).run Tryz.prog cd=.ok (S9 ce cf cg) ch/\True/\True/\((True/\(let ci:=ch.alloc (.cells #[P9 a,(T9 (⟨#[]⟩:BA)),N9 0,P9 none] 161);
 True/\Cp 100 #[(ifcV b),P9 a,.bool false] ci (fun cj ck=>True/\True/\True/\Off ck (adr L.heap.size) 7 []/\True/\(let cl:=(((((((ck.setCell (adr L.heap.size) (ifcV b)).setCell ((adr L.heap.size).add 1) (S9 ce cf cg)).setCell ((adr L.heap.size).add 2) (P9 a)).setCell ((adr L.heap.size).add 3) (P9 (some (adr ch.heap.size)))).setCell ((adr L.heap.size).add 4) (P9 cj)).setCell ((adr L.heap.size).add 5) (S9 none 0 0)).setCell ((adr L.heap.size).add 6) (.bool false));
 True/\c (some (adr L.heap.size)) cl))))/\
 (Cp 100 #[(ifcV b),P9 a,.bool false] ch (fun cm cn=>True/\True/\True/\(let co:=cn.alloc (.cells #[P9 a,(T9 (⟨#[]⟩:BA)),N9 0,P9 none] 161);
 True/\True/\Off co (adr L.heap.size) 7 []/\True/\(let cp:=(((((((co.setCell (adr L.heap.size) (ifcV b)).setCell ((adr L.heap.size).add 1) (S9 ce cf cg)).setCell ((adr L.heap.size).add 2) (P9 a)).setCell ((adr L.heap.size).add 3) (P9 (some (adr cn.heap.size)))).setCell ((adr L.heap.size).add 4) (P9 cm)).setCell ((adr L.heap.size).add 5) (S9 none 0 0)).setCell ((adr L.heap.size).add 6) (.bool false));
 True/\c (some (adr L.heap.size)) cp))))))/\
 (True/\(let cq:=cd.alloc (.cells #[P9 a,(T9 (⟨#[]⟩:BA)),N9 0,P9 none] 161);
 True/\((∃ cr ct cu,∃ cv,(Instr.makeSlice 24 (N9 0) (N9 8)).run Tryz.prog cq=.ok (S9 cr ct cu) cv/\True/\True/\Cp 100 #[(ifcV b),P9 a,.bool false] cv (fun cx cy=>True/\True/\True/\Off cy (adr L.heap.size) 7 []/\True/\(let cz:=(((((((cy.setCell (adr L.heap.size) (ifcV b)).setCell ((adr L.heap.size).add 1) (S9 cr ct cu)).setCell ((adr L.heap.size).add 2) (P9 a)).setCell ((adr L.heap.size).add 3) (P9 (some (adr cd.heap.size)))).setCell ((adr L.heap.size).add 4) (P9 cx)).setCell ((adr L.heap.size).add 5) (S9 none 0 0)).setCell ((adr L.heap.size).add 6) (.bool false));
 True/\c (some (adr L.heap.size)) cz)))/\
 (Cp 100 #[(ifcV b),P9 a,.bool false] cq (fun cA cB=>True/\True/\∃ cC cD cE,∃ cF,(Instr.makeSlice 24 (N9 0) (N9 8)).run Tryz.prog cB=.ok (S9 cC cD cE) cF/\True/\True/\True/\Off cF (adr L.heap.size) 7 []/\True/\(let cG:=(((((((cF.setCell (adr L.heap.size) (ifcV b)).setCell ((adr L.heap.size).add 1) (S9 cC cD cE)).setCell ((adr L.heap.size).add 2) (P9 a)).setCell ((adr L.heap.size).add 3) (P9 (some (adr cd.heap.size)))).setCell ((adr L.heap.size).add 4) (P9 cA)).setCell ((adr L.heap.size).add 5) (S9 none 0 0)).setCell ((adr L.heap.size).add 6) (.bool false));
 True/\c (some (adr L.heap.size)) cG))))))/\
 (Cp 100 #[(ifcV b),P9 a,.bool false] cd (fun cH cI=>True/\True/\((∃ cJ cK cL,∃ cM,(Instr.makeSlice 24 (N9 0) (N9 8)).run Tryz.prog cI=.ok (S9 cJ cK cL) cM/\True/\True/\True/\(let cN:=cM.alloc (.cells #[P9 a,(T9 (⟨#[]⟩:BA)),N9 0,P9 none] 161);
 True/\True/\Off cN (adr L.heap.size) 7 []/\True/\(let cO:=(((((((cN.setCell (adr L.heap.size) (ifcV b)).setCell ((adr L.heap.size).add 1) (S9 cJ cK cL)).setCell ((adr L.heap.size).add 2) (P9 a)).setCell ((adr L.heap.size).add 3) (P9 (some (adr cM.heap.size)))).setCell ((adr L.heap.size).add 4) (P9 cH)).setCell ((adr L.heap.size).add 5) (S9 none 0 0)).setCell ((adr L.heap.size).add 6) (.bool false));
 True/\c (some (adr L.heap.size)) cO)))/\
 (True/\(let cP:=cI.alloc (.cells #[P9 a,(T9 (⟨#[]⟩:BA)),N9 0,P9 none] 161);
 True/\∃ cQ cS cU,∃ cV,(Instr.makeSlice 24 (N9 0) (N9 8)).run Tryz.prog cP=.ok (S9 cQ cS cU) cV/\True/\True/\True/\Off cV (adr L.heap.size) 7 []/\True/\(let cW:=(((((((cV.setCell (adr L.heap.size) (ifcV b)).setCell ((adr L.heap.size).add 1) (S9 cQ cS cU)).setCell ((adr L.heap.size).add 2) (P9 a)).setCell ((adr L.heap.size).add 3) (P9 (some (adr cI.heap.size)))).setCell ((adr L.heap.size).add 4) (P9 cH)).setCell ((adr L.heap.size).add 5) (S9 none 0 0)).setCell ((adr L.heap.size).add 6) (.bool false));
 True/\c (some (adr L.heap.size)) cW))))))))))):CP 66 #[P9 a,(ifcV b)] w R:=
 vcq Tryz.func66 [] [(2,⟨[(5,.ptr)],[]⟩),(14,⟨[(9,.slice)],[]⟩),(15,⟨[(11,.bool)],[]⟩)] [.l (.optr a),.l (.ifc b)] h
theorem x_m (a:OA)(w:World)(R:EW)(h:
 Pt a fun b=>Lp w (b.add 2) fun c=>Pt a fun d=>Lo w d fun e=>Pt c fun f=>Lp w (f.add 5) fun g=>(Br (!g.isNone) (Pt c fun i=>Lp w (i.add 5) fun j=>Pt j fun k=>Lb w k fun l=>(Br l (Pt a fun m=>Lp w (m.add 4) fun n=>R (R9 (.tuple #[P9 n,.nilIface])) w) (True/\True/\(let o:=w.alloc (.cells #[] 203);
 Cp 118 #[P9 a,(ifcV (some (202,(P9 (some (adr w.heap.size))))))] o (fun p q=>True/\R (R9 (.tuple #[P9 none,(ifcV (some (169,(P9 p))))])) q))))) (Pt a fun r=>Lp w (r.add 3) fun s=>Cp 119 #[P9 s] w (fun t u=>True/\(Br (!t.isNone) (∀ v,v=u.drew->Pt c fun x=>Ls v (x.add 4) fun y=>Pt a fun z=>Lp v (z.add 3) fun A=>Cs 120 #[P9 A] v (fun B C=>True/\((C.cell? (x.add 4)=v.cell? (x.add 4))/\True)/\Cs 120 #[P9 t] C (fun D E=>True/\((E.cell? (x.add 4)=C.cell? (x.add 4))/\True)/\True/\True/\(let F:=E.alloc (.cells #[T9 y,T9 B,T9 D] 208);
 True/\Cp 118 #[P9 a,(ifcV (some (205,(P9 (some (adr E.heap.size))))))] F (fun G H=>True/\True/\True/\True/\R (R9 (.tuple #[P9 none,(ifcV (some (169,(P9 G))))])) H))))) (Ci 121 #[(ifcV e)] u (fun I J=>True/\(Br (I==0) (True/\True/\(let K:=J.alloc (.cells #[(ifcV e)] 212);
 Cp 118 #[P9 a,(ifcV (some (210,(P9 (some (adr J.heap.size))))))] K (fun L M=>True/\R (R9 (.tuple #[P9 none,(ifcV (some (169,(P9 L))))])) M))) (∀ N:World->Prop,(∀ O:World,
 (∀ P:World->Prop,(∀ Q:World,
 (∀ S:World->Prop,(∀ U:World,
 (∀ V:World->Prop,(∀ W:World,
 (∀ X:World->Prop,(∀ Y:World,
 (∀ Z:World->Prop,(∀ aa:World,
 (∀ ab:World->Prop,(∀ ac:World,
 (Pt a fun ad=>Ll ac (ad.add 5) fun ae af ag=>(Br ((af:Int)==0) (Pt a fun ah=>Lp ac (ah.add 4) fun ai=>R (R9 (.tuple #[P9 ai,.nilIface])) ac) ((Br ((af:Int)==1) (∀ aj,aj=ac.drew->Pt a fun ak=>Ll aj (ak.add 5) fun al am an=>Ix al 0 am fun ao=>Lp aj (ao.add ((0:Int).toNat*1)) fun ap=>((aj.cell? (ao.add ((0:Int).toNat*1))=aj.cell? (ao.add ((0:Int).toNat*1)))/\(aj.cell? (ak.add 5)=aj.cell? (ak.add 5))/\True)/\True/\R (R9 (.tuple #[P9 none,(ifcV (some (169,(P9 ap))))])) aj) (True/\True/\(let aq:=ac.alloc (.cells #[] 235);
 Cp 118 #[P9 a,(ifcV (some (170,(P9 (some (adr ac.heap.size))))))] aq (fun ar au=>True/\Pt a fun av=>Ll au (av.add 5) fun ax ay az=>Pt ar fun aA=>Off au (aA.add 3) 1 []/\True/\(let aB:=(au.setCell (aA.add 3) (S9 ax ay az));
 R (R9 (.tuple #[P9 none,(ifcV (some (169,(P9 ar))))])) aB))))))))->
 ab ac)->
 ∀ aC:Bool->World->Prop,(∀ aD:Bool,∀ aE:World,
 ((Br aD (C0 132 #[P9 a] aE (fun aF=>True/\Pt c fun aG=>Li aF (aG.add 3) fun aH=>(Br (decide (aH>=2019)) (C0 133 #[P9 a] aF (fun aI=>True/\ab aI)) (ab aF)))) (ab aE)))->
 aC aD aE)->
 Pt a fun aJ=>Ll aa (aJ.add 5) fun aK aL aM=>(Nr ((aL:Int)==0) (Pt a fun aN=>Lb aa (aN.add 6) fun aO=>aC (!aO) aa) (aC true aa)))->
 Z aa)->
 ∀ aP:Bool->Option Nat->World->Prop,(∀ aQ:Bool,∀ aS:Option Nat,∀ aU:World,
 ((Br aQ (C0 129 #[P9 a,.map aS] aU (fun aV=>True/\Z aV)) (∀ aW:Bool->OA->Nat->Nat->World->Prop,(∀ aX:Bool,∀ (aY:OA) (aZ ba:Nat),∀ bb:World,
 ((Br aX (C0 130 #[P9 a,S9 aY aZ ba] bb (fun bc=>True/\Z bc)) (∀ bd:Bool->BA->World->Prop,(∀ be:Bool,∀ bf:BA,∀ bg:World,
 ((Br be (C0 131 #[P9 a,T9 bf] bg (fun bh=>True/\Z bh)) (Z bg)))->
 bd be bf bg)->
 ((∀ bi,e=some (9,bi)->∃ bk,bi=(T9 bk)/\bd true bk bb)/\((∀ bj,e≠some (9,bj))->bd false (⟨#[]⟩:BA) bb)))))->
 aW aX aY aZ ba bb)->
 ((∀ bl,e=some (114,bl)->∃ bn bo bp,bl=(S9 bn bo bp)/\aW true bn bo bp aU)/\((∀ bm,e≠some (114,bm))->aW false none 0 0 aU)))))->
 aP aQ aS aU)->
 ((∀ bq,e=some (110,bq)->∃ bs:Option Nat,bq=(.map bs)/\aP true bs Y)/\((∀ br,e≠some (110,br))->aP false none Y)))->
 X Y)->
 Pt c fun bt=>Lp W (bt.add 7) fun bu=>(Br (!bu.isNone) (Pt c fun bv=>Lp W (bv.add 7) fun bx=>CP 127 #[P9 a,P9 bx,(T9 (⟨#[36,114,101,102]⟩:BA))] W (fun bz bA=>∃ bB:Option (TypeId × Value),bz=R9 (ifcV bB)/\True/\Pt c fun bC=>Li bA (bC.add 3) fun bD=>(Br (decide (bD<2019)) (Pt a fun bE=>Lp bA (bE.add 4) fun bF=>R (R9 (.tuple #[P9 bF,(ifcV bB)])) bA) ((Br (!bB.isNone) (C0 128 #[P9 a,(ifcV bB)] bA (fun bG=>True/\X bG)) (X bA)))))) (X W)))->
 V W)->
 Pt c fun bH=>Lp U (bH.add 19) fun bI=>(Br (!bI.isNone) (Pt c fun bJ=>Lp U (bJ.add 19) fun bK=>Pt bK fun bL=>Lv U (bL.add 1) fun bM=>∃ bN bO,bM=.func (.func bN) #[] bO.toArray/\∃ bP,Tryz.prog.funcs[bN]? =some bP/\(bP.name== "runtime.NumGoroutine" ||bP.body.isNone)=false/\CP bN ([(ifcV e)]++bO).toArray U (fun bQ bS=>∃ bU:Option (TypeId × Value),bQ=R9 (ifcV bU)/\True/\(Br (!bU.isNone) (Pt c fun bV=>Lp bS (bV.add 19) fun bW=>Pt bW fun bX=>Ls bS bX fun bY=>True/\True/\(let bZ:=bS.alloc (.cells #[(ifcV e),T9 bY,(ifcV bU)] 230);
 Cp 118 #[P9 a,(ifcV (some (228,(P9 (some (adr bS.heap.size))))))] bZ (fun ca cb=>True/\R (R9 (.tuple #[P9 none,(ifcV (some (169,(P9 ca))))])) cb))) (V bS)))) (V U)))->
 S U)->
 Pt c fun cc=>Lp Q (cc.add 10) fun cd=>(Br (!cd.isNone) (∀ ce,ce=Q.drew->Pt c fun cf=>Lp ce (cf.add 10) fun cg=>Pt cg fun ch=>Li ce (ch.add 1) fun ci=>Ci 121 #[(ifcV e)] ce (fun cj ck=>True/\((ck.cell? (ch.add 1)=ce.cell? (ch.add 1))/\(ck.cell? (cf.add 10)=ce.cell? (cf.add 10))/\True)/\Cb 123 #[N9 ci,N9 cj] ck (fun cl cm=>True/\True/\True/\∀ cn:Bool->World->Prop,(∀ co:Bool,∀ cp:World,
 ((Br (!co) (Pt c fun cq=>Lp cp (cq.add 10) fun cr=>Pt cr fun ct=>Ll cp ct fun cu cv cx=>True/\True/\(let cy:=cp.alloc (.cells #[(ifcV e),S9 cu cv cx] 227);
 Cp 118 #[P9 a,(ifcV (some (225,(P9 (some (adr cp.heap.size))))))] cy (fun cz cA=>True/\R (R9 (.tuple #[P9 none,(ifcV (some (169,(P9 cz))))])) cA))) (S cp)))->
 cn co cp)->
 (Br cl (Pt c fun cB=>Lp cm (cB.add 10) fun cC=>Pt cC fun cD=>Ll cm cD fun cE cF cG=>∃ (cH:Bool->Int->World->Prop) (cI:Bool->Int->World->Nat),cH false 0 cm/\
 (∀ cJ:Bool,∀ cK:Int,∀ cL:World,cH cJ cK cL->
 (Br (decide (cK<(cF:Int))) (Ix cE cK cF fun cM=>Lo cL (cM.add (cK.toNat*1)) fun cN=>CP 126 #[(ifcV e),(ifcV cN)] cL (fun cO cP=>∃ cQ,∃ cS:Option (TypeId × Value),cO=R9 (.tuple #[.bool cQ,(ifcV cS)])/\True/\(Br (!cS.isNone) (Cp 118 #[P9 a,(ifcV cS)] cP (fun cU cV=>True/\R (R9 (.tuple #[P9 none,(ifcV (some (169,(P9 cU))))])) cV)) ((Br cQ (cn true cP) ((cH cJ (wr (cK+1)) cP/\cI cJ (wr (cK+1)) cP<cI cJ cK cL))))))) (cn cJ cL)))) (cn cl cm))))) (S Q)))->
 P Q)->
 Pt c fun cW=>Lp O (cW.add 11) fun cX=>(Br (!cX.isNone) (Pt c fun cY=>Lp O (cY.add 11) fun cZ=>Pt cZ fun da=>Lo O da fun db=>CP 126 #[(ifcV e),(ifcV db)] O (fun dc dd=>∃ de,∃ df:Option (TypeId × Value),dc=R9 (.tuple #[.bool de,(ifcV df)])/\True/\(Br (!df.isNone) (Cp 118 #[P9 a,(ifcV df)] dd (fun dg dh=>True/\R (R9 (.tuple #[P9 none,(ifcV (some (169,(P9 dg))))])) dh)) ((Br (!de) (Pt c fun di=>Lp dd (di.add 11) fun dj=>Pt dj fun dk=>Lo dd dk fun dl=>True/\True/\(let dm:=dd.alloc (.cells #[(ifcV e),(ifcV dl)] 222);
 Cp 118 #[P9 a,(ifcV (some (220,(P9 (some (adr dd.heap.size))))))] dm (fun dn dp=>True/\R (R9 (.tuple #[P9 none,(ifcV (some (169,(P9 dn))))])) dp))) (P dd)))))) (P O)))->
 N O)->
 ∀ dq:Bool->World->Prop,(∀ dr:Bool,∀ ds:World,
 ((Br dr (Pt c fun dt=>Lp ds (dt.add 9) fun du=>Pt du fun dv=>Li ds dv fun dx=>Cb 123 #[N9 dx,N9 I] ds (fun dy dz=>True/\(Br (!dy) (∀ dA,dA=dz.drew->Pt c fun dB=>Lp dA (dB.add 9) fun dC=>Pt dC fun dD=>Li dA dD fun dE=>Cs 124 #[N9 I] dA (fun dF dG=>True/\((dG.cell? dD=dA.cell? dD)/\(dG.cell? (dB.add 9)=dA.cell? (dB.add 9))/\True)/\Cl 125 #[N9 dE] dG (fun dH dI dJ dK=>True/\True/\True/\True/\(let dL:=dK.alloc (.cells #[T9 dF,S9 dH dI dJ] 217);
 True/\Cp 118 #[P9 a,(ifcV (some (214,(P9 (some (adr dK.heap.size))))))] dL (fun dM dN=>True/\True/\True/\True/\R (R9 (.tuple #[P9 none,(ifcV (some (169,(P9 dM))))])) dN))))) (N dz)))) (N ds)))->
 dq dr ds)->
 Pt c fun dO=>Lp J (dO.add 9) fun dP=>(Br (!dP.isNone) (Pt c fun dQ=>Lp J (dQ.add 9) fun dS=>Pt dS fun dU=>Li J dU fun dV=>Cb 122 #[N9 dV] J (fun dW dX=>True/\dq (!dW) dX)) (dq false J))))))))))):CP 101 #[P9 a] w R:=
 vcq Tryz.func101 [] [(40,⟨[],[]⟩),(41,⟨[(100,.bool)],[]⟩),(54,⟨[],[]⟩),(74,⟨[],[]⟩),(80,⟨[(11,.bool)],[]⟩),(89,⟨[(11,.bool),(187,.int .i64)],[]⟩),(125,⟨[],[]⟩),(139,⟨[],[]⟩),(159,⟨[],[]⟩),(163,⟨[(280,.bool),(281,.map)],[]⟩),(169,⟨[(286,.bool),(287,.slice)],[]⟩),(175,⟨[(292,.bool),(293,.str)],[]⟩),(182,⟨[],[]⟩),(183,⟨[(309,.bool)],[]⟩)] [.l (.optr a)] h
theorem x_Q (a:OA)(b:OA)(c:BA)(w:World)(R:EW)(h:
 CP 151 #[P9 a,P9 b,T9 c,.bool false] w (fun d e=>∃ f:Option (TypeId × Value),d=R9 (ifcV f)/\True/\(Br (!f.isNone) (Pt b fun g=>Ls e (g.add 4) fun i=>True/\True/\(let j:=e.alloc (.cells #[T9 c,T9 i] 271);
 Cp 118 #[P9 a,(ifcV (some (269,(P9 (some (adr e.heap.size))))))] j (fun k l=>True/\∃ m,f=some (169,(P9 m))/\∀ n:World->Prop,(∀ o:World,
 (R (R9 (ifcV (some (169,(P9 k))))) o)->
 n o)->
 ∀ p:Bool->World->Prop,(∀ q:Bool,∀ r:World,
 ((Br q (Pt m fun s=>Ll r (s.add 3) fun t u v=>Pt k fun x=>Off r (x.add 3) 1 []/\True/\(let y:=(r.setCell (x.add 3) (S9 t u v));
 n y)) (Pt k fun z=>Ll r (z.add 3) fun A B C=>True/\(let D:=r.alloc (.cells #[P9 m] 169);
 ∃ E F G,∃ H,(Go.builtin .append #[164,164] 164 #[false,false] #[S9 A B C,(S9 (some (adr r.heap.size)) 1 1)]).run Tryz.prog D=.ok (.value (S9 E F G)) H/\True/\Pt k fun I=>Off H (I.add 3) 1 []/\True/\(let J:=(H.setCell (I.add 3) (S9 E F G));
 n J)))))->
 p q r)->
 Pt m fun K=>Lo l (K.add 2) fun L=>((∀ M,L=some (170,M)->∃ O,M=(P9 O)/\p true l)/\((∀ N,L≠some (170,N))->p false l))))) (R (.returned .nilIface) e)))):CP 127 #[P9 a,P9 b,T9 c] w R:=
 vcq Tryz.func127 [] [(12,⟨[],[]⟩),(13,⟨[(11,.bool)],[]⟩)] [.l (.optr a),.l (.optr b),.l (.str c)] h
theorem x_J (a:OA)(b:OA)(c:BA)(d:Bool)(w:World)(R:EW)(h:
 ∀ e,e=w.drew->Pt a fun f=>Lp e (f.add 3) fun g=>Pt a fun i=>Lp e (i.add 3) fun j=>Pt j fun k=>Li e (k.add 2) fun l=>Cp 173 #[P9 g,P9 b,T9 c,N9 l] e (fun m n=>True/\True/\True/\∀ o,o=n.drew->Pt a fun p=>Lo o p fun q=>Pt a fun r=>Lp o (r.add 4) fun s=>Cb 159 #[P9 s] o (fun t u=>True/\((u.cell? p=o.cell? p)/\True)/\Cp 100 #[(ifcV q),P9 b,(.bool (!t))] u (fun v x=>True/\True/\True/\∀ y:OA->World->Prop,(∀ z:OA,∀ A:World,
 (CP 101 #[P9 z] A (fun B C=>∃ D,∃ E:Option (TypeId × Value),B=R9 (.tuple #[P9 D,(ifcV E)])/\True/\∀ F:World->Prop,(∀ G:World,
 (R (R9 (ifcV E)) G)->
 F G)->
 (Br (E.isNone) (Pt a fun H=>Lp C (H.add 4) fun I=>C0 174 #[P9 I,P9 D] C (fun J=>True/\F J)) (F C))))->
 y z A)->
 ∀ K,K=x.drew->Pt a fun L=>Lo K L fun M=>Pt a fun N=>Ll K (N.add 1) fun O P Q=>Pt a fun S=>Lb K (S.add 6) fun U=>(Br U (True/\True/\(let V:=K.alloc (.cells #[.nilIface,S9 none 0 0,P9 none,P9 none,P9 none,S9 none 0 0,.bool false] 166);
 ((V.cell? (S.add 6)=K.cell? (S.add 6))/\(V.cell? (N.add 1)=K.cell? (N.add 1))/\(V.cell? L=K.cell? L)/\True)/\Off V (adr K.heap.size) 7 []/\True/\(let W:=(((((((V.setCell (adr K.heap.size) (ifcV M)).setCell ((adr K.heap.size).add 1) (S9 O P Q)).setCell ((adr K.heap.size).add 2) (P9 b)).setCell ((adr K.heap.size).add 3) (P9 m)).setCell ((adr K.heap.size).add 4) (P9 v)).setCell ((adr K.heap.size).add 5) (S9 none 0 0)).setCell ((adr K.heap.size).add 6) (.bool true));
 True/\y (some (adr K.heap.size)) W))) (True/\True/\(let X:=K.alloc (.cells #[.nilIface,S9 none 0 0,P9 none,P9 none,P9 none,S9 none 0 0,.bool false] 166);
 ((X.cell? (S.add 6)=K.cell? (S.add 6))/\(X.cell? (N.add 1)=K.cell? (N.add 1))/\(X.cell? L=K.cell? L)/\True)/\Off X (adr K.heap.size) 7 []/\True/\(let Y:=(((((((X.setCell (adr K.heap.size) (ifcV M)).setCell ((adr K.heap.size).add 1) (S9 O P Q)).setCell ((adr K.heap.size).add 2) (P9 b)).setCell ((adr K.heap.size).add 3) (P9 m)).setCell ((adr K.heap.size).add 4) (P9 v)).setCell ((adr K.heap.size).add 5) (S9 none 0 0)).setCell ((adr K.heap.size).add 6) (.bool d));
 True/\y (some (adr K.heap.size)) Y)))))))):CP 151 #[P9 a,P9 b,T9 c,.bool d] w R:=
 vcq Tryz.func151 [] [(6,⟨[(11,.ptr)],[]⟩),(10,⟨[],[]⟩)] [.l (.optr a),.l (.optr b),.l (.str c),.l (.bool d)] h
theorem x_R (a:OA)(b:OA)(c:Option (TypeId × Value))(d:BA)(w:World)(R:EW)(h:
 Pt a fun e=>Ll w (e.add 1) fun f g i=>True/\(let j:=w.alloc (.cells #[T9 d] 9);
 ∃ k l m,∃ n,(Go.builtin .append #[24,24] 24 #[false,false] #[S9 f g i,(S9 (some (adr w.heap.size)) 1 1)]).run Tryz.prog j=.ok (.value (S9 k l m)) n/\True/\∀ o,o=n.drew->Pt a fun p=>Lp o (p.add 3) fun q=>Pt a fun r=>Lp o (r.add 3) fun s=>Pt s fun t=>Li o (t.add 2) fun u=>Cp 173 #[P9 q,P9 b,(T9 (⟨#[]⟩:BA)),(N9 (wr (u+1)))] o (fun v x=>True/\True/\True/\Cp 100 #[(ifcV c),P9 b,.bool false] x (fun y z=>True/\Pt a fun A=>Lb z (A.add 6) fun B=>True/\True/\(let C:=z.alloc (.cells #[.nilIface,S9 none 0 0,P9 none,P9 none,P9 none,S9 none 0 0,.bool false] 166);
 Off C (adr z.heap.size) 7 []/\True/\(let D:=(((((((C.setCell (adr z.heap.size) (ifcV c)).setCell ((adr z.heap.size).add 1) (S9 k l m)).setCell ((adr z.heap.size).add 2) (P9 b)).setCell ((adr z.heap.size).add 3) (P9 v)).setCell ((adr z.heap.size).add 4) (P9 y)).setCell ((adr z.heap.size).add 5) (S9 none 0 0)).setCell ((adr z.heap.size).add 6) (.bool B));
 CP 101 #[(P9 (some (adr z.heap.size)))] D (fun E F=>∃ G,∃ H:Option (TypeId × Value),E=R9 (.tuple #[P9 G,(ifcV H)])/\True/\R (R9 (ifcV H)) F))))))):CP 154 #[P9 a,P9 b,(ifcV c),T9 d] w R:=
 vcq Tryz.func154 [] [] [.l (.optr a),.l (.optr b),.l (.ifc c),.l (.str d)] h
theorem x_v (a:OA)(b:Option (TypeId × Value))(w:World)(R:EW)(h:
 (Br (!b.isNone) (∀ c,c=w.drew->Pt a fun d=>Ll c (d.add 5) fun e f g=>∃ i,b=some (169,(P9 i))/\True/\(let j:=c.alloc (.cells #[P9 i] 169);
 ((j.cell? (d.add 5)=c.cell? (d.add 5))/\True)/\∃ k l m,∃ n,(Go.builtin .append #[164,164] 164 #[false,false] #[S9 e f g,(S9 (some (adr c.heap.size)) 1 1)]).run Tryz.prog j=.ok (.value (S9 k l m)) n/\True/\True/\Pt a fun o=>Off n (o.add 5) 1 []/\True/\(let p:=(n.setCell (o.add 5) (S9 k l m));
 True/\R (R9 (.tuple #[])) p))) (R (R9 (.tuple #[])) w))):CP 128 #[P9 a,(ifcV b)] w R:=
 vcq Tryz.func128 [] [] [.l (.optr a),.l (.ifc b)] h
theorem x_6 (a:OA)(b:Option (TypeId × Value))(w:World)(R:EW)(h:
 ∀ c,c=w.drew->Pt a fun d=>Ll c (d.add 5) fun e f g=>Cp 118 #[P9 a,(ifcV b)] c (fun i j=>True/\((j.cell? (d.add 5)=c.cell? (d.add 5))/\True)/\True/\(let k:=j.alloc (.cells #[P9 i] 169);
 ((k.cell? (d.add 5)=j.cell? (d.add 5))/\True)/\∃ l m n,∃ o,(Go.builtin .append #[164,164] 164 #[false,false] #[S9 e f g,(S9 (some (adr j.heap.size)) 1 1)]).run Tryz.prog k=.ok (.value (S9 l m n)) o/\True/\True/\Pt a fun p=>Off o (p.add 5) 1 []/\True/\(let q:=(o.setCell (p.add 5) (S9 l m n));
 True/\R (R9 (.tuple #[])) q)))):CP 152 #[P9 a,(ifcV b)] w R:=
 vcq Tryz.func152 [] [] [.l (.optr a),.l (.ifc b)] h
theorem x_X (a:OA)(b:OA)(c d:Nat)(e:Option (TypeId × Value))(w:World)(R:EW)(h:
 Cp 118 #[P9 a,(ifcV e)] w (fun f g=>True/\Pt f fun i=>Off g (i.add 3) 1 []/\True/\(let j:=(g.setCell (i.add 3) (S9 b c d));
 Pt a fun k=>Ll j (k.add 5) fun l m n=>True/\(let o:=j.alloc (.cells #[P9 f] 169);
 ∃ p q r,∃ s,(Go.builtin .append #[164,164] 164 #[false,false] #[S9 l m n,(S9 (some (adr j.heap.size)) 1 1)]).run Tryz.prog o=.ok (.value (S9 p q r)) s/\True/\Pt a fun t=>Off s (t.add 5) 1 []/\True/\(let u:=(s.setCell (t.add 5) (S9 p q r));
 R (R9 (.tuple #[])) u))))):CP 157 #[P9 a,S9 b c d,(ifcV e)] w R:=
 vcq Tryz.func157 [] [] [.l (.optr a),.l (.slice b c d),.l (.ifc e)] h
theorem y_v (a:OA)(b:Option (TypeId × Value))(w:World)(R:EW)(h:
 Pt a fun c=>Lb w (c.add 6) fun d=>(Br d (True/\True/\(let e:=w.alloc (.cells #[(T9 (⟨#[]⟩:BA)),S9 none 0 0,.nilIface,S9 none 0 0] 175);
 R (R9 (P9 (some (adr w.heap.size)))) e)) (∀ f,f=w.drew->Pt a fun g=>Lp f (g.add 2) fun i=>Pt i fun j=>Ls f (j.add 4) fun k=>Cl 147 #[P9 a] f (fun l m n o=>True/\((o.cell? (j.add 4)=f.cell? (j.add 4))/\(o.cell? (g.add 2)=f.cell? (g.add 2))/\True)/\True/\True/\(let p:=o.alloc (.cells #[T9 k,S9 l m n,(ifcV b),S9 none 0 0] 175);
 True/\True/\R (R9 (P9 (some (adr o.heap.size)))) p))))):CP 118 #[P9 a,(ifcV b)] w R:=
 vcq Tryz.func118 [] [] [.l (.optr a),.l (.ifc b)] h
theorem x_N (a:OA)(b:Option Nat)(c:OA)(d e:Nat)(w:World)(R:EW)(h:
 ∃ (f:OA->Nat->Nat->Int->World->Prop) (g:OA->Nat->Nat->Int->World->Nat),f none 0 0 0 w/\
 (∀ (i:OA) (j k:Nat),∀ l:Int,∀ m:World,f i j k l m->
 (Br (decide (l<(d:Int))) (∀ n:OA->Nat->Nat->World->Prop,(∀ (o:OA) (p q:Nat),∀ r:World,
 ((f o p q (wr (l+1)) r/\g o p q (wr (l+1)) r<g i j k l m))->
 n o p q r)->
 Ix c l d fun s=>Ls m (s.add (l.toNat*1)) fun t=>∃ u:Option (TypeId × Value),∃ v,(Instr.lookup 110 (.map b) (T9 t) true).run Tryz.prog m=.ok (.tuple #[(ifcV u),.bool v]) m/\(Br (!v) (Pt a fun x=>Lb m (x.add 6) fun y=>(Br y ((let z:=m.alloc (.cells #[] 9);
 R (R9 (S9 (some (adr m.heap.size)) 0 0)) z)) (True/\(let A:=m.alloc (.cells #[T9 t] 9);
 ∃ B C D,∃ E,(Go.builtin .append #[24,24] 24 #[false,false] #[S9 i j k,(S9 (some (adr m.heap.size)) 1 1)]).run Tryz.prog A=.ok (.value (S9 B C D)) E/\True/\n B C D E)))) (n i j k m))) (R (R9 (S9 i j k)) m)))):CP 153 #[P9 a,.map b,S9 c d e] w R:=
 vcq Tryz.func153 [] [(8,⟨[(7,.slice),(14,.int .i64)],[]⟩),(15,⟨[(7,.slice)],[]⟩)] [.l (.optr a),.l (.map b),.l (.slice c d e)] h
theorem x_q (a:OA)(w:World)(R:EW)(h:
 Pt a fun b=>Ll w (b.add 1) fun c d e=>Cl 170 #[S9 c d e] w (fun f g i j=>True/\R (R9 (S9 f g i)) j)):CP 147 #[P9 a] w R:=
 vcq Tryz.func147 [] [] [.l (.optr a)] h
theorem y_7 (a:OA)(b:OA)(c:BA)(d:Int)(w:World)(R:EW)(h:
 True/\True/\(let e:=w.alloc (.cells #[P9 b,T9 c,N9 d,P9 a] 161);
 R (R9 (P9 (some (adr w.heap.size)))) e)):CP 173 #[P9 a,P9 b,T9 c,N9 d] w R:=
 vcq Tryz.func173 [] [] [.l (.optr a),.l (.optr b),.l (.str c),.l (.int .i64 d)] h
theorem y_k (a:OA)(w:World)(R:EW)(h:
 Pt a fun b=>Lp w (b.add 3) fun c=>∀ d:World->Prop,(∀ e:World,
 (R (R9 (P9 none)) e)->
 d e)->
 ∃ (f:OA->World->Prop) (g:OA->World->Nat),f c w/\
 (∀ i:OA,∀ j:World,f i j->
 (Br (!i.isNone) (∀ k,k=j.drew->Pt i fun l=>Li k (l.add 2) fun m=>Pt a fun n=>Li k (n.add 2) fun o=>(Br (m !=o) (d k) (∀ p,p=k.drew->Pt i fun q=>Lp p q fun r=>Pt a fun s=>Lp p s fun t=>∃ u,(eqGuard .eql 72 (Operand.tmp 22) (Operand.tmp 26) (P9 r) (P9 t)).run Tryz.prog p=.ok () p/\(binOp .eql 72 (P9 r) (P9 t)).run Tryz.prog p=.ok (.bool u) p/\True/\(Br u (R (R9 (P9 i)) p) (Pt i fun v=>Lp p (v.add 3) fun x=>(f x p/\g x p<g i j)))))) (d j)))):CP 119 #[P9 a] w R:=
 vcq Tryz.func119 [] [(4,⟨[],[]⟩),(6,⟨[(3,.ptr)],[]⟩)] [.l (.optr a)] h
theorem z_F (a:Option (TypeId × Value))(b:OA)(c:Bool)(w:World)(R:EW)(h:
 True/\True/\(let d:=w.alloc (.cells #[.map none,.map none] 198);
 ∀ e:World->Prop,(∀ f:World,
 (R (R9 (P9 (some (adr w.heap.size)))) f)->
 e f)->
 ∀ g:Bool->Option Nat->World->Prop,(∀ i:Bool,∀ j:Option Nat,∀ k:World,
 ((Br i (∀ l:Bool->World->Prop,(∀ m:Bool,∀ n:World,
 ((Br m (let o:=n.alloc (.map #[] 0);
 Off o (adr w.heap.size) 1 []/\True/\(let p:=(o.setCell (adr w.heap.size) (.map (some n.heap.size)));
 ∃ q,∃ r,(Instr.range 110 (.map j)).run Tryz.prog p=.ok (P9 (some q)) r/\True/\∃ (s:World->Prop) (t:World->Nat),s r/\
 (∀ u:World,s u->
 ∀ v:Bool->World->Prop,(∀ x:Bool,∀ y:World,
 ((Br x (∃ (z A:Value),(Instr.entry (P9 (some q))).run Tryz.prog y=.ok (.tuple #[z,A]) y/\∃ B,z=(T9 B)/\Lm y (adr w.heap.size) fun C=>True/\∃ D,(Instr.mapUpdate 195 (.map C) (T9 B) (.agg #[])).run Tryz.prog y=.ok () D/\True/\(s D/\t D<t u)) (e y)))->
 v x y)->
 ((∃ E,(Instr.next (P9 (some q)) false 0).run Tryz.prog u=.ok (.tuple #[.bool false]) E/\True/\(v false E))∨(∃ (F G:Value) (H:World),(Instr.next (P9 (some q)) false 0).run Tryz.prog u=.ok (.tuple #[.bool true,F,G]) H/\True/\(v true H)))))) (e n)))->
 l m n)->
 Pt b fun I=>Lb k I fun J=>(Br (!J) ((Nr c (Pt b fun K=>Lp k (K.add 30) fun L=>l (!L.isNone) k) (l true k))) (l false k))) (∀ M:Bool->OA->Nat->Nat->World->Prop,(∀ N:Bool,∀ (O:OA) (P Q:Nat),∀ S:World,
 ((Br N (∀ U:Bool->World->Prop,(∀ V:Bool,∀ W:World,
 ((Br V (let X:=W.alloc (.map #[] 0);
 Off X ((adr w.heap.size).add 1) 1 []/\True/\(let Y:=(X.setCell ((adr w.heap.size).add 1) (.map (some W.heap.size)));
 Pt b fun Z=>Li Y (Z.add 2) fun aa=>∃ (ab:Int->World->Prop) (ac:Int->World->Nat),ab aa Y/\
 (∀ ad:Int,∀ ae:World,ab ad ae->
 (Br (decide (ad<(P:Int))) (Lm ae ((adr w.heap.size).add 1) fun af=>True/\∃ ag,(Instr.mapUpdate 196 (.map af) (N9 ad) (.agg #[])).run Tryz.prog ae=.ok () ag/\True/\(ab (wr (ad+1)) ag/\ac (wr (ad+1)) ag<ac ad ae)) (e ae))))) (e W)))->
 U V W)->
 Pt b fun ah=>Lb S (ah.add 1) fun ai=>(Br (!ai) ((Nr c (Pt b fun aj=>Lp S (aj.add 41) fun ak=>(Br (!ak.isNone) (Pt b fun al=>Li S (al.add 2) fun am=>U (decide (am<(P:Int))) S) (U false S))) (Pt b fun an=>Li S (an.add 2) fun ao=>U (decide (ao<(P:Int))) S))) (U false S))) (e S)))->
 M N O P Q S)->
 ((∀ ap,a=some (114,ap)->∃ ar au av,ap=(S9 ar au av)/\M true ar au av k)/\((∀ aq,a≠some (114,aq))->M false none 0 0 k)))))->
 g i j k)->
 ((∀ ax,a=some (110,ax)->∃ az:Option Nat,ax=(.map az)/\g true az d)/\((∀ ay,a≠some (110,ay))->g false none d)))):CP 100 #[(ifcV a),P9 b,.bool c] w R:=
 vcq Tryz.func100 [] [(4,⟨[],[]⟩),(8,⟨[(16,.bool),(17,.map)],[]⟩),(13,⟨[(32,.bool)],[]⟩),(21,⟨[],[]⟩),(22,⟨[(40,.bool)],[]⟩),(33,⟨[(50,.bool),(51,.slice)],[]⟩),(38,⟨[(75,.bool)],[]⟩),(46,⟨[(11,.int .i64)],[]⟩)] [.l (.ifc a),.l (.optr b),.l (.bool c)] h
theorem y_X (a:OA)(b:OA)(w:World)(R:EW)(h:
 Pt a fun c=>Lm w c fun d=>∃ e,∃ f,(Instr.range 195 (.map d)).run Tryz.prog w=.ok (P9 (some e)) f/\True/\∃ (g:World->Prop) (i:World->Nat),g f/\
 (∀ j:World,g j->
 ∀ k:Bool->World->Prop,(∀ l:Bool,∀ m:World,
 ((Br l (∃ (n o:Value),(Instr.entry (P9 (some e))).run Tryz.prog m=.ok (.tuple #[n,o]) m/\∃ p,n=(T9 p)/\Pt b fun q=>Lm m q fun r=>∃ s,(Instr.lookup 195 (.map r) (T9 p) true).run Tryz.prog m=.ok (.tuple #[.agg #[],.bool s]) m/\True/\True/\(let u:=m.alloc (.cells #[] 199);
 (Br (!s) (Pt a fun v=>Lm u v fun x=>∃ (y:Value) (z:World),(Go.builtin .delete #[195,9] 0 #[false,false] #[.map x,T9 p]).run Tryz.prog u=.ok (.value y) z/\(KeepT 199 u z/\True)/\(g z/\i z<i j)) ((g u/\i u<i j))))) (Pt a fun A=>Lm m (A.add 1) fun B=>∃ C,∃ D,(Instr.range 196 (.map B)).run Tryz.prog m=.ok (P9 (some C)) D/\True/\∃ (E:World->Prop) (F:World->Nat),E D/\
 (∀ G:World,E G->
 ∀ H:Bool->World->Prop,(∀ I:Bool,∀ J:World,
 ((Br I (∃ (K L:Value),(Instr.entry (P9 (some C))).run Tryz.prog J=.ok (.tuple #[K,L]) J/\∃ M,K=(N9 M)/\Pt b fun N=>Lm J (N.add 1) fun O=>∃ P,(Instr.lookup 196 (.map O) (N9 M) true).run Tryz.prog J=.ok (.tuple #[.agg #[],.bool P]) J/\True/\True/\(let S:=J.alloc (.cells #[] 199);
 (Br (!P) (Pt a fun U=>Lm S (U.add 1) fun V=>∃ (W:Value) (X:World),(Go.builtin .delete #[196,3] 0 #[false,false] #[.map V,N9 M]).run Tryz.prog S=.ok (.value W) X/\(KeepT 199 S X/\True)/\(E X/\F X<F G)) ((E S/\F S<F G))))) (R (R9 (.tuple #[])) J)))->
 H I J)->
 ((∃ Y,(Instr.next (P9 (some C)) false 0).run Tryz.prog G=.ok (.tuple #[.bool false]) Y/\True/\(H false Y))∨(∃ (Z aa:Value) (ab:World),(Instr.next (P9 (some C)) false 0).run Tryz.prog G=.ok (.tuple #[.bool true,Z,aa]) ab/\True/\(H true ab)))))))->
 k l m)->
 ((∃ ac,(Instr.next (P9 (some e)) false 0).run Tryz.prog j=.ok (.tuple #[.bool false]) ac/\True/\(k false ac))∨(∃ (ad ae:Value) (af:World),(Instr.next (P9 (some e)) false 0).run Tryz.prog j=.ok (.tuple #[.bool true,ad,ae]) af/\True/\(k true af))))):CP 174 #[P9 a,P9 b] w R:=
 vcq Tryz.func174 [5,8] [(4,⟨[],[]⟩),(5,⟨[(16,.bool)],[]⟩),(24,⟨[],[]⟩),(25,⟨[(41,.bool)],[]⟩)] [.l (.optr a),.l (.optr b)] h
theorem y_A (a:OA)(w:World)(R:EW)(h:
 ∀ b:Bool->World->Prop,(∀ c:Bool,∀ d:World,
 (R (R9 (.bool c)) d)->
 b c d)->
 Pt a fun e=>Lm w e fun f=>∃ g,(Builtin.len_ #[195] 3 #[.map f]).run Tryz.prog w=.ok (N9 g) w/\(Br (g==0) (Pt a fun i=>Lm w (i.add 1) fun j=>∃ k,(Builtin.len_ #[196] 3 #[.map j]).run Tryz.prog w=.ok (N9 k) w/\b (k==0) w) (b false w))):CP 159 #[P9 a] w R:=
 vcq Tryz.func159 [] [(2,⟨[(2,.bool)],[]⟩)] [.l (.optr a)] h
theorem x_I (a:OA)(w:World)(R:EW)(h:
 Pt a fun b=>Lp w (b.add 2) fun c=>∀ d:World->Prop,(∀ e:World,
 (∀ f:World->Prop,(∀ g:World,
 (∀ i:World->Prop,(∀ j:World,
 (∀ k:World->Prop,(∀ l:World,
 (Pt c fun m=>Lp l (m.add 16) fun n=>(Br (!n.isNone) (Pt c fun o=>Lp l (o.add 16) fun p=>CP 151 #[P9 a,P9 p,(T9 (⟨#[]⟩:BA)),.bool true] l (fun q r=>∃ s:Option (TypeId × Value),q=R9 (ifcV s)/\True/\(Br (s.isNone) (Pt c fun t=>Lp r (t.add 17) fun u=>(Br (!u.isNone) (Pt c fun v=>Lp r (v.add 17) fun x=>CP 151 #[P9 a,P9 x,(T9 (⟨#[]⟩:BA)),.bool false] r (fun y z=>∃ A:Option (TypeId × Value),y=R9 (ifcV A)/\True/\C0 128 #[P9 a,(ifcV A)] z (fun B=>True/\R (R9 (.tuple #[])) B))) (R (R9 (.tuple #[])) r))) (Pt c fun C=>Lp r (C.add 18) fun D=>(Br (!D.isNone) (Pt c fun E=>Lp r (E.add 18) fun F=>CP 151 #[P9 a,P9 F,(T9 (⟨#[]⟩:BA)),.bool false] r (fun G H=>∃ I:Option (TypeId × Value),G=R9 (ifcV I)/\True/\C0 128 #[P9 a,(ifcV I)] H (fun J=>True/\R (R9 (.tuple #[])) J))) (R (R9 (.tuple #[])) r)))))) (R (R9 (.tuple #[])) l)))->
 k l)->
 Pt c fun K=>Ll j (K.add 15) fun L M N=>(Br (decide ((M:Int)>0)) (∀ O:Int->OA->Nat->Nat->World->Prop,(∀ P:Int,∀ (Q:OA) (S U:Nat),∀ V:World,
 ((Br (P==(-1:Int)) (True/\True/\(let W:=V.alloc (.cells #[S9 none 0 0] 332);
 C0 157 #[P9 a,S9 Q S U,(ifcV (some (330,(P9 (some (adr V.heap.size))))))] W (fun X=>True/\k X))) (k V)))->
 O P Q S U V)->
 Pt c fun Y=>Ll j (Y.add 15) fun Z aa ab=>∃ (ac:Int->OA->Nat->Nat->Int->World->Prop) (ad:Int->OA->Nat->Nat->Int->World->Nat),ac (-1:Int) none 0 0 0 j/\
 (∀ ae:Int,∀ (af:OA) (ag ah:Nat),∀ ai:Int,∀ aj:World,ac ae af ag ah ai aj->
 (Br (decide (ai<(aa:Int))) (∀ ak:Int->OA->Nat->Nat->World->Prop,(∀ al:Int,∀ (am:OA) (an ao:Nat),∀ ap:World,
 ((ac al am an ao (wr (ai+1)) ap/\ad al am an ao (wr (ai+1)) ap<ad ae af ag ah ai aj))->
 ak al am an ao ap)->
 Ix Z ai aa fun aq=>Lp aj (aq.add (ai.toNat*1)) fun ar=>CP 151 #[P9 a,P9 ar,(T9 (⟨#[]⟩:BA)),(.bool (ae !=(-1:Int)))] aj (fun au av=>∃ ax:Option (TypeId × Value),au=R9 (ifcV ax)/\True/\(Br (!ax.isNone) ((Br (ae==(-1:Int)) (∃ ay,ax=some (169,(P9 ay))/\True/\(let az:=av.alloc (.cells #[P9 ay] 169);
 ∃ aA aB aC,∃ aD,(Go.builtin .append #[164,164] 164 #[false,false] #[S9 af ag ah,(S9 (some (adr av.heap.size)) 1 1)]).run Tryz.prog az=.ok (.value (S9 aA aB aC)) aD/\True/\ak ae aA aB aC aD)) (ak ae af ag ah av))) ((Br (ae==(-1:Int)) (ak ai af ag ah av) (True/\(let aE:=av.alloc (.cells #[N9 ae,N9 ai] 3);
 True/\True/\(let aF:=aE.alloc (.cells #[(S9 (some (adr av.heap.size)) 2 2)] 332);
 C0 152 #[P9 a,(ifcV (some (330,(P9 (some (adr aE.heap.size))))))] aF (fun aG=>True/\O ae af ag ah aG))))))))) (O ae af ag ah aj)))) (k j)))->
 i j)->
 Pt c fun aH=>Ll g (aH.add 14) fun aI aJ aK=>(Br (decide ((aJ:Int)>0)) (∀ aL:Bool->OA->Nat->Nat->World->Prop,(∀ aM:Bool,∀ (aN:OA) (aO aP:Nat),∀ aQ:World,
 ((Br (!aM) (True/\True/\(let aS:=aQ.alloc (.cells #[] 329);
 C0 157 #[P9 a,S9 aN aO aP,(ifcV (some (328,(P9 (some (adr aQ.heap.size))))))] aS (fun aU=>True/\i aU))) (i aQ)))->
 aL aM aN aO aP aQ)->
 Pt c fun aV=>Ll g (aV.add 14) fun aW aX aY=>∃ (aZ:Bool->OA->Nat->Nat->Int->World->Prop) (ba:Bool->OA->Nat->Nat->Int->World->Nat),aZ false none 0 0 0 g/\
 (∀ bb:Bool,∀ (bc:OA) (bd be:Nat),∀ bf:Int,∀ bg:World,aZ bb bc bd be bf bg->
 (Br (decide (bf<(aX:Int))) (∀ bh:Bool->OA->Nat->Nat->World->Prop,(∀ bi:Bool,∀ (bj:OA) (bk bl:Nat),∀ bm:World,
 ((aZ bi bj bk bl (wr (bf+1)) bm/\ba bi bj bk bl (wr (bf+1)) bm<ba bb bc bd be bf bg))->
 bh bi bj bk bl bm)->
 Ix aW bf aX fun bn=>Lp bg (bn.add (bf.toNat*1)) fun bo=>CP 151 #[P9 a,P9 bo,(T9 (⟨#[]⟩:BA)),.bool false] bg (fun bp bq=>∃ br:Option (TypeId × Value),bp=R9 (ifcV br)/\True/\(Br (!br.isNone) (∃ bs,br=some (169,(P9 bs))/\True/\(let bt:=bq.alloc (.cells #[P9 bs] 169);
 ∃ bu bv bx,∃ bz,(Go.builtin .append #[164,164] 164 #[false,false] #[S9 bc bd be,(S9 (some (adr bq.heap.size)) 1 1)]).run Tryz.prog bt=.ok (.value (S9 bu bv bx)) bz/\True/\bh bb bu bv bx bz)) (Pt a fun bA=>Lp bq (bA.add 4) fun bB=>Cb 159 #[P9 bB] bq (fun bC bD=>True/\(Br bC (aL true bc bd be bD) (bh true bc bd be bD))))))) (aL bb bc bd be bg)))) (i g)))->
 f g)->
 Pt c fun bE=>Ll e (bE.add 13) fun bF bG bH=>(Br (decide ((bG:Int)>0)) (∀ bI:OA->Nat->Nat->World->Prop,(∀ (bJ:OA) (bK bL:Nat),∀ bM:World,
 ((Br ((bK:Int) !=0) (True/\True/\(let bN:=bM.alloc (.cells #[] 327);
 C0 157 #[P9 a,S9 bJ bK bL,(ifcV (some (326,(P9 (some (adr bM.heap.size))))))] bN (fun bO=>True/\f bO))) (f bM)))->
 bI bJ bK bL bM)->
 Pt c fun bP=>Ll e (bP.add 13) fun bQ bS bU=>∃ (bV:OA->Nat->Nat->Int->World->Prop) (bW:OA->Nat->Nat->Int->World->Nat),bV none 0 0 0 e/\
 (∀ (bX:OA) (bY bZ:Nat),∀ ca:Int,∀ cb:World,bV bX bY bZ ca cb->
 (Br (decide (ca<(bS:Int))) (∀ cc:OA->Nat->Nat->World->Prop,(∀ (cd:OA) (ce cf:Nat),∀ cg:World,
 ((bV cd ce cf (wr (ca+1)) cg/\bW cd ce cf (wr (ca+1)) cg<bW bX bY bZ ca cb))->
 cc cd ce cf cg)->
 Ix bQ ca bS fun ch=>Lp cb (ch.add (ca.toNat*1)) fun ci=>CP 151 #[P9 a,P9 ci,(T9 (⟨#[]⟩:BA)),.bool false] cb (fun cj ck=>∃ cl:Option (TypeId × Value),cj=R9 (ifcV cl)/\True/\(Br (!cl.isNone) (∃ cm,cl=some (169,(P9 cm))/\True/\(let cn:=ck.alloc (.cells #[P9 cm] 169);
 ∃ co cp cq,∃ cr,(Go.builtin .append #[164,164] 164 #[false,false] #[S9 bX bY bZ,(S9 (some (adr ck.heap.size)) 1 1)]).run Tryz.prog cn=.ok (.value (S9 co cp cq)) cr/\True/\Pt a fun ct=>Lb cr (ct.add 6) fun cu=>(Br cu (bI co cp cq cr) (cc co cp cq cr)))) (cc bX bY bZ ck)))) (bI bX bY bZ cb)))) (f e)))->
 d e)->
 Pt c fun cv=>Lp w (cv.add 12) fun cx=>(Br (!cx.isNone) (Pt c fun cy=>Lp w (cy.add 12) fun cz=>CP 151 #[P9 a,P9 cz,(T9 (⟨#[]⟩:BA)),.bool true] w (fun cA cB=>∃ cC:Option (TypeId × Value),cA=R9 (ifcV cC)/\True/\(Br (cC.isNone) (True/\True/\(let cD:=cB.alloc (.cells #[] 325);
 C0 152 #[P9 a,(ifcV (some (324,(P9 (some (adr cB.heap.size))))))] cD (fun cE=>True/\d cE))) (d cB)))) (d w))):CP 132 #[P9 a] w R:=
 vcq Tryz.func132 [] [(2,⟨[],[]⟩),(12,⟨[],[]⟩),(18,⟨[(3,.slice)],[]⟩),(22,⟨[(3,.slice),(49,.int .i64)],[]⟩),(29,⟨[(3,.slice)],[]⟩),(53,⟨[],[]⟩),(61,⟨[(7,.bool),(8,.slice)],[]⟩),(65,⟨[(7,.bool),(8,.slice),(88,.int .i64)],[]⟩),(72,⟨[(7,.bool),(8,.slice)],[]⟩),(96,⟨[],[]⟩),(104,⟨[(12,.int .i64),(13,.slice)],[]⟩),(108,⟨[(12,.int .i64),(13,.slice),(127,.int .i64)],[]⟩),(115,⟨[(12,.int .i64),(13,.slice)],[]⟩)] [.l (.optr a)] h
theorem x_x (a:OA)(w:World)(R:EW)(h:
 Pt a fun b=>Lp w (b.add 2) fun c=>∀ d:World->Prop,(∀ e:World,
 (∀ f:OA->Nat->Nat->Bool->World->Prop,(∀ (g:OA) (i j:Nat),∀ k:Bool,∀ l:World,
 (∀ m:Bool->World->Prop,(∀ n:Bool,∀ o:World,
 ((Br n (Pt a fun p=>Lp o (p.add 4) fun q=>Pt q fun r=>Lm o (r.add 1) fun s=>∃ t,∃ u,(Instr.range 196 (.map s)).run Tryz.prog o=.ok (P9 (some t)) u/\True/\∃ (v:World->Prop) (x:World->Nat),v u/\
 (∀ y:World,v y->
 ∀ z:Bool->World->Prop,(∀ A:Bool,∀ B:World,
 ((Br A (∃ (C D:Value),(Instr.entry (P9 (some t))).run Tryz.prog B=.ok (.tuple #[C,D]) B/\∃ E,C=(N9 E)/\∀ F,F=B.drew->Pt c fun G=>Lp F (G.add 41) fun H=>Ix g E i fun I=>Lo F (I.add (E.toNat*1)) fun J=>Cs 63 #[N9 E] F (fun K L=>True/\((L.cell? (I.add (E.toNat*1))=F.cell? (I.add (E.toNat*1)))/\(L.cell? (G.add 41)=F.cell? (G.add 41))/\True)/\CP 154 #[P9 a,P9 H,(ifcV J),T9 K] L (fun M N=>∃ O:Option (TypeId × Value),M=R9 (ifcV O)/\True/\True/\C0 128 #[P9 a,(ifcV O)] N (fun P=>True/\True/\(v P/\x P<x y))))) (Pt a fun Q=>Lp B (Q.add 4) fun S=>Pt S fun U=>Off B (U.add 1) 1 []/\True/\(let V:=(B.setCell (U.add 1) (.map none));
 R (R9 (.tuple #[])) V))))->
 z A B)->
 ((∃ W,(Instr.next (P9 (some t)) false 0).run Tryz.prog y=.ok (.tuple #[.bool false]) W/\True/\(z false W))∨(∃ (X Y:Value) (Z:World),(Instr.next (P9 (some t)) false 0).run Tryz.prog y=.ok (.tuple #[.bool true,X,Y]) Z/\True/\(z true Z))))) (R (R9 (.tuple #[])) o)))->
 m n o)->
 (Br k (Pt c fun aa=>Lp l (aa.add 41) fun ab=>m (!ab.isNone) l) (m false l)))->
 f g i j k l)->
 Pt a fun ac=>Lo e ac fun ad=>((∀ ae,ad=some (114,ae)->∃ ag ah ai,ae=(S9 ag ah ai)/\f ag ah ai true e)/\((∀ af,ad≠some (114,af))->f none 0 0 false e)))->
 d e)->
 ∀ aj:Option Nat->Bool->World->Prop,(∀ ak:Option Nat,∀ al:Bool,∀ am:World,
 (∀ an:Bool->World->Prop,(∀ ao:Bool,∀ ap:World,
 ((Br ao (Pt a fun aq=>Lp ap (aq.add 4) fun ar=>Pt ar fun au=>Lm ap au fun av=>∃ ax,∃ ay,(Instr.range 195 (.map av)).run Tryz.prog ap=.ok (P9 (some ax)) ay/\True/\∃ (az:World->Prop) (aA:World->Nat),az ay/\
 (∀ aB:World,az aB->
 ∀ aC:Bool->World->Prop,(∀ aD:Bool,∀ aE:World,
 ((Br aD (∃ (aF aG:Value),(Instr.entry (P9 (some ax))).run Tryz.prog aE=.ok (.tuple #[aF,aG]) aE/\∃ aH,aF=(T9 aH)/\∃ aI:Option (TypeId × Value),∃ aJ,(Instr.lookup 110 (.map ak) (T9 aH) true).run Tryz.prog aE=.ok (.tuple #[(ifcV aI),.bool aJ]) aE/\(Br aJ (Pt c fun aK=>Lp aE (aK.add 30) fun aL=>CP 154 #[P9 a,P9 aL,(ifcV aI),T9 aH] aE (fun aM aN=>∃ aO:Option (TypeId × Value),aM=R9 (ifcV aO)/\True/\C0 128 #[P9 a,(ifcV aO)] aN (fun aP=>True/\(az aP/\aA aP<aA aB)))) ((az aE/\aA aE<aA aB)))) (Pt a fun aQ=>Lp aE (aQ.add 4) fun aS=>Pt aS fun aU=>Off aE aU 1 []/\True/\(let aV:=(aE.setCell aU (.map none));
 d aV))))->
 aC aD aE)->
 ((∃ aW,(Instr.next (P9 (some ax)) false 0).run Tryz.prog aB=.ok (.tuple #[.bool false]) aW/\True/\(aC false aW))∨(∃ (aX aY:Value) (aZ:World),(Instr.next (P9 (some ax)) false 0).run Tryz.prog aB=.ok (.tuple #[.bool true,aX,aY]) aZ/\True/\(aC true aZ))))) (d ap)))->
 an ao ap)->
 (Br al (Pt c fun ba=>Lp am (ba.add 30) fun bb=>an (!bb.isNone) am) (an false am)))->
 aj ak al am)->
 Pt a fun bc=>Lo w bc fun bd=>((∀ be,bd=some (110,be)->∃ bg:Option Nat,be=(.map bg)/\aj bg true w)/\((∀ bf,bd≠some (110,bf))->aj none false w))):CP 133 #[P9 a] w R:=
 vcq Tryz.func133 [] [(2,⟨[],[]⟩),(3,⟨[(3,.map),(4,.bool)],[]⟩),(5,⟨[(30,.bool)],[]⟩),(12,⟨[],[]⟩),(13,⟨[(40,.bool)],[]⟩),(31,⟨[(8,.slice),(9,.bool)],[]⟩),(33,⟨[(81,.bool)],[]⟩),(40,⟨[],[]⟩),(41,⟨[(91,.bool)],[]⟩)] [.l (.optr a)] h
theorem x_P (a:OA)(b:BA)(w:World)(R:EW)(h:
 Pt a fun c=>Lp w (c.add 2) fun d=>∀ e:Int->World->Prop,(∀ f:Int,∀ g:World,
 (∀ i:World->Prop,(∀ j:World,
 (∀ k:World->Prop,(∀ l:World,
 (Pt d fun m=>Lo l (m.add 44) fun n=>(Br (!n.isNone) (Pt d fun o=>Lo l (o.add 44) fun p=>∃ (q:TypeId) (r:Value) (s:FuncId) (t:Value),p=some (q,r)/\(Go.method (Tryz.prog.types.size+Made.depth) q r "MatchString").run Tryz.prog l=.ok (s,t) l/\∃ u,Tryz.prog.funcs[s]? =some u/\(u.name== "runtime.NumGoroutine" ||u.body.isNone)=false/\CP s (t::[T9 b]).toArray l (fun v x=>∃ y,v=R9 (.bool y)/\True/\(Br (!y) (Pt d fun z=>Lo x (z.add 44) fun A=>∃ (B:TypeId) (C:Value) (D:FuncId) (E:Value),A=some (B,C)/\(Go.method (Tryz.prog.types.size+Made.depth) B C "String").run Tryz.prog x=.ok (D,E) x/\∃ F,Tryz.prog.funcs[D]? =some F/\(F.name== "runtime.NumGoroutine" ||F.body.isNone)=false/\CP D (E::[]).toArray x (fun G H=>∃ I,G=R9 (T9 I)/\True/\True/\True/\(let J:=H.alloc (.cells #[T9 b,T9 I] 323);
 C0 152 #[P9 a,(ifcV (some (321,(P9 (some (adr H.heap.size))))))] J (fun K=>True/\R (R9 (.tuple #[])) K)))) (R (R9 (.tuple #[])) x)))) (R (R9 (.tuple #[])) l)))->
 k l)->
 Pt d fun L=>Lp j (L.add 43) fun M=>(Br (!M.isNone) (Pt d fun N=>Lp j (N.add 43) fun O=>Pt O fun P=>Li j P fun Q=>(Br (decide (f>Q)) (Pt d fun S=>Lp j (S.add 43) fun U=>Pt U fun V=>Li j V fun W=>True/\True/\(let X:=j.alloc (.cells #[N9 f,N9 W] 320);
 C0 152 #[P9 a,(ifcV (some (319,(P9 (some (adr j.heap.size))))))] X (fun Y=>True/\k Y))) (k j))) (k j)))->
 i j)->
 Pt d fun Z=>Lp g (Z.add 42) fun aa=>(Br (!aa.isNone) (Pt d fun ab=>Lp g (ab.add 42) fun ac=>Pt ac fun ad=>Li g ad fun ae=>(Br (decide (f<ae)) (Pt d fun af=>Lp g (af.add 42) fun ag=>Pt ag fun ah=>Li g ah fun ai=>True/\True/\(let aj:=g.alloc (.cells #[N9 f,N9 ai] 318);
 C0 152 #[P9 a,(ifcV (some (317,(P9 (some (adr g.heap.size))))))] aj (fun ak=>True/\i ak))) (i g))) (i g)))->
 e f g)->
 ∀ al:Bool->World->Prop,(∀ am:Bool,∀ an:World,
 ((Br am (∃ ao ap aq,∃ ar,(convert 9 252 (T9 b)).run Tryz.prog an=.ok (S9 ao ap aq) ar/\True/\Ci 158 #[S9 ao ap aq] ar (fun au av=>True/\e au av)) (e (-1:Int) an)))->
 al am an)->
 Pt d fun ax=>Lp w (ax.add 42) fun ay=>(Nr (!ay.isNone) (Pt d fun az=>Lp w (az.add 43) fun aA=>al (!aA.isNone) w) (al true w))):CP 131 #[P9 a,T9 b] w R:=
 vcq Tryz.func131 [] [(4,⟨[(5,.int .i64)],[]⟩),(5,⟨[(21,.bool)],[]⟩),(10,⟨[],[]⟩),(20,⟨[],[]⟩)] [.l (.optr a),.l (.str b)] h
set_option maxRecDepth 100000
theorem x_Y (a:OA)(b c:Nat)(w:World)(R:EW)(h:
 ∃ (d:Int->World->Prop) (e:Int->World->Nat),d 0 w/\
 (∀ f:Int,∀ g:World,d f g->
 (Br (decide (f<(b:Int))) (Ix a f b fun i=>∃ j,g.cell? (i.add (f.toNat*1))=some (.int .u8 j)/\(Br (decide (j>=128)) ((0<=f/\f<=(b:Int)/\(b:Int)<=(c:Int))/\∃ k,∃ l,(convert 252 9 (S9 (if c=f.toNat then a else Option.map (·.add (f.toNat*1)) a) ((b:Int).toNat-f.toNat:Nat) (c-f.toNat:Nat))).run Tryz.prog g=.ok (T9 k) l/\True/\Ci 175 #[T9 k] l (fun m n=>True/\R (R9 (N9 (wr (f+m)))) n)) ((d (wr (f+1)) g/\e (wr (f+1)) g<e f g)))) (R (R9 (N9 f)) g)))):CP 158 #[S9 a b c] w R:=
 vcq Tryz.func158 [] [(8,⟨[(4,.int .i64)],[]⟩)] [.l (.slice a b c)] h
theorem x_n (a:BA)(w:World)(R:EW)(h:
 ∃ b,∃ c,(Instr.range 9 (T9 a)).run Tryz.prog w=.ok (P9 (some b)) c/\True/\∃ (d:Int->World->Prop) (e:Int->World->Nat),d 0 c/\
 (∀ f:Int,∀ g:World,d f g->
 ∀ i:Bool->World->Prop,(∀ j:Bool,∀ k:World,
 ((Br j ((d (wr (f+1)) k/\e (wr (f+1)) k<e f g)) (R (R9 (N9 f)) k)))->
 i j k)->
 ((∃ l,(Instr.next (P9 (some b)) true 0).run Tryz.prog g=.ok (.tuple #[.bool false]) l/\True/\(i false l))∨(∃ (m n:Int) (o:World),(Instr.next (P9 (some b)) true 0).run Tryz.prog g=.ok (.tuple #[.bool true,N9 m,.int .i32 n]) o/\True/\(i true o))))):CP 175 #[T9 a] w R:=
 vcq Tryz.func175 [] [(6,⟨[(2,.int .i64)],[]⟩),(7,⟨[(6,.bool)],[]⟩)] [.l (.str a)] h
theorem x_r (a:OA)(b c:Nat)(d:BA)(w:World)(R:EW)(h:
 Ci 164 #[S9 a b c,T9 d] w (fun e f=>True/\R (R9 (.bool (decide (e>=0)))) f)):CP 142 #[S9 a b c,T9 d] w R:=
 vcq Tryz.func142 [] [] [.l (.slice a b c),.l (.str d)] h
theorem x_E (a:OA)(b c:Nat)(d:BA)(w:World)(R:EW)(h:
 ∃ (e:Int->World->Prop) (f:Int->World->Nat),e 0 w/\
 (∀ g:Int,∀ i:World,e g i->
 (Br (decide (g<(b:Int))) (Ix a g b fun j=>Ls i (j.add (g.toNat*1)) fun k=>(Br (d.toList==k.toList) (R (R9 (N9 g)) i) ((e (wr (g+1)) i/\f (wr (g+1)) i<f g i)))) (R (R9 (N9 (-1:Int))) i)))):CP 164 #[S9 a b c,T9 d] w R:=
 vcq Tryz.func164 [] [(6,⟨[(8,.int .i64)],[]⟩)] [.l (.slice a b c),.l (.str d)] h
theorem x_D (a:OA)(b c:Nat)(w:World)(R:EW)(h:
 ∃ d,(eqGuard .eql 24 (Operand.tmp 3) (Operand.const (S9 none 0 0)) (S9 a b c) (S9 none 0 0)).run Tryz.prog w=.ok () w/\(binOp .eql 24 (S9 a b c) (S9 none 0 0)).run Tryz.prog w=.ok (.bool d) w/\(Br d (R (R9 (S9 none 0 0)) w) ((let e:=w.alloc (.cells #[] 9);
 ∃ f g i,∃ j,(Go.builtin .append #[24,24] 24 #[false,false] #[(S9 (some (adr w.heap.size)) 0 0),S9 a b c]).run Tryz.prog e=.ok (.value (S9 f g i)) j/\True/\R (R9 (S9 f g i)) j)))):CP 170 #[S9 a b c] w R:=
 vcq Tryz.func170 [] [] [.l (.slice a b c)] h
theorem y_t (a:Int)(w:World)(R:EW)(h:
 True/\(let b:=w.alloc (.cells #[.int .i64 2,.int .i64 4,.int .i64 8,.int .i64 16,.int .i64 32,.int .i64 64,.int .i64 128] 188);
 ∃ (c:OA->Nat->Nat->Int->World->Prop) (d:OA->Nat->Nat->Int->World->Nat),c none 0 0 0 b/\
 (∀ (e:OA) (f g:Nat),∀ i:Int,∀ j:World,c e f g i j->
 (Br (decide (i<7)) (∀ k:OA->Nat->Nat->World->Prop,(∀ (l:OA) (m n:Nat),∀ o:World,
 ((c l m n (wr (i+1)) o/\d l m n (wr (i+1)) o<d e f g i j))->
 k l m n o)->
 Ix (some (adr w.heap.size)) i 7 fun p=>Li j (p.add (i.toNat*1)) fun q=>Cb 123 #[.int .i64 a,.int .i64 q] j (fun r s=>True/\(Br r (Cs 124 #[.int .i64 q] s (fun t u=>True/\True/\(let v:=u.alloc (.cells #[.string t] 9);
 Ap 24 (.slice e f g) (.slice (some (adr u.heap.size)) 1 1) v fun x y z A=>True/\k x y z A))) (k e f g s)))) (R (.returned (.slice e f g)) j))))):CP 125 #[.int .i64 a] w R:=
 vcq Tryz.func125 [] [(10,⟨[(4,.slice),(10,.int .i64)],[]⟩),(17,⟨[(4,.slice)],[]⟩)] [.l (.int .i64 a)] h
theorem A_R (a:BA)(w:World)(R:EW)(h:
 True/\True/\(let b:=w.alloc (.cells #[T9 a] 247);
 R (R9 (ifcV (some (245,(P9 (some (adr w.heap.size))))))) b)):CP 116 #[T9 a] w R:=
 vcq Tryz.func116 [] [] [.l (.str a)] h
theorem z_W (a:Int)(w:World)(R:EW)(h:
 Cs 99 #[N9 a] w (fun b c=>True/\R (R9 (T9 b)) c)):CP 63 #[N9 a] w R:=
 vcq Tryz.func63 [] [] [.l (.int .i64 a)] h
theorem x_5 (a:Int)(w:World)(R:EW)(h:
 Cs 117 #[N9 a,N9 10] w (fun b c=>True/\R (R9 (T9 b)) c)):CP 99 #[N9 a] w R:=
 vcq Tryz.func99 [] [] [.l (.int .i64 a)] h
theorem x_W (a:Int)(w:World)(R:EW)(h:
 (Br (decide (a<10)) ((0<=a/\a<=(wr (a+1))/\(wr (a+1))<=((⟨#[48,49,50,51,52,53,54,55,56,57,97,98,99,100,101,102,103,104,105,106,107,108,109,110,111,112,113,114,115,116,117,118,119,120,121,122]⟩:BA).size:Int))/\R (R9 (T9 ((⟨#[48,49,50,51,52,53,54,55,56,57,97,98,99,100,101,102,103,104,105,106,107,108,109,110,111,112,113,114,115,116,117,118,119,120,121,122]⟩:BA).extract a.toNat (wr (a+1)).toNat))) w) ((0<=(wr (a*2))/\(wr (a*2))<=(wr ((wr (a*2))+2))/\(wr ((wr (a*2))+2))<=((⟨#[48,48,48,49,48,50,48,51,48,52,48,53,48,54,48,55,48,56,48,57,49,48,49,49,49,50,49,51,49,52,49,53,49,54,49,55,49,56,49,57,50,48,50,49,50,50,50,51,50,52,50,53,50,54,50,55,50,56,50,57,51,48,51,49,51,50,51,51,51,52,51,53,51,54,51,55,51,56,51,57,52,48,52,49,52,50,52,51,52,52,52,53,52,54,52,55,52,56,52,57,53,48,53,49,53,50,53,51,53,52,53,53,53,54,53,55,53,56,53,57,54,48,54,49,54,50,54,51,54,52,54,53,54,54,54,55,54,56,54,57,55,48,55,49,55,50,55,51,55,52,55,53,55,54,55,55,55,56,55,57,56,48,56,49,56,50,56,51,56,52,56,53,56,54,56,55,56,56,56,57,57,48,57,49,57,50,57,51,57,52,57,53,57,54,57,55,57,56,57,57]⟩:BA).size:Int))/\R (R9 (T9 ((⟨#[48,48,48,49,48,50,48,51,48,52,48,53,48,54,48,55,48,56,48,57,49,48,49,49,49,50,49,51,49,52,49,53,49,54,49,55,49,56,49,57,50,48,50,49,50,50,50,51,50,52,50,53,50,54,50,55,50,56,50,57,51,48,51,49,51,50,51,51,51,52,51,53,51,54,51,55,51,56,51,57,52,48,52,49,52,50,52,51,52,52,52,53,52,54,52,55,52,56,52,57,53,48,53,49,53,50,53,51,53,52,53,53,53,54,53,55,53,56,53,57,54,48,54,49,54,50,54,51,54,52,54,53,54,54,54,55,54,56,54,57,55,48,55,49,55,50,55,51,55,52,55,53,55,54,55,55,55,56,55,57,56,48,56,49,56,50,56,51,56,52,56,53,56,54,56,55,56,56,56,57,57,48,57,49,57,50,57,51,57,52,57,53,57,54,57,55,57,56,57,57]⟩:BA).extract (wr (a*2)).toNat (wr ((wr (a*2))+2)).toNat))) w))):CP 143 #[N9 a] w R:=
 vcq Tryz.func143 [] [] [.l (.int .i64 a)] h
def GMap (K:Value->Prop)(w:World)(b:Nat)(S:Value->Value->Prop):Prop:=
 ∃ (ents:Array MapEntry) (cl:Nat),objAt w b=some (.map ents cl)/\MapKept.Stamped ents cl/\(∀ e∈ents.toList,K e.key)/\∀ k v,S k v↔∃ e∈ents.toList,e.key=k/\e.val=v
theorem GMap.ext {K:Value->Prop}{X:Nat->Prop}{w w':World}{b:Nat}{S:Value->Value->Prop}(h:GMap K w b S)(hx:Ext X w w')(hb:¬ X b):GMap K w' b S:=by
 obtain ⟨ents,cl,h1,h2⟩:=h;exact ⟨ents,cl,hx.old b _ hb h1,h2⟩
theorem GMap.lt {K:Value->Prop}{w:World}{b:Nat}{S:Value->Value->Prop}(h:GMap K w b S):b<w.heap.size:=by
 obtain ⟨ents,cl,h1,-⟩:=h;exact a_3 h1
theorem GMap.congr {K:Value->Prop}{w:World}{b:Nat}{S S':Value->Value->Prop}(h:GMap K w b S)(e:∀ k v,S' k v↔S k v):GMap K w b S':=by
 obtain ⟨ents,cl,h1,h2,h3,h4⟩:=h;exact ⟨ents,cl,h1,h2,h3,fun k v=>(e k v).trans (h4 k v)⟩
theorem GMap.made (K:Value->Prop)(w:World):GMap K (w.alloc (.map #[] 0)) w.heap.size fun _ _=>False:=
 ⟨#[],0,by rw [b_R,if_pos rfl],MapKept.stamped_empty 0,by simp,by simp⟩
theorem z_a {ents:Array MapEntry}{cl:Nat}(h:MapKept.Stamped ents cl){e e':MapEntry}(he:e∈ents.toList)(he':e'∈ents.toList)(hk:e.key=e'.key):e=e':=by
 have hn:=h.2.2;generalize ents.toList=l at *;induction l with
 | nil=>cases he
 | cons z l ih=>
  simp only [List.map_cons,List.nodup_cons] at hn;rcases mc_.1 he with h1|h1<;>rcases mc_.1 he' with h2|h2
  ·rw [h1,h2]
  ·exact absurd (mm_.2 ⟨e',h2,by rw [<- hk,h1]⟩) hn.1
  ·exact absurd (mm_.2 ⟨e,h1,by rw [hk,h2]⟩) hn.1
  ·exact ih h1 h2 hn.2
theorem GMap.one {K:Value->Prop}{w:World}{b:Nat}{S:Value->Value->Prop}(h:GMap K w b S){k v v':Value}(hv:S k v)(hv':S k v'):v=v':=by
 obtain ⟨ents,cl,h1,h2,h3,h4⟩:=h;obtain ⟨e,he,e1,e2⟩:=(h4 _ _).1 hv;obtain ⟨e',he',e3,e4⟩:=(h4 _ _).1 hv';rw [<- e2,<- e4,z_a h2 he he' (e1.trans e3.symm)]
theorem GMap.key {K:Value->Prop}{w:World}{b:Nat}{S:Value->Value->Prop}(h:GMap K w b S){k v:Value}(hv:S k v):K k:=by
 obtain ⟨ents,cl,h1,h2,h3,h4⟩:=h;obtain ⟨e,he,e1,e2⟩:=(h4 _ _).1 hv;rw [<- e1];exact h3 e he
theorem GMap.len {K:Value->Prop}{w:World}{b:Nat}{S:Value->Value->Prop}(h:GMap K w b S):∃ (ents:Array MapEntry) (cl:Nat),objAt w b=some (.map ents cl)/\∀ L:List Value,L.Nodup->(∀ k,k∈L↔∃ v,S k v)->ents.size=L.length:=by
 obtain ⟨ents,cl,h1,h2,h3,h4⟩:=h;refine ⟨ents,cl,h1,fun L hL hm=>?_⟩;have hp:(ents.toList.map (·.key)).Perm L:=(List.perm_ext_iff_of_nodup h2.2.2 hL).2 fun k=>by
  rw [hm,mm_];constructor
  ·rintro ⟨e,he,rfl⟩;exact ⟨_,(h4 _ _).2 ⟨e,he,rfl,rfl⟩⟩
  ·rintro ⟨v,hv⟩;obtain ⟨e,he,e1,-⟩:=(h4 _ _).1 hv;exact ⟨e,he,e1⟩
 have:=hp.length_eq;simpa using this
section
variable {P:Program} {t kt e:TypeId} {d:TypeDesc} {b:Nat} {S:Value->Value->Prop} {u:Value} {w:World}
theorem B_o {z:Value}{i:TypeInfo}(hu:P.underlying t=some (.map kt e))(hkt:P.underlying kt=some d)(hi:P.info? e=some i)(hz:i.zero=some z)(hk:MapKept.IsKey d u)(hm:GMap (MapKept.IsKey d) w b S):
  ∃ (r:Value) (g:Bool),(∀ ok,(Instr.lookup t (.map (some b)) u ok).run P w=.ok (if ok then .tuple #[r,.bool g] else r) w)/\((g=true/\S u r)∨(g=false/\r=z/\∀ v,¬ S u v)):=by
 obtain ⟨ents,cl,h1,h2,h3,h4⟩:=hm;have hb:w.heap[b]? =some (.map ents cl):=h1;have hzz:(zeroValue e).run P w=.ok z w:=by simp [zeroValue,typeInfo,Sem.run_bind,hi,hz]
 have hck:∀ em,(Instr.checkKey em 10000 kt u).run P w=.ok () w:=fun em=>MapKept.run_checkKey hkt hk em 9999;rcases MapKept.findNow_spec hk ents.toList 0 h3 with ⟨f1,f2⟩|⟨j,e',f1,f2,f3⟩
 ·refine ⟨z,false,fun ok=>?_,.inr ⟨rfl,rfl,fun v hv=>?_⟩⟩
  ·simp only [Instr.lookup,Sem.run_bind,run_underlying hu,Result.andThen_ok,getObj,Sem.run,hb,hck,MapKept.run_findKey hkt f1,hzz];cases ok<;>simp [Sem.run,hck,MapKept.run_findKey hkt f1,hzz]
  ·obtain ⟨e',he',e1,-⟩:=(h4 _ _).1 hv;exact f2 e' he' e1
 ·refine ⟨e'.val,true,fun ok=>?_,.inl ⟨rfl,(h4 _ _).2 ⟨e',mg_ f2,f3,rfl⟩⟩⟩;simp only [Instr.lookup,Sem.run_bind,run_underlying hu,Result.andThen_ok,getObj,Sem.run,hb,hck,MapKept.run_findKey hkt f1];cases ok<;>simp [Sem.run,hck,MapKept.run_findKey hkt f1]
theorem A_l {w:World}{b:Nat}(o:Obj):Ext (fun k=>k=b) w { w with heap:=w.heap.setIfInBounds b o}:=
 ⟨fun k o' hk ho=>by simp only [objAt,Array.getElem?_setIfInBounds];rw [if_neg (fun e=>hk e.symm)];exact ho,by simp,rfl,rfl⟩
theorem A_C {w:World}{b:Nat}(h:b<w.heap.size)(o:Obj):objAt { w with heap:=w.heap.setIfInBounds b o} b=some o:=by simp [objAt,h]
theorem x_K {v:Value}(hu:P.underlying t=some (.map kt e))(hkt:P.underlying kt=some d)(hk:MapKept.IsKey d u)(hm:GMap (MapKept.IsKey d) w b S):
  ∃ w',(Instr.mapUpdate t (.map (some b)) u v).run P w=.ok () w'/\GMap (MapKept.IsKey d) w' b (fun k x=>(k=u/\x=v)∨(k≠u/\S k x))/\Ext (fun k=>k=b) w w':=by
 obtain ⟨ents,cl,h1,h2,h3,h4⟩:=hm;have hb:w.heap[b]? =some (.map ents cl):=h1;have hlt:b<w.heap.size:=a_3 h1;have hck:(Instr.checkKey false 10000 kt u).run P w=.ok () w:=MapKept.run_checkKey hkt hk false 9999;rcases MapKept.findNow_spec hk ents.toList 0 h3 with ⟨f1,f2⟩|⟨j,e',f1,f2,f3⟩
 ·refine ⟨{ w with heap:=w.heap.setIfInBounds b (.map (ents.push { key:=u,val:=v,born:=cl}) (cl+1))},?_,⟨_,_,A_C hlt _,MapKept.stamped_push h2 f2,fun x hx=>?_,fun k x=>?_⟩,A_l _⟩
  ·simp [Instr.mapUpdate,Sem.run_bind,run_underlying hu,getObj,setObj,Sem.run,hb,hck,MapKept.run_findKey hkt f1,Result.andThen]
  ·simp only [Array.toList_push,ma_,List.mem_singleton] at hx;rcases hx with hx|rfl
   ·exact h3 x hx
   ·exact hk
  ·simp only [Array.toList_push,ma_,List.mem_singleton];constructor
   ·rintro (⟨rfl,rfl⟩|⟨hne,hs⟩)
    ·exact ⟨_,.inr rfl,rfl,rfl⟩
    ·obtain ⟨y,hy,q⟩:=(h4 _ _).1 hs;exact ⟨y,.inl hy,q⟩
   ·rintro ⟨y,hy|rfl,rfl,rfl⟩
    ·exact .inr ⟨f2 y hy,(h4 _ _).2 ⟨y,hy,rfl,rfl⟩⟩
    ·exact .inl ⟨rfl,rfl⟩
 ·have hj:ents[j]? =some e':=by simpa using f2
  have hkey:∀ y,ents[j]? =some y->({ y with key:=u,val:=v}:MapEntry).key=y.key:=fun y hy=>by rw [hj] at hy;cases hy;exact f3.symm
  refine ⟨{ w with heap:=w.heap.setIfInBounds b (.map (ents.modify j fun y=>{ y with key:=u,val:=v}) cl)},?_,⟨_,_,A_C hlt _,MapKept.stamped_modify h2 _ _ (fun _ _=>rfl) (fun y _ hy=>hkey y hy),MapKept.isKey_modify h3 _ _ hkey,fun k x=>?_⟩,A_l _⟩
  ·simp [Instr.mapUpdate,run_underlying hu,getObj,setObj,Sem.run,hb,hck,MapKept.run_findKey hkt f1,hj,f3,MapKept.run_keyThatStays hk,Result.andThen]
  ·have hmem:∀ y,y∈(ents.modify j fun y=>{ y with key:=u,val:=v}).toList↔(y={ e' with key:=u,val:=v})∨(y∈ents.toList/\y.key≠u):=fun y=>by
    rw [Array.mem_toList_iff,Array.mem_iff_getElem?];constructor
    ·rintro ⟨i,hi⟩;rw [Array.getElem?_modify] at hi;by_cases hij:j=i
     ·rw [if_pos hij,<- hij,hj] at hi;exact .inl (Option.some.inj hi).symm
     ·rw [if_neg hij] at hi;have hy:y∈ents.toList:=Array.mem_toList_iff.2 (Array.mem_of_getElem? hi);refine .inr ⟨hy,fun hyu=>hij ?_⟩;have hye:=z_a h2 hy (mg_ f2) (hyu.trans f3.symm);have hb2:=h2.2.1;rw [hye] at hi;have i1:(ents.toList.map (·.born))[j]? =some e'.born:=by rw [List.getElem?_map,f2];rfl
      have i2:(ents.toList.map (·.born))[i]? =some e'.born:=by rw [List.getElem?_map,Array.getElem?_toList,hi];rfl
      exact (List.getElem?_inj (List.getElem?_eq_some_iff.1 i1).1 hb2).1 (i1.trans i2.symm)
    ·rintro (rfl|⟨hy,hne⟩)
     ·exact ⟨j,by rw [Array.getElem?_modify,if_pos rfl,hj];rfl⟩
     ·obtain ⟨i,hi⟩:=List.mem_iff_getElem?.1 hy;have hi':ents[i]? =some y:=by simpa using hi
      refine ⟨i,?_⟩;rw [Array.getElem?_modify,if_neg,hi'];rintro rfl;rw [hj] at hi';cases hi';exact hne f3
   constructor
   ·rintro (⟨rfl,rfl⟩|⟨hne,hs⟩)
    ·exact ⟨_,(hmem _).2 (.inl rfl),rfl,rfl⟩
    ·obtain ⟨y,hy,rfl,rfl⟩:=(h4 _ _).1 hs;exact ⟨y,(hmem _).2 (.inr ⟨hy,hne⟩),rfl,rfl⟩
   ·rintro ⟨y,hy,rfl,rfl⟩;rcases (hmem _).1 hy with rfl|⟨hy,hne⟩
    ·exact .inl ⟨rfl,rfl⟩
    ·exact .inr ⟨hne,(h4 _ _).2 ⟨y,hy,rfl,rfl⟩⟩
theorem C_w {ents:Array MapEntry}{cl j:Nat}{e':MapEntry}(h2:MapKept.Stamped ents cl)(f2:ents.toList[j]? =some e')(y:MapEntry):y∈(ents.eraseIdxIfInBounds j).toList↔y∈ents.toList/\y.key≠e'.key:=by
 have hj:j<ents.size:=by simpa using (List.getElem?_eq_some_iff.1 f2).1
 have e1:(ents.eraseIdxIfInBounds j).toList=ents.toList.eraseIdx j:=by
  unfold Array.eraseIdxIfInBounds;rw [dif_pos hj,Array.toList_eraseIdx]
 rw [e1];have hn:=h2.2.2;have hk:∀ y∈ents.toList,y.key=e'.key->y=e':=fun y hy h=>z_a h2 hy (mg_ f2) h;clear e1 hj;generalize ents.toList=l at *;induction l generalizing j with
 | nil=>simp at f2
 | cons z l ih=>
  simp only [List.map_cons,List.nodup_cons] at hn;cases j with
  | zero=>
   obtain rfl:z=e':=by simpa using f2
   simp only [List.eraseIdx_cons_zero,mc_];constructor
   ·exact fun hy=>⟨.inr hy,fun he=>hn.1 (he▸List.mem_map_of_mem hy)⟩
   ·rintro ⟨rfl|hy,hne⟩
    ·exact absurd rfl hne
    ·exact hy
  | succ j=>
   have f2:l[j]? =some e':=by simpa using f2
   rw [List.eraseIdx_cons_succ];refine (mc_.trans (or_congr Iff.rfl (ih f2 hn.2 (fun y hy h=>hk y (List.mem_cons_of_mem _ hy) h)))).trans ?_;rw [mc_];constructor
   ·rintro (rfl|⟨hy,hne⟩)
    ·exact ⟨.inl rfl,fun he=>hn.1 (he▸List.mem_map_of_mem (mg_ f2))⟩
    ·exact ⟨.inr hy,hne⟩
   ·rintro ⟨rfl|hy,hne⟩
    ·exact .inl rfl
    ·exact .inr ⟨hy,hne⟩
theorem z_I {ty:TypeId}{fs:Array Bool}(hu:P.underlying t=some (.map kt e))(hkt:P.underlying kt=some d)(hk:MapKept.IsKey d u)(hm:GMap (MapKept.IsKey d) w b S):
  ∃ w',(∃ r,(Go.builtin .delete #[t,kt] ty fs #[.map (some b),u]).run P w=.ok (.value r) w')/\GMap (MapKept.IsKey d) w' b (fun k x=>k≠u/\S k x)/\Ext (fun k=>k=b) w w'/\
   (∀ ents cl,objAt w b=some (.map ents cl)->∃ ents',objAt w' b=some (.map ents' cl)/\MapKept.Stamped ents' cl/\∀ y,y∈ents'.toList↔y∈ents.toList/\y.key≠u):=by
 obtain ⟨ents,cl,h1,h2,h3,h4⟩:=hm;have hb:w.heap[b]? =some (.map ents cl):=h1;have hlt:b<w.heap.size:=a_3 h1;have hck:∀ em,(Instr.checkKey em 10000 kt u).run P w=.ok () w:=fun em=>MapKept.run_checkKey hkt hk em 9999;have fin:∀ (ents':Array MapEntry),MapKept.Stamped ents' cl->(∀ y,y∈ents'.toList↔y∈ents.toList/\y.key≠u)->(∃ r,(Go.builtin .delete #[t,kt] ty fs #[.map (some b),u]).run P w=.ok (.value r) { w with heap:=w.heap.setIfInBounds b (.map ents' cl)})->_:=fun ents' hs hmem hrun=>
  (⟨{ w with heap:=w.heap.setIfInBounds b (.map ents' cl)},hrun,⟨ents',cl,A_C hlt _,hs,fun y hy=>h3 y ((hmem y).1 hy).1,fun k x=>by
   constructor
   ·rintro ⟨hne,hs⟩;obtain ⟨y,hy,rfl,rfl⟩:=(h4 _ _).1 hs;exact ⟨y,(hmem y).2 ⟨hy,hne⟩,rfl,rfl⟩
   ·rintro ⟨y,hy,rfl,rfl⟩;have:=(hmem y).1 hy;exact ⟨this.2,(h4 _ _).2 ⟨y,this.1,rfl,rfl⟩⟩⟩,A_l _,fun ents2 cl2 he=>by
   rw [h1] at he;cases he;exact ⟨ents',A_C hlt _,hs,hmem⟩⟩:∃ w',(∃ r,(Go.builtin .delete #[t,kt] ty fs #[.map (some b),u]).run P w=.ok (.value r) w')/\GMap (MapKept.IsKey d) w' b (fun k x=>k≠u/\S k x)/\Ext (fun k=>k=b) w w'/\
   (∀ ents cl,objAt w b=some (.map ents cl)->∃ ents',objAt w' b=some (.map ents' cl)/\MapKept.Stamped ents' cl/\∀ y,y∈ents'.toList↔y∈ents.toList/\y.key≠u))
 rcases MapKept.findNow_spec hk ents.toList 0 h3 with ⟨f1,f2⟩|⟨j,e',f1,f2,f3⟩
 ·refine fin ents h2 (fun y=>⟨fun hy=>⟨hy,f2 y hy⟩,fun h=>h.1⟩) ⟨.tuple #[],?_⟩;simp [Go.builtin,Builtin.delete_,Sem.run_bind,run_underlying hu,getObj,setObj,Sem.run,hb,hck,MapKept.run_findKey hkt f1,Result.andThen]
 ·refine fin (ents.eraseIdxIfInBounds j) (MapKept.stamped_erase h2 _) (fun y=>by rw [C_w h2 f2,f3]) ⟨.tuple #[],?_⟩;simp [Go.builtin,Builtin.delete_,Sem.run_bind,run_underlying hu,getObj,setObj,Sem.run,hb,hck,MapKept.run_findKey hkt f1,Result.andThen]
end
def GIt (K:Value->Prop)(w:World)(r b:Nat)(S R:Value->Value->Prop)(n:Nat):Prop:=
 ∃ (ents:Array MapEntry) (cl c0:Nat) (seen:Array Nat),objAt w b=some (.map ents cl)/\MapKept.Stamped ents cl/\(∀ e∈ents.toList,K e.key)/\(∀ k v,S k v↔∃ e∈ents.toList,e.key=k/\e.val=v)/\
  objAt w r=some (.mapIter (some b) cl seen c0)/\cl<=c0/\(∀ k v,R k v↔∃ e∈(leftOf ents seen).toList,e.key=k/\e.val=v)/\(leftOf ents seen).size=n
theorem x_2 {ents:Array MapEntry}{seen:Array Nat}{e:MapEntry}:e∈(leftOf ents seen).toList↔e∈ents.toList/\e.born∉seen.toList:=by
 unfold leftOf;simp only [Array.toList_filter,List.mem_filter,Bool.not_eq_true',Array.contains_eq_mem,decide_eq_false_iff_not];simp
section
variable {K:Value->Prop} {r b:Nat} {S R:Value->Value->Prop} {n:Nat} {w:World}
theorem GIt.map (h:GIt K w r b S R n):GMap K w b S:=by
 obtain ⟨ents,cl,c0,seen,h1,h2,h3,h4,-⟩:=h;exact ⟨ents,cl,h1,h2,h3,h4⟩
theorem GIt.lt (h:GIt K w r b S R n):r<w.heap.size:=by
 obtain ⟨ents,cl,c0,seen,-, -, -, -, h5,-⟩:=h;exact a_3 h5
theorem GIt.ne (h:GIt K w r b S R n):r≠b:=by
 obtain ⟨ents,cl,c0,seen,h1,-, -, -, h5,-⟩:=h;rintro rfl;rw [h1] at h5;cases h5
theorem GIt.ext {X:Nat->Prop}{w':World}(h:GIt K w r b S R n)(hx:Ext X w w')(hb:¬ X b)(hr:¬ X r):GIt K w' r b S R n:=by
 obtain ⟨ents,cl,c0,seen,h1,h2,h3,h4,h5,h6⟩:=h;exact ⟨ents,cl,c0,seen,hx.old b _ hb h1,h2,h3,h4,hx.old r _ hr h5,h6⟩
theorem GIt.sub (h:GIt K w r b S R n){k v:Value}(hr:R k v):S k v:=by
 obtain ⟨ents,cl,c0,seen,h1,h2,h3,h4,h5,h6,h7,h8⟩:=h;obtain ⟨e,he,q⟩:=(h7 _ _).1 hr;exact (h4 _ _).2 ⟨e,(x_2.1 he).1,q⟩
variable {P:Program} {t kt e:TypeId}
theorem C_d (hu:P.underlying t=some (.map kt e))(hm:GMap K w b S):
  ∃ w' n,(Instr.range t (.map (some b))).run P w=.ok (.pointer (some (adr w.heap.size))) w'/\GIt K w' w.heap.size b S S n/\EF w w':=by
 obtain ⟨ents,cl,h1,h2,h3,h4⟩:=hm;have hb:w.heap[b]? =some (.map ents cl):=h1;have x:EF w (w.alloc (.mapIter (some b) cl #[] cl)):=(Ext.refl w).alloc _;refine ⟨w.alloc (.mapIter (some b) cl #[] cl),_,?_,⟨ents,cl,cl,#[],x.old b _ id h1,h2,h3,h4,by rw [b_R,if_pos rfl],Nat.le_refl _,fun k v=>?_,rfl⟩,x⟩
 ·simp only [Instr.range,Sem.run_bind,run_underlying hu,Result.andThen_ok,getObj,Sem.run,hb];rfl
 ·rw [h4];simp only [x_2];simp
theorem GIt.next (h:GIt K w r b S R n)(ty:TypeId):
  ((Instr.next (.pointer (some (adr r))) false ty).run P w=.ok (.tuple #[.bool false]) w/\∀ k v,¬ R k v)∨
  ∃ (k v:Value) (w':World) (n':Nat),R k v/\n'<n/\(Instr.next (.pointer (some (adr r))) false ty).run P w=.ok (.tuple #[.bool true,k,v]) w'/\GIt K w' r b S (fun k' v'=>k'≠k/\R k' v') n'/\Ext (fun k=>k=r) w w'/\
   (Instr.entry (.pointer (some (adr r)))).run P w'=.ok (.tuple #[k,v]) w':=by
 have hne:=h.ne;obtain ⟨ents,cl,c0,seen,h1,h2,h3,h4,h5,h6,h7,h8⟩:=h;have hb:w.heap[b]? =some (.map ents cl):=h1;have hr:w.heap[r]? =some (.mapIter (some b) cl seen c0):=h5;rcases run_next_at (P:=P) w ty r b cl c0 seen ents cl hr hb h2.1 h6 with ⟨g1,g2⟩|⟨e,he,w1,hw1,g2⟩
 ·refine .inl ⟨g2,fun k v hk=>?_⟩;obtain ⟨e,he,-⟩:=(h7 _ _).1 hk;have:(leftOf ents seen).toList=[]:=List.eq_nil_of_length_eq_zero (by simpa using g1);rw [this] at he;cases he
 ·have hel:=x_2.1 he;have hx1:EF w w1:=by
   rcases hw1 with rfl|rfl
   ·exact Ext.refl _
   ·exact (Ext.refl w).drew
  have hr1:w1.heap[r]? =some (.mapIter (some b) cl seen c0):=by rcases hw1 with rfl|rfl<;>exact hr
  have hb1:w1.heap[b]? =some (.map ents cl):=by rcases hw1 with rfl|rfl<;>exact hb
  have hset:Ext (fun k=>k=r) w1 (ChangeMaps.setBlock w1 r (.mapIter (some b) cl (seen.push e.born) cl)):=
   ⟨fun k o' hk ho=>by simp only [ChangeMaps.setBlock,objAt,Array.getElem?_setIfInBounds];rw [if_neg (fun e=>hk e.symm)];exact ho,by simp [ChangeMaps.setBlock],rfl,rfl⟩
  have hrl:r<w1.heap.size:=a_3 (b:=r) hr1;have hr2:objAt (ChangeMaps.setBlock w1 r (.mapIter (some b) cl (seen.push e.born) cl)) r=some (.mapIter (some b) cl (seen.push e.born) cl):=by simp [ChangeMaps.setBlock,objAt,hrl]
  have hb2:objAt (ChangeMaps.setBlock w1 r (.mapIter (some b) cl (seen.push e.born) cl)) b=some (.map ents cl):=hset.old b _ (fun e=>hne e.symm) hb1;have hl:∀ y,y∈(leftOf ents (seen.push e.born)).toList↔y∈(leftOf ents seen).toList/\y.key≠e.key:=fun y=>by
   rw [x_2,x_2,Array.toList_push,ma_,List.mem_singleton];constructor
   ·rintro ⟨hy,hn⟩;refine ⟨⟨hy,fun h=>hn (.inl h)⟩,fun hk=>hn (.inr ?_)⟩;rw [z_a h2 hy hel.1 hk]
   ·rintro ⟨⟨hy,hn⟩,hk⟩;refine ⟨hy,?_⟩;rintro (h|h)
    ·exact hn h
    ·refine hk ?_;have:y=e:=by
      have hnd:=h2.2.1;obtain ⟨i,hi⟩:=List.mem_iff_getElem?.1 hy;obtain ⟨j,hj⟩:=List.mem_iff_getElem?.1 hel.1;have i1:(ents.toList.map (·.born))[i]? =some y.born:=by rw [List.getElem?_map,hi];rfl
      have i2:(ents.toList.map (·.born))[j]? =some y.born:=by rw [List.getElem?_map,hj,h];rfl
      have:=(List.getElem?_inj (List.getElem?_eq_some_iff.1 i1).1 hnd).1 (i1.trans i2.symm);rw [this,hj] at hi;exact (Option.some.inj hi).symm
     rw [this]
  refine .inr ⟨e.key,e.val,_,_,(h7 _ _).2 ⟨e,he,rfl,rfl⟩,?_,g2,⟨ents,cl,cl,seen.push e.born,hb2,h2,h3,h4,hr2,Nat.le_refl _,fun k v=>?_,rfl⟩,(hx1.mono fun _ _ e=>e.elim).trans hset fun _ _ e=>e,
   run_entry_at (P:=P) (ChangeMaps.setBlock w1 r (.mapIter (some b) cl (seen.push e.born) cl)) r b cl seen ents cl e hr2 hb2 hel.1 h2.2.1⟩
  ·rw [<- h8];have hsub:(leftOf ents (seen.push e.born)).toList.Sublist (leftOf ents seen).toList:=by
    have e1:(leftOf ents (seen.push e.born)).toList=(leftOf ents seen).toList.filter fun y=>decide (y.born≠e.born):=by
     unfold leftOf;simp only [Array.toList_filter,List.filter_filter];congr 1;funext y;simp [Array.contains_eq_mem];by_cases h1:y.born=e.born<;>by_cases h2:y.born∈seen<;>simp [h1,h2]
    rw [e1];exact List.filter_sublist
   have hlt:(leftOf ents (seen.push e.born)).toList.length<(leftOf ents seen).toList.length:=by
    refine Nat.lt_of_le_of_ne hsub.length_le fun hh=>?_;have:=hsub.eq_of_length hh;have hm:=(hl e).1 (by rw [this];exact he);exact hm.2 rfl
   simpa using hlt
  ·constructor
   ·rintro ⟨hk,hR⟩;obtain ⟨y,hy,rfl,rfl⟩:=(h7 _ _).1 hR;exact ⟨y,(hl y).2 ⟨hy,hk⟩,rfl,rfl⟩
   ·rintro ⟨y,hy,rfl,rfl⟩;have:=(hl y).1 hy;exact ⟨this.2,(h7 _ _).2 ⟨y,this.1,rfl,rfl⟩⟩
theorem GIt.delete {d:TypeDesc}{u:Value}{ty:TypeId}{fs:Array Bool}(h:GIt (MapKept.IsKey d) w r b S R n)(hu:P.underlying t=some (.map kt e))(hkt:P.underlying kt=some d)(hk:MapKept.IsKey d u):
  ∃ w' n',n'<=n/\(∃ r,(Go.builtin .delete #[t,kt] ty fs #[.map (some b),u]).run P w=.ok (.value r) w')/\GIt (MapKept.IsKey d) w' r b (fun k x=>k≠u/\S k x) (fun k x=>k≠u/\R k x) n'/\Ext (fun k=>k=b) w w':=by
 obtain ⟨w',hrun,hm',hx,hents⟩:=z_I (ty:=ty) (fs:=fs) hu hkt hk h.map;have hne:=h.ne;obtain ⟨ents,cl,c0,seen,h1,h2,h3,h4,h5,h6,h7,h8⟩:=h;obtain ⟨ents',g1,g2,g3⟩:=hents ents cl h1;have hsize:(leftOf ents' seen).size<=(leftOf ents seen).size:=by
  have n1:(leftOf ents' seen).toList.Nodup:=by
   unfold leftOf;rw [Array.toList_filter];refine List.Pairwise.filter _ ?_;exact List.Pairwise.of_map (·.born) (fun a b h e=>h (e▸rfl)) g2.2.1
  have s1:(leftOf ents' seen).toList ⊆ (leftOf ents seen).toList:=fun y hy=>by
   rw [x_2] at hy ⊢;exact ⟨((g3 y).1 hy.1).1,hy.2⟩
  have:=List.Nodup.length_le_of_subset n1 s1;simpa using this
 refine ⟨w',(leftOf ents' seen).size,by omega,hrun,⟨ents',cl,c0,seen,g1,g2,fun y hy=>h3 y ((g3 y).1 hy).1,fun k v=>?_,hx.old r _ hne h5,h6,fun k v=>?_,rfl⟩,hx⟩
 ·show (k≠u/\S k v)↔_;rw [h4];constructor
  ·rintro ⟨hk,y,hy,rfl,rfl⟩;exact ⟨y,(g3 y).2 ⟨hy,hk⟩,rfl,rfl⟩
  ·rintro ⟨y,hy,rfl,rfl⟩;have:=(g3 y).1 hy;exact ⟨this.2,y,this.1,rfl,rfl⟩
 ·show (k≠u/\R k v)↔_;rw [h7];simp only [x_2];constructor
  ·rintro ⟨hk,y,⟨hy,hs⟩,rfl,rfl⟩;exact ⟨y,⟨(g3 y).2 ⟨hy,hk⟩,hs⟩,rfl,rfl⟩
  ·rintro ⟨y,⟨hy,hs⟩,rfl,rfl⟩;have:=(g3 y).1 hy;exact ⟨this.2,y,⟨this.1,hs⟩,rfl,rfl⟩
end
abbrev mkd (m:List Bool)(i:Nat):Prop:=m[i]? =some true
theorem x_b:∀ (m l:List Bool),(joinM m l).length=m.length
 | [],_=>rfl
 | _::_,[]=>rfl
 | x::m,y::l=>by simp [joinM,x_b m l]
theorem x_s:∀ {m l:List Bool} {i:Nat},m.length=l.length->(mkd (joinM m l) i↔mkd m i∨mkd l i)
 | [],l,i,h=>by
  obtain rfl:l=[]:=List.eq_nil_of_length_eq_zero (by simpa using h.symm);simp [joinM]
 | x::m,[],i,h=>by simp at h
 | x::m,y::l,i,h=>by
  cases i with
  | zero=>simp [mkd,joinM]
  | succ i=>simpa [mkd,joinM] using x_s (m:=m) (l:=l) (i:=i) (by simpa using h)
theorem x_H {α:Type}{l:List α}{i:Nat}:¬ mkd (l.map fun _=>false) i:=by
 intro h;rw [mkd,List.getElem?_map] at h;cases e:l[i]? <;>simp [e] at h
theorem D_r {α:Type}{l:List α}{i:Nat}:mkd (l.map fun _=>true) i↔i<l.length:=by
 rw [mkd,List.getElem?_map];cases e:l[i]? with
 | none=>simpa using e
 | some y=>simpa using (List.getElem?_eq_some_iff.1 e).1
section
variable {J:JJ}
def LenJ (J:JJ):Prop:=∀ n v,(J n v).2.length=v.xs.length
theorem x_B (v:JV):∀ (l:List Int) (st:Nat × List Bool),(w_7 J v l st).2.length=st.2.length
 | [],st=>rfl
 | n::l,st=>by rw [w_7,x_B v l,x_b]
theorem A_q (hJ:LenJ J){v:JV}{i:Nat}:∀ {l:List Int} {st:Nat × List Bool},st.2.length=v.xs.length->(mkd (w_7 J v l st).2 i↔mkd st.2 i∨∃ n∈l,mkd (J n v).2 i)
 | [],st,_=>by simp [w_7]
 | n::l,st,h=>by
  rw [w_7,A_q hJ (by rw [x_b];exact h),x_s (by rw [h,hJ])];simp [or_assoc]
theorem A_N {v:JV}:∀ {l:List Int} {st:Nat × List Bool},(w_7 J v l st).1=st.1+l.countP fun n=>(J n v).1
 | [],st=>by simp [w_7]
 | n::l,st=>by
  rw [w_7,A_N,List.countP_cons];split<;>simp only [*]<;>omega
theorem z_n (v:JV):∀ (l:List Int) (st:Bool × List Bool),(jdeps J v l st).2.length=st.2.length
 | [],st=>rfl
 | n::l,st=>by rw [jdeps,z_n v l,x_b]
theorem B_E (hJ:LenJ J){v:JV}{i:Nat}:∀ {l:List Int} {st:Bool × List Bool},st.2.length=v.xs.length->(mkd (jdeps J v l st).2 i↔mkd st.2 i∨∃ n∈l,mkd (J n v).2 i)
 | [],st,_=>by simp [jdeps]
 | n::l,st,h=>by
  rw [jdeps,B_E hJ (by rw [x_b];exact h),x_s (by rw [h,hJ])];simp [or_assoc]
theorem B_F {v:JV}:∀ {l:List Int} {st:Bool × List Bool},(jdeps J v l st).1=(st.1&&l.all fun n=>(J n v).1)
 | [],st=>by simp [jdeps]
 | n::l,st=>by
  rw [jdeps,B_F];simp [Bool.and_assoc]
def y_w (J:JJ)(x:JN)(v:JV):Bool:=
 (decide (x.nt<=0)|| !(J x.nt v).1)&&(x.allOf.all fun n=>(J n v).1)&&(x.anyOf.isEmpty||x.anyOf.any fun n=>(J n v).1)&&(x.oneOf.isEmpty||decide (x.oneOf.countP (fun n=>(J n v).1)=1))&&
  (decide (x.iff<=0)||if (J x.iff v).1 then decide (x.thn=0)||(J x.thn v).1 else decide (x.els=0)||(J x.els v).1)
def condM (J:JJ)(x:JN)(v:JV)(i:Nat):Prop:=
 (∃ n∈x.allOf,mkd (J n v).2 i)∨(∃ n∈x.anyOf,mkd (J n v).2 i)∨(∃ n∈x.oneOf,mkd (J n v).2 i)∨
  (x.iff>0/\(mkd (J x.iff v).2 i∨((J x.iff v).1=true/\x.thn≠0/\mkd (J x.thn v).2 i)∨((J x.iff v).1=false/\x.els≠0/\mkd (J x.els v).2 i)))
def refOK (J:JJ)(x:JN)(v:JV):Bool:=decide (x.ref<=0)||(J x.ref v).1
def refM (J:JJ)(x:JN)(v:JV)(i:Nat):Prop:=x.ref>0/\mkd (J x.ref v).2 i
def depsN (x:JN)(v:JV):List Int:=if v.k=5 then (lasts JPr.name x.deps).filterMap fun q=>if (memb v.ns q.name).isSome then some q.node else none else []
theorem z_o (hJ:LenJ J){x:JN}{v:JV}{m:List Bool}(h:m.length=v.xs.length)(hd:x.dep=[]):
  (x_e J x v m).1=(refOK J x v&&y_w J x v&&(depsN x v).all fun n=>(J n v).1)/\(x_e J x v m).2.length=v.xs.length/\
   ∀ i,mkd (x_e J x v m).2 i↔mkd m i∨refM J x v i∨condM J x v i∨∃ n∈depsN x v,mkd (J n v).2 i:=by
 unfold x_e;dsimp only;simp only [hd,lasts,List.filterMap_nil,List.filter_nil,ite_self,jdeps,List.all_nil,Bool.and_true];obtain ⟨r,hr⟩:∃ r,r=if x.ref>0 then ((J x.ref v).1,joinM m (J x.ref v).2) else (true,m):=⟨_,rfl⟩
 rw [<- hr];have r1:r.1=refOK J x v:=by
  rw [hr,refOK];split
  ·rw [decide_eq_false (by omega),Bool.false_or]
  ·rw [decide_eq_true (by omega),Bool.true_or]
 have r2:r.2.length=v.xs.length:=by
  rw [hr];split
  ·rw [x_b,h]
  ·exact h
 have r3:∀ i,mkd r.2 i↔mkd m i∨refM J x v i:=fun i=>by
  rw [hr,refM];split
  ·rw [x_s (by rw [h,hJ])];simp [*]
  ·simp [*]
 clear hr;obtain ⟨a,ha⟩:∃ a,a=w_7 J v x.allOf (0,r.2):=⟨_,rfl⟩;rw [<- ha];have a1:a.1=x.allOf.countP fun n=>(J n v).1:=by rw [ha,A_N,Nat.zero_add]
 have a2:a.2.length=v.xs.length:=by rw [ha,x_B,r2]
 have a3:∀ i,mkd a.2 i↔mkd r.2 i∨∃ n∈x.allOf,mkd (J n v).2 i:=fun i=>by rw [ha];exact A_q hJ (st:=(0,r.2)) r2
 clear ha;obtain ⟨b,hb⟩:∃ b,b=w_7 J v x.anyOf (0,a.2):=⟨_,rfl⟩;rw [<- hb];have b1:b.1=x.anyOf.countP fun n=>(J n v).1:=by rw [hb,A_N,Nat.zero_add]
 have b2:b.2.length=v.xs.length:=by rw [hb,x_B,a2]
 have b3:∀ i,mkd b.2 i↔mkd a.2 i∨∃ n∈x.anyOf,mkd (J n v).2 i:=fun i=>by rw [hb];exact A_q hJ (st:=(0,a.2)) a2
 clear hb;obtain ⟨c,hc⟩:∃ c,c=w_7 J v x.oneOf (0,b.2):=⟨_,rfl⟩;rw [<- hc];have c1:c.1=x.oneOf.countP fun n=>(J n v).1:=by rw [hc,A_N,Nat.zero_add]
 have c2:c.2.length=v.xs.length:=by rw [hc,x_B,b2]
 have c3:∀ i,mkd c.2 i↔mkd b.2 i∨∃ n∈x.oneOf,mkd (J n v).2 i:=fun i=>by rw [hc];exact A_q hJ (st:=(0,b.2)) b2
 clear hc;obtain ⟨e,he⟩:∃ e,e=if x.iff>0 then jcond J x v c.2 else (true,c.2):=⟨_,rfl⟩
 rw [<- he];have e1:e.1=(decide (x.iff<=0)||if (J x.iff v).1 then decide (x.thn=0)||(J x.thn v).1 else decide (x.els=0)||(J x.els v).1):=by
  rw [he,jcond];by_cases h1:x.iff>0
  ·rw [if_pos h1,decide_eq_false (by omega),Bool.false_or];by_cases h2:(J x.iff v).1=true
   ·by_cases h3:x.thn=0<;>simp [h2,h3]
   ·by_cases h3:x.els=0<;>simp [h2,h3]
  ·rw [if_neg h1,decide_eq_true (by omega),Bool.true_or]
 have e2:e.2.length=v.xs.length:=by
  rw [he,jcond];by_cases h1:x.iff>0
  ·rw [if_pos h1];by_cases h2:(J x.iff v).1=true
   ·by_cases h3:x.thn=0<;>simp [h2,h3,x_b,c2]
   ·by_cases h3:x.els=0<;>simp [h2,h3,x_b,c2]
  ·rw [if_neg h1,c2]
 have e3:∀ i,mkd e.2 i↔mkd c.2 i∨(x.iff>0/\(mkd (J x.iff v).2 i∨((J x.iff v).1=true/\x.thn≠0/\mkd (J x.thn v).2 i)∨((J x.iff v).1=false/\x.els≠0/\mkd (J x.els v).2 i))):=fun i=>by
  have j0:=x_s (m:=c.2) (l:=(J x.iff v).2) (i:=i) (by rw [c2,hJ]);have j1:∀ n,mkd (joinM (joinM c.2 (J x.iff v).2) (J n v).2) i↔_:=fun n=>x_s (m:=joinM c.2 (J x.iff v).2) (l:=(J n v).2) (i:=i) (by rw [x_b,c2,hJ]);rw [he,jcond];by_cases h1:x.iff>0
  ·rw [if_pos h1];by_cases h2:(J x.iff v).1=true
   ·by_cases h3:x.thn=0<;>simp only [h2,h3,if_true,if_false,j0,j1]<;>simp [h1,h3,or_assoc]
   ·have h2:(J x.iff v).1=false:=by simpa using h2
    by_cases h3:x.els=0<;>simp only [h2,h3,if_true,if_false,j0,j1,Bool.false_eq_true]<;>simp [h1,h3,or_assoc]
  ·rw [if_neg h1];simp [h1]
 clear he;obtain ⟨f,hf⟩:∃ f,f=if v.k=5 then jdeps J v ((lasts JPr.name x.deps).filterMap fun q=>if (memb v.ns q.name).isSome then some q.node else none) (true,e.2) else (true,e.2):=⟨_,rfl⟩
 rw [<- hf];have f1:f.1=(depsN x v).all fun n=>(J n v).1:=by
  rw [hf,depsN];split
  ·rw [B_F,Bool.true_and]
  ·rfl
 have f2:f.2.length=v.xs.length:=by
  rw [hf];split
  ·rw [z_n,e2]
  ·exact e2
 have f3:∀ i,mkd f.2 i↔mkd e.2 i∨∃ n∈depsN x v,mkd (J n v).2 i:=fun i=>by
  rw [hf,depsN];split
  ·exact B_E hJ (st:=(true,e.2)) e2
  ·simp
 clear hf;refine ⟨?_,f2,fun i=>?_⟩
 ·have g1:decide (a.1=x.allOf.length)=x.allOf.all fun n=>(J n v).1:=by
   rw [a1,Bool.eq_iff_iff,decide_eq_true_iff,List.countP_eq_length,List.all_eq_true]
  have g2:decide (b.1>=1)=x.anyOf.any fun n=>(J n v).1:=by
   rw [b1,Bool.eq_iff_iff,decide_eq_true_iff,List.any_eq_true];exact List.countP_pos_iff
  rw [y_w,g1,g2,c1,r1,e1,f1];generalize refOK J x v=p1;generalize (x.allOf.all fun n=>(J n v).1)=p2;generalize (x.anyOf.isEmpty||x.anyOf.any fun n=>(J n v).1)=p3;generalize (x.oneOf.isEmpty||decide (x.oneOf.countP (fun n=>(J n v).1)=1))=p4;generalize (decide (x.nt<=0)|| !(J x.nt v).1)=p5;cases p1<;>cases p2<;>cases p3<;>cases p4<;>cases p5<;>simp
 ·rw [f3,e3,c3,b3,a3,r3,condM];simp only [or_assoc]
end
section
variable {J:JJ}
def arrOK (d:Int)(J:JJ)(x:JN)(v:JV):Bool:=
 let least:JLim:=if x.minC.is then x.minC else ⟨true,1⟩
 bound v.xs.length x.minI x.maxI&& !(x.uniq&&twins v.xs)&&(v.xs.zipIdx.all fun y=>(jelem d J x y.2 y.1).1)&&(decide (x.cont<=0)||bound ((v.xs.map fun y=>(J x.cont y).1).filter id).length least x.maxC)
def arrM (d:Int)(J:JJ)(x:JN)(v:JV)(i:Nat):Prop:=∃ y,v.xs[i]? =some y/\((jelem d J x i y).2=true∨(x.cont>0/\d>=2020/\(J x.cont y).1=true))
theorem z_m {d:Int}{x:JN}{v:JV}{m:List Bool}(h:m.length=v.xs.length):
  ((x_8 d J x v m).1=true↔arrOK d J x v=true/\(x.restI>0->∀ (i:Nat) y,v.xs[i]? =some y->¬ (mkd m i∨arrM d J x v i)->(J x.restI y).1=true))/\(x_8 d J x v m).2.length=v.xs.length/\
   ∀ i,i<v.xs.length->(mkd (x_8 d J x v m).2 i↔mkd m i∨arrM d J x v i∨x.restI>0):=by
 unfold x_8;dsimp only;have hes:(List.map (fun y=>jelem d J x y.2 y.1) v.xs.zipIdx).all (·.1)=v.xs.zipIdx.all fun y=>(jelem d J x y.2 y.1).1:=by
  rw [List.all_map];rfl
 have l1:(List.map (·.2) (List.map (fun y=>jelem d J x y.2 y.1) v.xs.zipIdx)).length=v.xs.length:=by simp
 have k1:∀ i,mkd (List.map (·.2) (List.map (fun y=>jelem d J x y.2 y.1) v.xs.zipIdx)) i↔∃ y,v.xs[i]? =some y/\(jelem d J x i y).2=true:=fun i=>by
  simp only [mkd,List.getElem?_map,List.getElem?_zipIdx];cases v.xs[i]? <;>simp
 obtain ⟨e,he⟩:∃ e,e=List.map (·.2) (List.map (fun y=>jelem d J x y.2 y.1) v.xs.zipIdx):=⟨_,rfl⟩;rw [<- he] at l1 k1 ⊢;rw [hes];clear he;have k2:∀ i,mkd (v.xs.map fun y=>(J x.cont y).1) i↔∃ y,v.xs[i]? =some y/\(J x.cont y).1=true:=fun i=>by
  simp only [mkd,List.getElem?_map];cases v.xs[i]? <;>simp
 obtain ⟨m2,hm2⟩:∃ m2,m2=if x.cont>0/\d>=2020 then joinM (joinM m e) (v.xs.map fun y=>(J x.cont y).1) else joinM m e:=⟨_,rfl⟩
 rw [<- hm2];have m2l:m2.length=v.xs.length:=by
  rw [hm2];split<;>simp only [x_b,h]
 have m2k:∀ i,mkd m2 i↔mkd m i∨arrM d J x v i:=fun i=>by
  rw [hm2,arrM];split
  ·rename_i hc;rw [x_s (by simp [x_b,h]),x_s (by rw [h,l1]),k1,k2];simp only [hc.1,hc.2,true_and,or_assoc];constructor
   ·rintro (h|⟨y,h1,h2⟩|⟨y,h1,h2⟩)
    ·exact .inl h
    ·exact .inr ⟨y,h1,.inl h2⟩
    ·exact .inr ⟨y,h1,.inr h2⟩
   ·rintro (h|⟨y,h1,h2|h2⟩)
    ·exact .inl h
    ·exact .inr (.inl ⟨y,h1,h2⟩)
    ·exact .inr (.inr ⟨y,h1,h2⟩)
  ·rename_i hc;rw [x_s (by rw [h,l1]),k1];constructor
   ·rintro (h|⟨y,h1,h2⟩)
    ·exact .inl h
    ·exact .inr ⟨y,h1,.inl h2⟩
   ·rintro (h|⟨y,h1,h2|⟨h2,h3,-⟩⟩)
    ·exact .inl h
    ·exact .inr ⟨y,h1,h2⟩
    ·exact absurd ⟨h2,h3⟩ hc
 clear hm2;have hok:(bound v.xs.length x.minI x.maxI&& !(x.uniq&&twins v.xs)&&(v.xs.zipIdx.all fun y=>(jelem d J x y.2 y.1).1)&&(decide (x.cont<=0)||bound ((v.xs.map fun y=>(J x.cont y).1).filter id).length (if x.minC.is then x.minC else ⟨true,1⟩) x.maxC))=arrOK d J x v:=rfl;rw [hok];by_cases hr:x.restI>0
 ·simp only [hr,if_true,Bool.and_eq_true,true_imp_iff];refine ⟨⟨fun ⟨h1,h2⟩=>⟨h1,fun i y hy hn=>?_⟩,fun ⟨h1,h2⟩=>⟨h1,List.all_eq_true.2 fun y hy=>?_⟩⟩,by simp [m2l],fun i hi=>?_⟩
  ·have hi:i<m2.length:=by rw [m2l];exact (List.getElem?_eq_some_iff.1 hy).1
   have:=List.all_eq_true.1 h2 (y,m2[i]) (List.mem_iff_getElem?.2 ⟨i,by simp [List.getElem?_zip_eq_some,hy,hi]⟩);simp only [Bool.or_eq_true] at this;rcases this with h3|h3
   ·exact absurd ((m2k i).1 (by rw [mkd,List.getElem?_eq_getElem hi,h3])) hn
   ·exact h3
  ·obtain ⟨i,hi⟩:=List.mem_iff_getElem?.1 hy;rw [List.getElem?_zip_eq_some] at hi;simp only [Bool.or_eq_true];by_cases hn:mkd m2 i
   ·left;rw [mkd,hi.2] at hn;exact Option.some.inj hn
   ·exact .inr (h2 i y.1 hi.1 fun hh=>hn ((m2k i).2 hh))
  ·simp only [or_true,iff_true];exact D_r.2 (by rw [m2l];exact hi)
 ·simp only [hr,if_false,false_imp_iff,and_true,or_false];exact ⟨trivial,m2l,fun i _=>m2k i⟩
theorem x_f {ns:List BA}{i:Nat}:i∈membs ns↔∃ s,ns[i]? =some s/\memb ns s=some i:=by
 simp only [membs,List.mem_filter,List.mem_range];constructor
 ·rintro ⟨h1,h2⟩;cases h:ns[i]? with
  | none=>rw [h] at h2;cases h2
  | some s=>
   rw [h] at h2;exact ⟨s,rfl,by simpa using h2⟩
 ·rintro ⟨s,h1,h2⟩;refine ⟨(List.getElem?_eq_some_iff.1 h1).1,?_⟩;rw [h1];simpa using h2
theorem z_t {ns:List BA}{i j:Nat}(hi:i∈membs ns)(hj:j∈membs ns)(e:ns[i]? =ns[j]?):i=j:=by
 obtain ⟨s,h1,h2⟩:=x_f.1 hi;obtain ⟨u,h3,h4⟩:=x_f.1 hj;rw [h1,h3] at e;obtain rfl:=Option.some.inj e;rw [h2] at h4;exact Option.some.inj h4
theorem x_U (ns:List BA)(s:BA)(m:List Bool):(nameM ns s m).length=m.length:=x_b _ _
theorem z_c {ns:List BA}{s:BA}{m:List Bool}{i:Nat}(h:m.length=ns.length):mkd (nameM ns s m) i↔mkd m i∨ns[i]? =some s:=by
 rw [nameM,x_s (by simpa using h)];simp only [mkd,List.getElem?_map];cases ns[i]? <;>simp
def memOK (J:JJ)(x:JN)(s:BA)(y:JV):Bool:=(decide (x.names<=0)||(J x.names (.mk 3 false 0 s [] [])).1)&&(x_d J x s y).1
def objOK (J:JJ)(x:JN)(v:JV):Prop:=bound (membs v.ns).length x.minP x.maxP=true/\x_T x v=true/\∀ i∈membs v.ns,∀ s y,v.ns[i]? =some s->v.xs[i]? =some y->memOK J x s y=true
def objM (J:JJ)(x:JN)(v:JV)(i:Nat):Prop:=∃ s y,v.ns[i]? =some s/\v.xs[i]? =some y/\(x_d J x s y).2=true
theorem y_G (x:JN)(v:JV):∀ (l:List Nat) (st:Bool × List Bool),(jmems J x v l st).2.length=st.2.length
 | [],st=>rfl
 | i::l,st=>by
  rw [jmems];split
  ·rw [y_G x v l];dsimp only;split
   ·rw [x_U]
   ·rfl
  ·rw [y_G x v l]
theorem A_o {x:JN}{v:JV}:∀ {l:List Nat} {st:Bool × List Bool},((jmems J x v l st).1=true↔st.1=true/\∀ i∈l,∀ s y,v.ns[i]? =some s->v.xs[i]? =some y->memOK J x s y=true)
 | [],st=>by simp [jmems]
 | i::l,st=>by
  rw [jmems];split
  ·rename_i s y hs hy;rw [A_o];simp only [Bool.and_eq_true,mc_,forall_eq_or_imp,hs,hy,Option.some.injEq,memOK];constructor
   ·rintro ⟨⟨⟨h1,h2⟩,h3⟩,h4⟩;refine ⟨h1,?_,h4⟩;rintro _ _ rfl rfl;exact ⟨h2,h3⟩
   ·rintro ⟨h1,h2,h3⟩;exact ⟨⟨⟨h1,(h2 s y rfl rfl).1⟩,(h2 s y rfl rfl).2⟩,h3⟩
  ·rename_i hn;rw [A_o];simp only [mc_,forall_eq_or_imp];constructor
   ·rintro ⟨h1,h2⟩;exact ⟨h1,fun s y hs hy=>absurd hy (hn s y hs),h2⟩
   ·rintro ⟨h1,-, h2⟩;exact ⟨h1,h2⟩
theorem A_n {x:JN}{v:JV}{p:Nat}:∀ {l:List Nat} {st:Bool × List Bool},st.2.length=v.ns.length->(mkd (jmems J x v l st).2 p↔mkd st.2 p∨∃ i∈l,objM J x v i/\v.ns[p]? =v.ns[i]?)
 | [],st,_=>by simp [jmems]
 | i::l,st,h=>by
  rw [jmems];split
  ·rename_i s y hs hy;rw [A_n (by dsimp only;split<;>simp only [x_U,h])];simp only [mc_,or_and_right,exists_or,exists_eq_left];have hi:objM J x v i↔(x_d J x s y).2=true:=by
    constructor
    ·rintro ⟨s',y',h1,h2,h3⟩;rw [hs] at h1;rw [hy] at h2;obtain rfl:=Option.some.inj h1;obtain rfl:=Option.some.inj h2;exact h3
    ·exact fun h3=>⟨s,y,hs,hy,h3⟩
   rw [hi,<- or_assoc];refine or_congr ?_ Iff.rfl;split
   ·rename_i h3;rw [z_c h,hs];simp only [h3,true_and]
   ·rename_i h3;simp only [h3,false_and,or_false,Bool.false_eq_true]
  ·rename_i hn;rw [A_n h];simp only [mc_,or_and_right,exists_or,exists_eq_left];have hi:¬ objM J x v i:=fun ⟨s,y,h1,h2,_⟩=>hn s y h1 h2;simp only [hi,false_and,false_or]
theorem y_e (x:JN)(v:JV):∀ (l:List Nat) (st:Bool × List Bool),(jrest J x v l st).2.length=st.2.length
 | [],st=>rfl
 | i::l,st=>by
  rw [jrest];split
  ·split
   ·rw [y_e x v l]
   ·rw [y_e x v l,x_U]
  ·rw [y_e x v l]
theorem A_p {x:JN}{v:JV}(he:v.ns.length=v.xs.length):∀ {l:List Nat} {st:Bool × List Bool},st.2.length=v.ns.length->(∀ i∈l,i∈membs v.ns)->l.Nodup->
  ((jrest J x v l st).1=true↔st.1=true/\∀ i∈l,∀ y,v.xs[i]? =some y->¬ mkd st.2 i->(J x.restP y).1=true)/\∀ i,i∈membs v.ns->(mkd (jrest J x v l st).2 i↔mkd st.2 i∨i∈l)
 | [],st,_,_,_=>by simp [jrest]
 | i::l,st,h,hm,hn=>by
  have him:=hm i (by simp);have hil:=(List.getElem?_eq_some_iff.1 (x_f.1 him).choose_spec.1).1;obtain ⟨s,hs,-⟩:=x_f.1 him;have hy:v.xs[i]? =some (v.xs[i]'(by omega)):=List.getElem?_eq_getElem (by omega);obtain ⟨y,hy⟩:∃ y,v.xs[i]? =some y:=⟨_,hy⟩;have hn1:=(List.nodup_cons.1 hn);rw [jrest,hs,hy];dsimp only;by_cases hk:st.2[i]? =some true
  ·rw [if_pos hk];obtain ⟨h1,h2⟩:=A_p he h (fun j hj=>hm j (by simp [hj])) hn1.2 (l:=l) (st:=st);refine ⟨h1.trans (and_congr Iff.rfl ?_),fun j hj=>(h2 j hj).trans ?_⟩
   ·simp only [mc_,forall_eq_or_imp];exact ⟨fun h=>⟨fun y _ hc=>absurd hk hc,h⟩,fun h=>h.2⟩
   ·simp only [mc_];constructor
    ·rintro (h|h)
     ·exact .inl h
     ·exact .inr (.inr h)
    ·rintro (h|rfl|h)
     ·exact .inl h
     ·exact .inl hk
     ·exact .inr h
  ·rw [if_neg hk];obtain ⟨h1,h2⟩:=A_p he (st:=(st.1&&(J x.restP y).1,nameM v.ns s st.2)) (by rw [x_U,h]) (fun j hj=>hm j (by simp [hj])) hn1.2 (l:=l);have hne:∀ j∈membs v.ns,v.ns[j]? =some s↔j=i:=fun j hj=>⟨fun e=>z_t hj him (by rw [e,hs]),fun e=>e▸hs⟩;refine ⟨h1.trans ?_,fun j hj=>(h2 j hj).trans ?_⟩
   ·simp only [Bool.and_eq_true,mc_,forall_eq_or_imp,hy,Option.some.injEq,and_assoc];refine and_congr Iff.rfl ⟨fun ⟨a,b⟩=>⟨fun _ e _=>e▸a,fun j hj z hz hc=>b j hj z hz ?_⟩,fun ⟨a,b⟩=>⟨a y rfl hk,fun j hj z hz hc=>b j hj z hz fun hc'=>hc ((z_c h).2 (.inl hc'))⟩⟩;rw [z_c h,hne j (hm j (by simp [hj]))];rintro (h|rfl)
    ·exact hc h
    ·exact hn1.1 hj
   ·rw [z_c h,hne j hj];simp only [mc_,or_assoc]
theorem z_2 {x:JN}{v:JV}{m:List Bool}(he:v.ns.length=v.xs.length)(h:m.length=v.xs.length):
  ((x_w J x v m).1=true↔objOK J x v/\(x.restP>0->∀ i∈membs v.ns,∀ y,v.xs[i]? =some y->¬ (mkd m i∨objM J x v i)->(J x.restP y).1=true))/\(x_w J x v m).2.length=v.xs.length/\
   ∀ i∈membs v.ns,(mkd (x_w J x v m).2 i↔mkd m i∨objM J x v i∨x.restP>0):=by
 have hnd:(membs v.ns).Nodup:=List.Pairwise.filter _ List.nodup_range;have k1:∀ i∈membs v.ns,(mkd (jmems J x v (membs v.ns) (bound (membs v.ns).length x.minP x.maxP&&x_T x v,m)).2 i↔mkd m i∨objM J x v i):=fun i hi=>by
  rw [A_n (by dsimp only;omega)];refine or_congr Iff.rfl ⟨fun ⟨j,hj,ho,e⟩=>?_,fun ho=>⟨i,hi,ho,rfl⟩⟩;rw [z_t hi hj e];exact ho
 have k2:(jmems J x v (membs v.ns) (bound (membs v.ns).length x.minP x.maxP&&x_T x v,m)).1=true↔objOK J x v:=by
  rw [A_o,objOK];simp only [Bool.and_eq_true,and_assoc]
 have k3:(jmems J x v (membs v.ns) (bound (membs v.ns).length x.minP x.maxP&&x_T x v,m)).2.length=v.xs.length:=by rw [y_G,h]
 unfold x_w;dsimp only;generalize jmems J x v (membs v.ns) (bound (membs v.ns).length x.minP x.maxP&&x_T x v,m)=a at k1 k2 k3;by_cases hr:x.restP>0
 ·simp only [hr,if_true,true_imp_iff];obtain ⟨h1,h2⟩:=A_p (J:=J) (x:=x) he (st:=a) (by omega) (fun i hi=>hi) hnd;refine ⟨h1.trans (and_congr k2 ⟨fun h i hi y hy hc=>h i hi y hy fun hk=>hc ((k1 i hi).1 hk),fun h i hi y hy hc=>h i hi y hy fun hk=>hc ((k1 i hi).2 hk)⟩),by rw [y_e,k3],fun i hi=>?_⟩;rw [h2 i hi];simp only [hi,or_true]
 ·simp only [hr,if_false,false_imp_iff,and_true,or_false];exact ⟨k2,k3,k1⟩
end
theorem y_1 {J:JJ}(x:JN)(v:JV)(m:List Bool):(x_e J x v m).2.length=m.length:=by
 have hc:∀ m,(jcond J x v m).2.length=m.length:=fun m=>by
  rw [jcond];by_cases h:(if (J x.iff v).1=true then x.thn else x.els)=0<;>simp [h,x_b]
 unfold x_e;simp [apply_ite Prod.snd,apply_ite List.length,x_b,x_B,z_n,hc]
theorem z_p {J:JJ}(x:JN)(v:JV)(m:List Bool):(x_w J x v m).2.length=m.length:=by
 unfold x_w;dsimp only;split<;>simp [y_G,y_e]
theorem z_4 (d:Int)(s:List JN):∀ f,LenJ (w_2 d s f)
 | 0,n,v=>by simp [w_2]
 | f+1,n,v=>by
  rw [w_2];split
  ·simp
  ·rename_i x _;dsimp only;split
   ·simp
   ·have i2:(x_e (w_2 d s f) x v (v.xs.map fun _=>false)).2.length=v.xs.length:=by rw [y_1];simp
    have g:∀ (c:Bool) (b:Bool × List Bool),b.2.length=v.xs.length->(if c=true then (true,b.2) else (false,v.xs.map fun _=>false)).2.length=v.xs.length:=fun c b h=>by
     split
     ·exact h
     ·simp
    refine g _ _ ?_;split
    ·exact i2
    ·split
     ·exact (z_m i2).2.1
     ·split
      ·rw [z_p,i2]
      ·exact i2
def preM (J:JJ)(x:JN)(v:JV)(i:Nat):Prop:=refM J x v i∨condM J x v i∨∃ n∈depsN x v,mkd (J n v).2 i
def B_G (d:Int)(J:JJ)(x:JN)(v:JV):Prop:=
 (v.k=3->bound (x_c v.t.toList) x.minL x.maxL=true/\tkn v.t x.pat=true/\tkn v.t x.fmt=true)/\
 (v.k=4->arrOK d J x v=true/\(x.restI>0->∀ (i:Nat) y,v.xs[i]? =some y->¬ (preM J x v i∨arrM d J x v i)->(J x.restI y).1=true))/\
 (v.k=5->objOK J x v/\(x.restP>0->∀ i∈membs v.ns,∀ y,v.xs[i]? =some y->¬ (preM J x v i∨objM J x v i)->(J x.restP y).1=true))
theorem D_n {d:Int}{s:List JN}{f:Nat}{n:Int}{x:JN}{v:JV}(hx:s[(n-1).toNat]? =some x)(h0:x.kind=0)(hd:x.dep=[])(hv:v.k=5->v.ns.length=v.xs.length):
  (w_2 d s (f+1) n v).1=true↔x_j x v=true/\refOK (w_2 d s f) x v=true/\y_w (w_2 d s f) x v=true/\(∀ n∈depsN x v,(w_2 d s f n v).1=true)/\B_G d (w_2 d s f) x v:=by
 have hl:=z_4 d s f;obtain ⟨i1,i2,i3⟩:=z_o hl (x:=x) (v:=v) (m:=v.xs.map fun _=>false) (by simp) hd;have i3:∀ i,mkd (x_e (w_2 d s f) x v (v.xs.map fun _=>false)).2 i↔preM (w_2 d s f) x v i:=fun i=>by
  rw [i3,preM];simp only [x_H,false_or]
 rw [w_2,hx];dsimp only;rw [if_neg (by simp [h0])];generalize hJ:w_2 d s f=J at *;generalize x_e J x v (v.xs.map fun _=>false)=a at *;have key:∀ (b:Bool × List Bool),((if (x_j x v&&a.1&&b.1)=true then (true,b.2) else (false,v.xs.map fun _=>false)).1=true↔x_j x v=true/\a.1=true/\b.1=true):=fun b=>by
  by_cases h:(x_j x v&&a.1&&b.1)=true
  ·rw [if_pos h];simpa [and_assoc] using h
  ·rw [if_neg h];simp only [Bool.false_eq_true,false_iff];simpa [and_assoc] using h
 rw [key,i1];simp only [Bool.and_eq_true,and_assoc,List.all_eq_true];refine and_congr Iff.rfl (and_congr Iff.rfl (and_congr Iff.rfl (and_congr Iff.rfl ?_)));unfold B_G;by_cases h3:v.k=3
 ·simp [h3,and_assoc]
 ·by_cases h4:v.k=4
  ·simp only [h4,if_true,(show (4:Int)≠3 by decide),(show (4:Int)≠5 by decide),if_false,false_imp_iff,true_and,and_true,true_imp_iff];rw [(z_m i2).1];simp only [i3]
  ·by_cases h5:v.k=5
   ·simp only [h5,if_true,(show (5:Int)≠3 by decide),(show (5:Int)≠4 by decide),if_false,false_imp_iff,true_and,and_true,true_imp_iff];rw [(z_2 (hv h5) i2).1];simp only [i3]
   ·simp [h3,h4,h5]
theorem D_m {d:Int}{s:List JN}{f:Nat}{n:Int}{x:JN}{v:JV}(hx:s[(n-1).toNat]? =some x)(h0:x.kind=0)(hd:x.dep=[])(hv:v.k=5->v.ns.length=v.xs.length)(hok:(w_2 d s (f+1) n v).1=true):
  (v.k=4->∀ i,i<v.xs.length->(mkd (w_2 d s (f+1) n v).2 i↔preM (w_2 d s f) x v i∨arrM d (w_2 d s f) x v i∨x.restI>0))/\
  (v.k=5->∀ i∈membs v.ns,(mkd (w_2 d s (f+1) n v).2 i↔preM (w_2 d s f) x v i∨objM (w_2 d s f) x v i∨x.restP>0)):=by
 have hl:=z_4 d s f;obtain ⟨i1,i2,i3⟩:=z_o hl (x:=x) (v:=v) (m:=v.xs.map fun _=>false) (by simp) hd;have i3:∀ i,mkd (x_e (w_2 d s f) x v (v.xs.map fun _=>false)).2 i↔preM (w_2 d s f) x v i:=fun i=>by
  rw [i3,preM];simp only [x_H,false_or]
 rw [w_2,hx] at hok ⊢;dsimp only at hok ⊢;rw [if_neg (by simp [h0])] at hok ⊢;generalize hJ:w_2 d s f=J at *;generalize x_e J x v (v.xs.map fun _=>false)=a at *;have key:∀ (b:Bool × List Bool),(if (x_j x v&&a.1&&b.1)=true then (true,b.2) else (false,v.xs.map fun _=>false)).1=true->(if (x_j x v&&a.1&&b.1)=true then (true,b.2) else (false,v.xs.map fun _=>false)).2=b.2:=fun b h=>by
  by_cases h:(x_j x v&&a.1&&b.1)=true
  ·rw [if_pos h]
  ·rw [if_neg h] at *;cases ‹false=true›
 rw [key _ hok];refine ⟨fun h4 i hi=>?_,fun h5 i hi=>?_⟩
 ·simp only [h4,if_true,(show (4:Int)≠3 by decide),if_false];rw [(z_m i2).2.2 i hi,i3]
 ·simp only [h5,if_true,(show (5:Int)≠3 by decide),(show (5:Int)≠4 by decide),if_false];rw [(z_2 (hv h5) i2).2.2 i hi,i3]
variable [DB]
theorem cat {w:World}{b i:Nat}{cs:Array Value}{T:TypeId}{fr:Nat × Nat}{v:Value}(h:objAt w b=some (.cells cs T fr))(hv:cs[i]? =some v):w.cell? ((adr b).add i)=some v:=by
 rw [Addr.add_lit,Nat.zero_add,d_6 h,hv]
theorem cat0 {w:World}{b:Nat}{cs:Array Value}{T:TypeId}{fr:Nat × Nat}{v:Value}(h:objAt w b=some (.cells cs T fr))(hv:cs[0]? =some v):w.cell? (adr b)=some v:=by
 rw [d_6 h,hv]
theorem w_3 (w:World)(o:Obj):objAt (w.alloc o) w.heap.size=some o:=by rw [b_R,if_pos rfl]
theorem apart {w:World}{a b:Nat}{o o':Obj}(h:objAt w a=some o)(h':objAt w b=some o')(hn:o≠o'):a≠b:=by
 rintro rfl;rw [h] at h';exact hn (Option.some.inj h')
theorem x_u {w:World}{a b:Nat}{cs cs':Array Value}{T T':TypeId}{fr fr':Nat × Nat}(h:objAt w a=some (.cells cs T fr))(h':objAt w b=some (.cells cs' T' fr'))(hn:T≠T'):a≠b:=
 apart h h' fun e=>hn (by injection e)
theorem z_e {w:World}{a b cl:Nat}{es:Array MapEntry}{cs':Array Value}{T':TypeId}{fr':Nat × Nat}(h:objAt w a=some (.map es cl))(h':objAt w b=some (.cells cs' T' fr')):a≠b:=
 apart h h' nofun
theorem w_4 {w:World}{b i:Nat}{cs:Array Value}{T:TypeId}{fr:Nat × Nat}(h:objAt w b=some (.cells cs T fr))(v:Value):objAt (w.setCell ((adr b).add i) v) b=some (.cells (cs.setIfInBounds i v) T fr):=by
 have hb:b<w.heap.size:=a_3 h;have hv:w.heap[b]=.cells cs T fr:=by
  have:=h;simp only [objAt,Array.getElem?_eq_getElem hb] at this;exact Option.some.inj this
 rw [Addr.add_lit,Nat.zero_add];simp only [objAt,World.setCell,Array.getElem?_modify,if_pos rfl,Array.getElem?_eq_getElem hb,Option.map_some,hv];simp
theorem w_1 {w:World}{b i:Nat}(v:Value):Ext (fun k=>k=b) w (w.setCell ((adr b).add i) v):=
 (Ext.refl w).setCell (.inl (by rw [Addr.add_lit])) v
def SB (w:World)(g c:Nat):Prop:=∃ cur,objAt w g=some (.cells cur 9 (0,0))/\cur.size=c/\∀ u∈cur.toList,∃ s,u=.string s
theorem SB.ext {w w':World}{g c:Nat}{X:Nat->Prop}(h:SB w g c)(hx:Ext X w w')(hn:¬ X g):SB w' g c:=by
 obtain ⟨cur,h1,h2⟩:=h;exact ⟨cur,hx.old g _ hn h1,h2⟩
theorem SB.lt {w:World}{g c:Nat}(h:SB w g c):g<w.heap.size:=by
 obtain ⟨cur,h1,h2⟩:=h;exact a_3 h1
structure FR (g:Nat) (w w':World):Prop where
 x:Ext (fun k=>k=g) w w'
 s:∀ c,SB w g c->SB w' g c
theorem FR.refl (g:Nat)(w:World):FR g w w:=⟨Ext.refl w,fun _ h=>h⟩
theorem FR.trans {g:Nat}{w w1 w2:World}(h:FR g w w1)(k:FR g w1 w2):FR g w w2:=⟨h.x.trans k.x fun _ _ e=>e,fun c hc=>k.s c (h.s c hc)⟩
theorem FR.of {g:Nat}{w w':World}(h:EF w w'):FR g w w':=⟨h.mono fun _ _ e=>e.elim,fun c hc=>hc.ext h id⟩
theorem FR.then {g:Nat}{w w1 w2:World}(h:FR g w w1)(k:EF w1 w2):FR g w w2:=h.trans (FR.of k)
theorem D_O {w:World}{g l c:Nat}{s:BA}{p:Addr}(h:SB w g c)(hl:l<=c)(hc:c<=maxLen)(hl2:l<=16777000)(hp:w.cell? p=some (.string s))(ty:TypeId)(fs:Array Bool):
  ∃ (G C:Nat) (w':World),(Go.builtin .append #[24,24] ty fs #[.slice (some (adr g)) l c,.slice (some p) 1 1]).run Tryz.prog w=.ok (.value (.slice (some (adr G)) (l+1) C)) w'/\
   SB w' G C/\l+1<=C/\C<=maxLen/\FR g w w'/\(G=g∨w.heap.size<=G):=by
 obtain ⟨cur,h1,h2,h3⟩:=h;have hg:w.heap[g]? =some (.cells cur 9 (0,0)):=h1;have ht:Tryz.prog.underlying 24=some (.slice 9):=by kernel_rfl
 have hi:Tryz.prog.info? 9=some Tryz.t9:=by kernel_rfl
 have hz:Tryz.t9.zero=some (.string ⟨#[]⟩):=by kernel_rfl
 have hs:Tryz.t9.size=1:=by kernel_rfl
 have hb:Tryz.t9.bytes=16:=by kernel_rfl
 have hnews:∀ (j:Nat) (u:Value),[Value.string s][j]? =some u->w.cell? (p.add j)=some u:=fun j u hu=>by
  cases j with
  | zero=>
   have hu: .string s=u:=by simpa using hu
   rw [<- hu,<- hp];rfl
  | succ j=>simp at hu
 have hwr:∀ v w',(Builtin.append_ #[24,24] ty #[.slice (some (adr g)) l c,.slice (some p) 1 1]).run Tryz.prog w=.ok v w'->(Go.builtin .append #[24,24] ty fs #[.slice (some (adr g)) l c,.slice (some p) 1 1]).run Tryz.prog w=.ok (.value v) w':=fun v w' e=>by
  simp only [Go.builtin,Sem.run_bind,e,Result.andThen_ok,Sem.run_pure]
 by_cases hroom:l+1<=c
 ·have hr:=run_append_room (P:=Tryz.prog) w 24 ty 9 Tryz.t9 ht hi g l c cur hg p 1 1 [.string s] (by rw [hs];rfl) hnews (by simp [Value.oneCell']) hroom (by rw [hs];simp;omega);rw [hs,Nat.mul_one] at hr;have hset:∀ cs:Array Value,Ext (fun k=>k=g) w (w.setRow g cs):=fun cs=>⟨fun b o hx hbo=>(setRow_other w g b cs hx).trans hbo,by simp [World.setRow],rfl,rfl⟩;have hnew:SB (w.setRow g (cur.toList.take l++[Value.string s]++cur.toList.drop (l+[Value.string s].length)).toArray) g c:=by
   refine ⟨_,setRow_heap w g cur _ 9 _ hg,?_,fun u hu=>?_⟩
   ·simp only [List.size_toArray,la_,List.length_take,List.length_drop,Array.length_toList,List.length_singleton];omega
   ·simp only [ma_,List.mem_singleton] at hu;rcases hu with (hu|rfl)|hu
    ·exact h3 u (List.mem_of_mem_take hu)
    ·exact ⟨s,rfl⟩
    ·exact h3 u (List.mem_of_mem_drop hu)
  refine ⟨g,c,_,hwr _ _ hr,hnew,hroom,hc,⟨hset _,fun c' hc'=>?_⟩,.inl rfl⟩;obtain ⟨cur',e1,e2,-⟩:=hc';rw [h1] at e1;cases e1;rw [<- e2,h2];exact hnew
 ·have hle:l<=cur.toList.length:=by rw [Array.length_toList];omega
  have hr:=run_append_grow (P:=Tryz.prog) w 24 ty 9 Tryz.t9 (Value.string ⟨#[]⟩) ht hi hz (adr g) l c (cur.toList.take l) (by rw [hs,List.length_take];omega) (fun j v hv=>by
   rw [List.getElem?_take] at hv;split at hv
   ·rw [Addr.add_lit,Nat.zero_add,d_6 hg,<- Array.getElem?_toList,hv]
   ·cases hv) p 1 1 [Value.string s] (by rw [hs];rfl) hnews (by omega) (by simp;omega) (growslice_fits (by omega) (by rw [hb];omega))
  have hx:∀ o,EF w (w.drew.alloc o):=fun o=>((Ext.refl w).drew).alloc _;have hge:=grownCap_ge w (l+1) c 9;refine ⟨w.heap.size,_,_,hwr _ _ hr,⟨_,w_3 _ _,?_,fun u hu=>?_⟩,hge,grownCap_le_maxLen w (l+1) c 9 (by simp only [maxLen];omega),FR.of (hx _),.inr (Nat.le_refl _)⟩
  ·simp only [Array.size_append,List.size_toArray,List.length_take,size_zeroCells,Value.cells,List.length_singleton];simp;omega
  ·simp only [Array.toList_append,ma_] at hu;rcases hu with (hu|hu)|hu
   ·exact h3 u (List.mem_of_mem_take hu)
   ·exact ⟨s,by simpa using hu⟩
   ·simp only [Builtin.zeroCells,Array.toList_map,mm_] at hu;obtain ⟨i,-, rfl⟩:=hu;refine ⟨⟨#[]⟩,?_⟩;simp only [Value.cells];simp [Nat.mod_one]
theorem x_t {t T:TypeId}{i:TypeInfo}{z:Value}(ht:Tryz.prog.underlying t=some (.slice T))(hi:Tryz.prog.info? T=some i)(hz:i.zero=some z)(hsize:i.size=1)(hby:i.bytes<=16)(hzs:z.cells.size=1)
  {base:Nat} {w:World} {a:OA} {l c:Nat} {xs:List Value} (hown:Own base w T 1 a l c xs) (hb:base<=w.heap.size) {p:Addr} {u:Value} (hp:w.cell? p=some u) (h1:u.oneCell'=true) (h2:l<=8000000000000) (ty:TypeId) (fs:Array Bool):
  ∃ (A:OA) (C:Nat) (w':World),(Go.builtin .append #[t,t] ty fs #[.slice a l c,.slice (some p) 1 1]).run Tryz.prog w=.ok (.value (.slice A (l+1) C)) w'/\Own base w' T 1 A (l+1) C (xs++[u])/\Ext (blkOf a) w w'/\(∀ b,blkOf A b->blkOf a b∨b=w.heap.size):=by
 have hbytes:(l+1)*i.bytes<=140737488355328:=by
  have:(l+1)*i.bytes<=8000000000001*16:=Nat.mul_le_mul (by omega) hby;omega
 obtain ⟨v',w',e1,e2,e3,e4,e5⟩:=run_append_own_at (P:=Tryz.prog) w base t ty T i z 1 i.bytes ht hi hz hsize rfl hzs (by decide) (.slice a l c) l xs hown p 1 1 [u] rfl (fun j x hx=>by
  cases j with
  | zero=>
   obtain rfl:u=x:=by simpa using hx
   rw [<- hp];rfl
  | succ j=>simp at hx) (by simpa using h1) (by simp only [maxLen];omega) hbytes hb
 have hv:∃ A C,v'=.slice A (l+1) C:=by
  obtain ⟨_,h|⟨g,cap,cur,h,_⟩⟩:=e2
  ·exact ⟨none,0,by rw [h.1,h.2]⟩
  ·exact ⟨_,_,h⟩
 obtain ⟨A,C,rfl⟩:=hv;have hX:∀ k,(Value.slice a l c).ownBlock=some k->blkOf a k:=by
  intro k hk;cases a with
  | none=>cases hk
  | some q=>exact ⟨q,rfl,by simpa [Value.ownBlock] using hk⟩
 refine ⟨A,C,w',?_,e2,Ext.of_grown e3 hX,?_⟩
 ·simp only [Go.builtin,Sem.run_bind,e1,Result.andThen_ok,Sem.run_pure]
 ·rintro b ⟨q,rfl,rfl⟩;rcases e5 with e5|e5
  ·exact .inl (hX _ e5.symm)
  ·exact .inr (by simpa [Value.ownBlock] using e5)
def GrpOK (o:Option (TypeId × Value)):Prop:=∀ u,o=some (170,u)->∃ q,u=.pointer q
theorem GrpOK.ptr {T:TypeId}{q:OA}:GrpOK (some (T,.pointer q)):=fun u h=>by
 simp only [Option.some.injEq,Prod.mk.injEq] at h;exact ⟨q,h.2.symm⟩
theorem GrpOK.none:GrpOK none:=nofun
def VErr (lo:Nat)(w:World)(q:OA):Prop:=∃ (b:Nat) (s:BA) (a:OA) (l c:Nat) (o:Option (TypeId × Value)) (a':OA) (l' c':Nat),q=some (adr b)/\lo<=b/\GrpOK o/\
 objAt w b=some (.cells #[.string s,.slice a l c,ifcV o,.slice a' l' c'] 175 (0,0))
theorem VErr.ext {lo:Nat}{X:Nat->Prop}{w w':World}{q:OA}(h:VErr lo w q)(hx:Ext X w w')(hn:∀ b cs fr,lo<=b->objAt w b=some (.cells cs 175 fr)->¬ X b):VErr lo w' q:=by
 obtain ⟨b,s,a,l,c,o,a',l',c',h1,h2,hg,h3⟩:=h;exact ⟨b,s,a,l,c,o,a',l',c',h1,h2,hg,hx.old b _ (hn b _ _ h2 h3) h3⟩
theorem VErr.weaken {lo lo':Nat}{w:World}{q:OA}(h:VErr lo w q)(hl:lo'<=lo):VErr lo' w q:=by
 obtain ⟨b,s,a,l,c,o,a',l',c',h1,h2,hg,h3⟩:=h;exact ⟨b,s,a,l,c,o,a',l',c',h1,by omega,hg,h3⟩
structure VdC where
 o:Option (TypeId × Value)
 g:Nat
 l:Nat
 c:Nat
 sb:Nat
 pb:Nat
 ub:Nat
 br:Bool
def VBlk (w:World)(vb:Nat)(d:VdC)(a:OA)(l c:Nat):Prop:=objAt w vb=some (.cells #[ifcV d.o,.slice (some (adr d.g)) d.l d.c,.pointer (some (adr d.sb)),.pointer (some (adr d.pb)),.pointer (some (adr d.ub)),.slice a l c,.bool d.br] 166 (0,0))
structure VPl (w:World) (d:VdC):Prop where
 sb:SB w d.g d.c
 lc:d.l<=d.c
 cm:d.c<=maxLen
 l:d.l<=16777000
 loc:∃ cs fr s,objAt w d.sb=some (.cells cs 116 fr)/\cs[4]? =some (.string s)
section
variable {w:World} {vb:Nat} {d:VdC} {a:OA} {l c:Nat}
theorem D_1 (h:SB w d.g d.c)(hl:d.l<=d.c)(hc:d.c<=maxLen)(hl2:d.l<=16777000):CP 170 #[.slice (some (adr d.g)) d.l d.c] w fun e w'=>∃ a l c,e=.returned (.slice a l c)/\EF w w':=by
 have ht:Tryz.prog.underlying 24=some (.slice 9):=by kernel_rfl
 have hi:Tryz.prog.info? 9=some Tryz.t9:=by kernel_rfl
 have hz:Tryz.t9.zero=some (.string ⟨#[]⟩):=by kernel_rfl
 have hs:Tryz.t9.size=1:=by kernel_rfl
 have hb:Tryz.t9.bytes=16:=by kernel_rfl
 obtain ⟨cur,h1,h2,h3⟩:=h;have heq:(binOp .eql 24 (.slice (some (adr d.g)) d.l d.c) (.slice none 0 0)).run Tryz.prog w=.ok (.bool false) w:=by
  have he:∀ k:Nat,(Op.equalIn (k+1) 24 (.slice (some (adr d.g)) d.l d.c) (.slice none 0 0)).run Tryz.prog w=.ok false w:=fun k=>by simp [Op.equalIn,a_l ht]
  simp only [binOp];simp [Op.equal,Op.maxDepth,he 9999]
 refine x_D (some (adr d.g)) d.l d.c w _ ⟨false,i_n nofun nofun,heq,nofun,fun _=>?_⟩;have x3:EF w (w.alloc (.cells #[] 9)):=(Ext.refl w).alloc _;have hm:Own w.heap.size (w.alloc (.cells #[] 9)) 9 1 (some (adr w.heap.size)) 0 0 []:=Own.made w.heap.size w 9 1 0 #[] (Nat.le_refl _) (Nat.zero_le _) rfl;have hg:=x3.old _ _ id h1;obtain ⟨A,C,w',r,-, x,-⟩:=c_a 24 9 Tryz.t9 (.string ⟨#[]⟩) 1 16 ht hi hz hs hb rfl (by decide) hm (by simp) (p:=adr d.g) (l':=d.l) (c':=d.c) (news:=cur.toList.take d.l) (by rw [List.length_take,Array.length_toList];omega) (fun j u hu=>by
  rw [List.getElem?_take] at hu;split at hu
  ·rw [Addr.add_lit,Nat.zero_add,d_6 hg,<- Array.getElem?_toList,hu]
  ·cases hu) (fun u hu=>by
   obtain ⟨s,rfl⟩:=h3 u (List.mem_of_mem_take hu);rfl) (by omega) (by decide) 24 #[false,false]
 rw [Nat.zero_add] at r;refine ⟨A,d.l,C,w',r,trivial,A,d.l,C,rfl,?_⟩;exact x3.trans x fun b hb hbl=>by
  obtain ⟨p,hp,e⟩:=hbl;cases hp;exact absurd e (by show w.heap.size≠b;omega)
theorem C_n (h:VBlk w vb d a l c)(hp:VPl w d):CP 147 #[.pointer (some (adr vb))] w fun e w'=>∃ a l c,e=.returned (.slice a l c)/\EF w w':=by
 refine x_q (some (adr vb)) w _ ⟨_,rfl,_,_,_,cat h rfl,(D_1 hp.sb hp.lc hp.cm hp.l).mono ?_⟩;rintro _ w' ⟨a,l,c,rfl,x⟩;exact ⟨a,l,c,rfl,trivial,a,l,c,rfl,x⟩
theorem A_4 (h:VBlk w vb d a l c)(hp:VPl w d)(k:Option (TypeId × Value)):CP 118 #[.pointer (some (adr vb)),ifcV k] w fun e w'=>∃ (b:Nat) (s:BA) (a:OA) (l c:Nat) (o:Option (TypeId × Value)),e=.returned (.pointer (some (adr b)))/\w.heap.size<=b/\EF w w'/\
  objAt w' b=some (.cells #[.string s,.slice a l c,ifcV o,.slice none 0 0] 175 (0,0))/\(o=none∨o=k):=by
 refine y_v (some (adr vb)) k w _ ⟨_,rfl,_,cat h rfl,fun hb=>?_,fun hb=>?_⟩
 ·refine ⟨trivial,trivial,w.heap.size,_,_,_,_,none,rfl,Nat.le_refl _,(Ext.refl w).alloc _,w_3 _ _,.inl rfl⟩
 ·intro w6 hw6;have x6:EF w w6:=hw6▸(Ext.refl w).drew;have h6:VBlk w6 vb d a l c:=x6.old _ _ id h;obtain ⟨cs,fr,s,hs,hcs⟩:=hp.loc;have hs6:=x6.old _ _ id hs;have hp6:VPl w6 d:=⟨hp.sb.ext x6 id,hp.lc,hp.cm,hp.l,_,_,s,hs6,hcs⟩;refine ⟨_,rfl,_,cat h6 rfl,_,rfl,s,cat hs6 hcs,(C_n h6 hp6).mono ?_⟩;rintro _ w12 ⟨a1,l1,c1,rfl,x12⟩;have h12:VBlk w12 vb d a l c:=x12.old _ _ id h6;refine ⟨a1,l1,c1,rfl,trivial,⟨?_,?_,trivial⟩,trivial,trivial,trivial,trivial,w12.heap.size,_,_,_,_,k,rfl,?_,(x6.then x12).alloc _,w_3 _ _,.inr rfl⟩
  ·rw [cat (x12.old _ _ id hs6) hcs,cat hs6 hcs]
  ·rw [cat (i:=2) h12 rfl,cat (i:=2) h6 rfl]
  ·exact (x6.then x12).size
end
theorem C_m (sc sch:OA)(kw:BA)(vid:Int)(w:World):CP 173 #[.pointer sc,.pointer sch,.string kw,.int .i64 vid] w fun e w'=>e=.returned (.pointer (some (adr w.heap.size)))/\w'=w.alloc (.cells #[.pointer sch,.string kw,.int .i64 vid,.pointer sc] 161):=
 y_7 sc sch kw vid w _ ⟨trivial,trivial,rfl,rfl⟩
structure AsOK (w:World) (av:Nat->Nat) (N:Nat):Prop where
 at_:∀ n,1<=n->n<=N->∃ cs,objAt w (av n)=some (.cells cs 116 (0,0))
 inj:∀ n m,1<=n->n<=N->1<=m->m<=N->av n=av m->n=m
inductive Scp (w:World) (av:Nat->Nat) (N:Nat):Nat->Nat->Int->Nat->Prop
 | top {p n:Nat} {vid:Int} {kw:BA} (h:objAt w p=some (.cells #[.pointer (some (adr (av n))),.string kw,.int .i64 vid,.pointer none] 161 (0,0))) (h1:1<=n) (h2:n<=N):Scp w av N p n vid 0
 | sub {p n:Nat} {vid:Int} {kw:BA} {p' n' k:Nat} {vid':Int} (h:objAt w p=some (.cells #[.pointer (some (adr (av n))),.string kw,.int .i64 vid,.pointer (some (adr p'))] 161 (0,0))) (h1:1<=n) (h2:n<=N)
   (hs:Scp w av N p' n' vid' k) (hn:vid'=vid->n'<n):Scp w av N p n vid (k+1)
theorem Scp.ext {X:Nat->Prop}{w w':World}{av:Nat->Nat}{N:Nat}(hx:Ext X w w')(hn:∀ b cs fr,objAt w b=some (.cells cs 161 fr)->¬ X b):∀ {p n k:Nat} {vid:Int},Scp w av N p n vid k->Scp w' av N p n vid k
 | _,_,_,_,.top h h1 h2=>.top (hx.old _ _ (hn _ _ _ h) h) h1 h2
 | _,_,_,_,.sub h h1 h2 hs hk=>.sub (hx.old _ _ (hn _ _ _ h) h) h1 h2 (Scp.ext hx hn hs) hk
theorem A_E {w:World}{av:Nat->Nat}{N p n k:Nat}{vid:Int}(ha:AsOK w av N)(h:Scp w av N p n vid k):CP 119 #[.pointer (some (adr p))] w fun e w'=>e=.returned (.pointer none)/\EF w w':=by
 have hpar:∃ (q:OA) (kw:BA),objAt w p=some (.cells #[.pointer (some (adr (av n))),.string kw,.int .i64 vid,.pointer q] 161 (0,0))/\1<=n/\n<=N/\(q=none∨∃ p' n' vid' k',q=some (adr p')/\Scp w av N p' n' vid' k'/\(vid'=vid->n'<n)):=by
  cases h with
  | top h h1 h2=>exact ⟨none,_,h,h1,h2,.inl rfl⟩
  | sub h h1 h2 hs hk=>exact ⟨_,_,h,h1,h2,.inr ⟨_,_,_,_,rfl,hs,hk⟩⟩
 obtain ⟨q,kw,hp,hn1,hn2,hq⟩:=hpar;have hu:Tryz.prog.underlying 72=some (.pointer 116):=by kernel_rfl
 have hi:Tryz.prog.info? 116=some Tryz.t116:=by kernel_rfl
 have hsz:Tryz.t116.size≠0:=by
  have:Tryz.t116.size=53:=by kernel_rfl
  rw [this];decide
 refine y_k (some (adr p)) w _ ⟨_,rfl,_,cat hp rfl,fun K hK=>?_⟩;have hK:∀ w',EF w w'->K w':=fun w' x=>hK w' ⟨rfl,x⟩
 classical
 have huniq:∀ {p n k n' k':Nat} {vid vid':Int},Scp w av N p n vid k->Scp w av N p n' vid' k'->k=k':=by
  intro p n k n' k' vid vid' h;induction h generalizing n' k' vid' with
  | top h=>
   intro h';cases h' with
   | top=>rfl
   | sub h'=>rw [h] at h';simp at h'
  | sub h h1 h2 hs hn ih=>
   intro h';cases h' with
   | top h'=>rw [h] at h';simp at h'
   | sub h' g1 g2 gs gn=>
    rw [h] at h';simp only [Option.some.injEq,Obj.cells.injEq,Array.mk.injEq,List.cons.injEq,Value.pointer.injEq,Addr.mk.injEq,and_true,true_and] at h';obtain ⟨-, -, -, rfl⟩:=h';rw [ih gs]
 have hI:∀ q:OA,∃ m:Nat,∀ p' n' vid' k',q=some (adr p')->Scp w av N p' n' vid' k'->m=k'+1:=fun q=>by
  by_cases hq:∃ p' n' vid' k',q=some (adr p')/\Scp w av N p' n' vid' k'
  ·obtain ⟨p1,n1,v1,k1,rfl,h1⟩:=hq;refine ⟨k1+1,fun p' n' vid' k' e h'=>?_⟩;cases e;rw [huniq h1 h']
  ·exact ⟨0,fun p' n' vid' k' e h'=>absurd ⟨p',n',vid',k',e,h'⟩ hq⟩
 refine ⟨fun q w1=>EF w w1/\(q=none∨∃ p' n' vid' k',q=some (adr p')/\Scp w av N p' n' vid' k'/\(vid'=vid->n'<n)),fun q _=>if q=none then 0 else Classical.choose (hI q),⟨Ext.refl w,hq⟩,?_⟩;rintro q w9 ⟨x9,hq⟩;refine ⟨fun hne=>?_,fun _=>hK _ x9⟩;rcases hq with rfl|⟨p',n',vid',k',rfl,hs,hn'⟩
 ·cases hne
 rintro w10 rfl;have x10:=x9.drew;have hm:=Classical.choose_spec (hI (some (adr p'))) p' n' vid' k' rfl hs;have hpar:∃ (q:OA) (kw:BA),objAt w p'=some (.cells #[.pointer (some (adr (av n'))),.string kw,.int .i64 vid',.pointer q] 161 (0,0))/\1<=n'/\n'<=N/\(q=none∨∃ p2 n2 vid2 k2,q=some (adr p2)/\Scp w av N p2 n2 vid2 k2/\(vid2=vid'->n2<n')/\k2<k'):=by
  cases hs with
  | top h h1 h2=>exact ⟨none,_,h,h1,h2,.inl rfl⟩
  | sub h h1 h2 hs hk=>exact ⟨_,_,h,h1,h2,.inr ⟨_,_,_,_,rfl,hs,hk,Nat.lt_succ_self _⟩⟩
 obtain ⟨q2,kw2,hp2,h1,h2,hq2⟩:=hpar;refine ⟨_,rfl,_,cat (x10.old _ _ id hp2) rfl,_,rfl,_,cat (x10.old _ _ id hp) rfl,fun _=>hK _ x10,fun hv=>?_⟩;have hv:vid'=vid:=by simpa using hv
 rintro w15 rfl;have x15:=x10.drew;have hlt:=hn' hv;obtain ⟨ca,hca⟩:=ha.at_ n' h1 h2;obtain ⟨cb,hcb⟩:=ha.at_ n hn1 hn2;have hne:adr (av n')≠adr (av n):=fun e=>by
  have:av n'=av n:=by injection e
  have:=ha.inj _ _ h1 h2 hn1 hn2 this;omega
 refine ⟨_,rfl,_,cat0 (x15.old _ _ id hp2) rfl,_,rfl,_,cat0 (x15.old _ _ id hp) rfl,false,i_n nofun nofun,run_eql_ptr_other _ hu hi hsz hne (x15.old _ _ id hca) (x15.old _ _ id hcb),trivial,nofun,fun _=>⟨_,rfl,q2,cat (x15.old _ _ id hp2) rfl,⟨x15,?_⟩,?_⟩⟩
 ·rcases hq2 with rfl|⟨p2,n2,vid2,k2,rfl,hs2,hn2,-⟩
  ·exact .inl rfl
  ·exact .inr ⟨p2,n2,vid2,k2,rfl,hs2,fun e=>Nat.lt_trans (hn2 (e.trans hv.symm)) hlt⟩
 ·rcases hq2 with rfl|⟨p2,n2,vid2,k2,rfl,hs2,hn2,hk2⟩
  ·dsimp only;rw [if_pos rfl,if_neg nofun,hm];omega
  ·dsimp only;rw [if_neg nofun,if_neg nofun,hm,Classical.choose_spec (hI (some (adr p2))) p2 n2 vid2 k2 rfl hs2];omega
def VD (lo:Nat)(w:World)(vb:Nat)(d:VdC)(E:Bool)(n:Nat):Prop:=∃ (a:OA) (l c:Nat) (ps:List (OA)),VBlk w vb d a l c/\Own lo w 169 1 a l c (ps.map Value.pointer)/\(∀ q∈ps,VErr lo w q)/\(E=true↔ps=[])/\ps.length<=n
def XE (lo vb:Nat)(w:World)(k:Nat):Prop:=k=vb∨(lo<=k/\∃ cs fr,objAt w k=some (.cells cs 169 fr))
theorem XE.ne {lo vb:Nat}{w:World}{k:Nat}{o:Obj}(h:objAt w k=some o)(h1:∀ cs fr,o≠ .cells cs 166 fr)(h2:∀ cs fr,o≠ .cells cs 169 fr){d:VdC}{a:OA}{l c:Nat}(hv:VBlk w vb d a l c):¬ XE lo vb w k:=by
 rintro (rfl|⟨-, cs,fr,hk⟩)
 ·exact h1 _ _ (Option.some.inj (h.symm.trans hv))
 ·exact h2 _ _ (Option.some.inj (h.symm.trans hk))
theorem VPl.ext {X:Nat->Prop}{w w':World}{d:VdC}(h:VPl w d)(hx:Ext X w w')(h1:∀ k cs fr,objAt w k=some (.cells cs 9 fr)->¬ X k)(h2:∀ k cs fr,objAt w k=some (.cells cs 116 fr)->¬ X k):VPl w' d:=by
 obtain ⟨hs,hlc,hcm,hl,cs,fr,s,ho,hcs⟩:=h;obtain ⟨cur,e1,e2⟩:=hs;exact ⟨⟨cur,hx.old _ _ (h1 _ _ _ e1) e1,e2⟩,hlc,hcm,hl,cs,fr,s,hx.old _ _ (h2 _ _ _ ho) ho,hcs⟩
section
variable {lo:Nat} {w:World} {vb:Nat} {d:VdC} {E:Bool} {n:Nat}
theorem VD.pl {w':World}(h:VD lo w vb d E n)(hp:VPl w d)(hx:Ext (XE lo vb w) w w'):VPl w' d:=by
 obtain ⟨a,l,c,ps,hv,-⟩:=h;exact hp.ext hx (fun k cs fr hk=>XE.ne hk (fun _ _ e=>by injection e with _ e;exact absurd e (by decide)) (fun _ _ e=>by injection e with _ e;exact absurd e (by decide)) hv) fun k cs fr hk=>XE.ne hk (fun _ _ e=>by injection e with _ e;exact absurd e (by decide)) (fun _ _ e=>by injection e with _ e;exact absurd e (by decide)) hv
theorem VD.ext {X:Nat->Prop}{w':World}(h:VD lo w vb d E n)(hx:Ext X w w')(h1:∀ k cs fr,lo<=k->objAt w k=some (.cells cs 169 fr)->¬ X k)(h2:∀ k cs fr,lo<=k->objAt w k=some (.cells cs 175 fr)->¬ X k)(h3:¬ X vb):VD lo w' vb d E n:=by
 obtain ⟨a,l,c,ps,hv,ho,he,h4,h5⟩:=h;refine ⟨a,l,c,ps,hx.old _ _ h3 hv,ho.keep hx fun b hb=>?_,fun q hq=>(he q hq).ext hx h2,h4,h5⟩;have hbl:=ho.base b hb;obtain ⟨e1,e2|⟨g,cap,cur,e2,e3,e4,-⟩⟩:=ho
 ·obtain ⟨p,hp,-⟩:=hb;rw [hp] at e2;simp at e2
 ·simp only [Value.slice.injEq] at e2;obtain ⟨p,hp,rfl⟩:=hb;rw [e2.1] at hp;cases hp;exact h1 _ _ _ e3 e4
theorem VD.more {n':Nat}(h:VD lo w vb d E n)(hn:n<=n'):VD lo w vb d E n':=by
 obtain ⟨a,l,c,ps,hv,ho,he,h4,h5⟩:=h;exact ⟨a,l,c,ps,hv,ho,he,h4,by omega⟩
theorem VD.add (h:VD lo w vb d E n)(hlo:lo<=w.heap.size)(hn:n<=8000000000000){q:OA}(hq:VErr lo w q)(ty:TypeId)(fs:Array Bool):
  ∃ (a:OA) (l c:Nat),w.cell? ((adr vb).add 5)=some (.slice a l c)/\∃ (A:OA) (C:Nat) (w':World),(Go.builtin .append #[164,164] ty fs #[.slice a l c,.slice (some (adr w.heap.size)) 1 1]).run Tryz.prog (w.alloc (.cells #[.pointer q] 169))=.ok (.value (.slice A (l+1) C)) w'/\
   (∃ cs T,objAt w' vb=some (.cells cs T (0,0))/\5+1<=cs.size)/\VD lo (w'.setCell ((adr vb).add 5) (.slice A (l+1) C)) vb d false (n+1)/\Ext (XE lo vb w) w (w'.setCell ((adr vb).add 5) (.slice A (l+1) C))/\(∀ v,w'.cell? ((adr vb).add 5)=some v->v=.slice a l c):=by
 obtain ⟨a,l,c,ps,hv,ho,he,h4,h5⟩:=h;have ht:Tryz.prog.underlying 164=some (.slice 169):=by kernel_rfl
 have hi:Tryz.prog.info? 169=some Tryz.t169:=by kernel_rfl
 have x1:EF w (w.alloc (.cells #[.pointer q] 169)):=(Ext.refl w).alloc _;have hl:l=ps.length:=by have:=ho.len.1;simpa using this.symm
 obtain ⟨A,C,w',r,hO,xA,hA⟩:=x_t (t:=164) (T:=169) ht hi (z:=.pointer none) (by kernel_rfl) (by kernel_rfl) (by
   have:Tryz.t169.bytes=8:=by kernel_rfl
   omega) rfl (ho.keep x1 fun _ _=>id) (by simp;omega) (p:=adr w.heap.size) (u:=.pointer q) (cat0 (w_3 _ _) rfl) rfl (by omega) ty fs
 have hv1:VBlk (w.alloc (.cells #[.pointer q] 169)) vb d a l c:=x1.old _ _ id hv;have hblk:∀ b,blkOf a b->lo<=b/\b<w.heap.size/\∃ cs fr,objAt w b=some (.cells cs 169 fr):=fun b hb=>by
  have hbl:=ho.base b hb;refine ⟨hbl.1,hbl.2,?_⟩;obtain ⟨e1,e2|⟨g,cap,cur,e2,e3,e4,-⟩⟩:=ho
  ·obtain ⟨p,hp,-⟩:=hb;rw [hp] at e2;simp at e2
  ·simp only [Value.slice.injEq] at e2;obtain ⟨p,hp,rfl⟩:=hb;rw [e2.1] at hp;cases hp;exact ⟨_,_,e4⟩
 have hnv:∀ b,blkOf a b->b≠vb:=fun b hb=>by
  obtain ⟨-, -, cs,fr,h⟩:=hblk b hb;exact x_u h hv (by decide)
 have hv2:VBlk w' vb d a l c:=xA.old _ _ (fun hb=>hnv _ hb rfl) hv1;have hset:=w_4 hv2 (i:=5) (.slice A (l+1) C);have hset:VBlk (w'.setCell ((adr vb).add 5) (.slice A (l+1) C)) vb d A (l+1) C:=hset;have xs:=w_1 (w:=w') (b:=vb) (i:=5) (.slice A (l+1) C);have hnA:∀ b,blkOf A b->b≠vb:=fun b hb=>by
  rcases hA b hb with hb|hb
  ·exact hnv b hb
  ·rw [hb];have:=a_3 hv1;rintro rfl;simp only [World.alloc,Array.size_push] at this;have:=a_3 hv;omega
 have xw:Ext (XE lo vb w) w (w'.setCell ((adr vb).add 5) (.slice A (l+1) C)):=by
  refine ((x1.mono fun _ _ e=>e.elim).trans xA fun b hb hx=>?_:Ext (XE lo vb w) w w').trans xs fun b hb hx=>.inl hx;exact .inr ⟨(hblk b hx).1,(hblk b hx).2.2⟩
 refine ⟨a,l,c,cat hv rfl,A,C,w',r,⟨_,_,hv2,by simp⟩,⟨A,l+1,C,ps++[q],hset,?_,fun q' hq'=>?_,by simp,by simp;omega⟩,xw,fun v hcell=>?_⟩
 ·rw [List.map_append];exact hO.keep xs fun b hb e=>hnA b hb e
 ·have hq1:VErr lo w q':=by
   rcases ma_.1 hq' with h|h
   ·exact he q' h
   ·rw [List.mem_singleton.1 h];exact hq
  exact hq1.ext xw fun b cs fr hb ho'=>XE.ne ho' (fun _ _ e=>by injection e with _ e;exact absurd e (by decide)) (fun _ _ e=>by injection e with _ e;exact absurd e (by decide)) hv
 ·rw [cat hv2 rfl] at hcell;exact (Option.some.inj hcell).symm
theorem C_7 (h:VD lo w vb d E n)(hlo:lo<=w.heap.size)(hn:n<=8000000000000){q:OA}(hq:VErr lo w q):CP 128 #[.pointer (some (adr vb)),ifcV (some (169,.pointer q))] w fun e w'=>e=.returned (.tuple #[])/\VD lo w' vb d false (n+1)/\Ext (XE lo vb w) w w':=by
 refine x_v (some (adr vb)) _ w _ ⟨fun _=>?_,nofun⟩;rintro w3 rfl;have x0:EF w w.drew:=(Ext.refl w).drew;have h0:VD lo w.drew vb d E n:=h.ext x0 (fun _ _ _ _ _=>id) (fun _ _ _ _ _=>id) id;obtain ⟨a,l,c,hc,A,C,w',r,⟨cs,T,hvb,hsz⟩,hV,hX,-⟩:=h0.add (by exact hlo) hn (hq.ext x0 fun _ _ _ _ _=>id) 164 #[false,false];have hc':(w.drew.alloc (.cells #[.pointer q] 169)).cell? ((adr vb).add 5)=w.drew.cell? ((adr vb).add 5):=by
  obtain ⟨a1,l1,c1,ps,hv,-⟩:=h0;have hv1:VBlk (w.drew.alloc (.cells #[.pointer q] 169)) vb d a1 l1 c1:=((Ext.refl (X:=fun _=>False) w.drew).alloc _).old _ _ id hv;rw [cat (i:=5) hv1 rfl,cat (i:=5) hv rfl]
 refine ⟨_,rfl,a,l,c,hc,q,rfl,trivial,⟨hc',trivial⟩,A,l+1,C,w',r,trivial,trivial,_,rfl,⟨cs,T,hvb,rfl,by rw [Addr.add_lit];omega,rfl⟩,trivial,trivial,rfl,hV,?_⟩;refine ((x0.mono fun _ _ e=>e.elim:Ext (XE lo vb w) w w.drew)).trans hX fun b hb hx=>?_;exact hx
theorem B_S (h:VD lo w vb d E n)(hp:VPl w d)(hlo:lo<=w.heap.size)(hn:n<=8000000000000)(k:Option (TypeId × Value))(hk:GrpOK k):CP 152 #[.pointer (some (adr vb)),ifcV k] w fun e w'=>e=.returned (.tuple #[])/\VD lo w' vb d false (n+1)/\Ext (XE lo vb w) w w':=by
 refine x_6 (some (adr vb)) k w _ ?_;rintro w3 rfl;have x0:EF w w.drew:=(Ext.refl w).drew;have h0:VD lo w.drew vb d E n:=h.ext x0 (fun _ _ _ _ _=>id) (fun _ _ _ _ _=>id) id;have h0':=h0;obtain ⟨a,l,c,ps,hv,-⟩:=h0';have hp0:VPl w.drew d:=hp.ext x0 (fun _ _ _ _=>id) fun _ _ _ _=>id;refine ⟨_,rfl,a,l,c,cat hv rfl,(A_4 hv hp0 k).mono ?_⟩;rintro _ w7 ⟨b,s,a1,l1,c1,o,rfl,hb,x7,hob,hok⟩;have hv7:VBlk w7 vb d a l c:=x7.old _ _ id hv;have h7:VD lo w7 vb d E n:=h0.ext x7 (fun _ _ _ _ _=>id) (fun _ _ _ _ _=>id) id;have hb:w.heap.size<=b:=hb;obtain ⟨a2,l2,c2,hc,A,C,w',r,⟨cs,T,hvb,hsz⟩,hV,hX,-⟩:=h7.add (q:=some (adr b)) (lt_ hlo (x0.then x7).size) hn ⟨b,s,a1,l1,c1,o,none,0,0,rfl,by omega,hok.elim (fun e=>e▸GrpOK.none) (fun e=>e▸hk),hob⟩ 164 #[false,false];obtain ⟨rfl,rfl,rfl⟩:a2=a/\l2=l/\c2=c:=by
  rw [cat (i:=5) hv7 rfl] at hc;simpa [eq_comm] using hc
 have hc':(w7.alloc (.cells #[.pointer (some (adr b))] 169)).cell? ((adr vb).add 5)=w7.cell? ((adr vb).add 5):=by
  have hv1:VBlk (w7.alloc (.cells #[.pointer (some (adr b))] 169)) vb d a2 l2 c2:=((Ext.refl (X:=fun _=>False) w7).alloc _).old _ _ id hv7;rw [cat (i:=5) hv1 rfl,cat (i:=5) hv7 rfl]
 refine ⟨_,rfl,trivial,⟨by rw [cat (i:=5) hv7 rfl,cat (i:=5) hv rfl],trivial⟩,trivial,⟨hc',trivial⟩,A,l2+1,C,w',r,trivial,trivial,_,rfl,⟨cs,T,hvb,rfl,by rw [Addr.add_lit];omega,rfl⟩,trivial,trivial,rfl,hV,?_⟩;refine (((x0.then x7).mono fun _ _ e=>e.elim:Ext (XE lo vb w) w w7)).trans hX fun k hk hx=>?_;rcases hx with hx|⟨h1,cs',fr,h2⟩
 ·exact .inl hx
 ·refine .inr ⟨h1,?_⟩;have hk2:objAt w k=some (w.heap[k]):=Array.getElem?_eq_getElem hk;have:=(x0.then x7).old k _ id hk2;rw [h2] at this;exact ⟨cs',fr,hk2.trans this.symm⟩
theorem A_3 (h:VD lo w vb d E n)(hp:VPl w d)(hlo:lo<=w.heap.size)(hn:n<=8000000000000)(ea:OA)(el ec:Nat)(k:Option (TypeId × Value))(hk:GrpOK k):CP 157 #[.pointer (some (adr vb)),.slice ea el ec,ifcV k] w fun e w'=>e=.returned (.tuple #[])/\VD lo w' vb d false (n+1)/\Ext (XE lo vb w) w w':=by
 have h0':=h;obtain ⟨a,l,c,ps,hv,-⟩:=h0';refine x_X (some (adr vb)) ea el ec k w _ ((A_4 hv hp k).mono ?_);rintro _ w5 ⟨b,s,a1,l1,c1,o,rfl,hb,x5,hob,hok⟩;have xs:=w_1 (w:=w5) (b:=b) (i:=3) (.slice ea el ec);have x8:EF w (w5.setCell ((adr b).add 3) (.slice ea el ec)):=x5.trans xs fun k hk e=>by omega
 have hob8:=w_4 hob (i:=3) (.slice ea el ec);have hv8:VBlk (w5.setCell ((adr b).add 3) (.slice ea el ec)) vb d a l c:=x8.old _ _ id hv;have h8:VD lo (w5.setCell ((adr b).add 3) (.slice ea el ec)) vb d E n:=h.ext x8 (fun _ _ _ _ _=>id) (fun _ _ _ _ _=>id) id;obtain ⟨a2,l2,c2,hc,A,C,w',r,⟨cs,T,hvb,hsz⟩,hV,hX,-⟩:=h8.add (q:=some (adr b)) (lt_ hlo x8.size) hn ⟨b,s,a1,l1,c1,o,ea,el,ec,rfl,by omega,hok.elim (fun e=>e▸GrpOK.none) (fun e=>e▸hk),hob8⟩ 164 #[false,false];refine ⟨some (adr b),rfl,trivial,adr b,rfl,⟨_,_,hob,rfl,by rw [Addr.add_lit];simp,rfl⟩,trivial,_,rfl,a2,l2,c2,hc,trivial,A,l2+1,C,w',r,trivial,_,rfl,⟨cs,T,hvb,rfl,by rw [Addr.add_lit];omega,rfl⟩,trivial,rfl,hV,?_⟩;refine ((x8.mono fun _ _ e=>e.elim:Ext (XE lo vb w) w _)).trans hX fun k hk hx=>?_;rcases hx with hx|⟨h1,cs',fr,h2⟩
 ·exact .inl hx
 ·refine .inr ⟨h1,?_⟩;have hk2:objAt w k=some (w.heap[k]):=Array.getElem?_eq_getElem hk;have:=x8.old k _ id hk2;rw [h2] at this;exact ⟨cs',fr,hk2.trans this.symm⟩
end
end Go.VC
namespace Go.VC
open Go Go.Proofs
def OMap (K:Value->Prop)(lo:Nat)(w:World)(q:Option Nat)(S:Value->Value->Prop):Prop:=match q with
 | none=>∀ k v,¬ S k v
 | some b=>lo<=b/\GMap K w b S
def leftO (w:World)(r:Nat):Nat:=match objAt w r with
 | some (.mapIter (some b) _ seen _)=>(match objAt w b with
  | some (.map ents _)=>(leftOf ents seen).size
  | _=>0)
 | _=>0
def OIt (K:Value->Prop)(lo:Nat)(w:World)(r:Nat)(q:Option Nat)(S R:Value->Value->Prop):Prop:=match q with
 | none=>(∃ a b c,objAt w r=some (.mapIter none a b c))/\(∀ k v,¬ S k v)/\∀ k v,¬ R k v
 | some b=>lo<=b/\∃ n,GIt K w r b S R n
theorem GIt.left {K:Value->Prop}{w:World}{r b n:Nat}{S R:Value->Value->Prop}(h:GIt K w r b S R n):leftO w r=n:=by
 obtain ⟨ents,cl,c0,seen,h1,h2,h3,h4,h5,h6,h7,h8⟩:=h;simp only [leftO,h5,h1,h8]
section
variable {K:Value->Prop} {lo:Nat} {w:World} {q:Option Nat} {r:Nat} {S R:Value->Value->Prop}
theorem OMap.congr (h:OMap K lo w q S){S':Value->Value->Prop}(e:∀ k v,S' k v↔S k v):OMap K lo w q S':=by
 cases q with
 | none=>exact fun k v hk=>h k v ((e k v).1 hk)
 | some b=>exact ⟨h.1,h.2.congr e⟩
theorem OMap.ext {X:Nat->Prop}{w':World}(h:OMap K lo w q S)(hx:Ext X w w')(hb:∀ b es cl,lo<=b->objAt w b=some (.map es cl)->¬ X b):OMap K lo w' q S:=by
 cases q with
 | none=>exact h
 | some b=>
  obtain ⟨h1,ents,cl,h2,h3⟩:=h;exact ⟨h1,ents,cl,hx.old _ _ (hb _ _ _ h1 h2) h2,h3⟩
theorem OMap.weaken {lo':Nat}(h:OMap K lo w q S)(hl:lo'<=lo):OMap K lo' w q S:=by
 cases q with
 | none=>exact h
 | some b=>exact ⟨by have:=h.1;omega,h.2⟩
theorem OIt.map (h:OIt K lo w r q S R):OMap K lo w q S:=by
 cases q with
 | none=>exact h.2.1
 | some b=>
  obtain ⟨h1,n,h2⟩:=h;exact ⟨h1,h2.map⟩
theorem OIt.sub (h:OIt K lo w r q S R){k v:Value}(hr:R k v):S k v:=by
 cases q with
 | none=>exact absurd hr (h.2.2 k v)
 | some b=>
  obtain ⟨h1,n,h2⟩:=h;exact h2.sub hr
theorem OIt.congr (h:OIt K lo w r q S R){S' R':Value->Value->Prop}(e:∀ k v,S' k v↔S k v)(e':∀ k v,R' k v↔R k v):OIt K lo w r q S' R':=by
 have hS:S'=S:=funext fun k=>funext fun v=>propext (e k v);have hR:R'=R:=funext fun k=>funext fun v=>propext (e' k v);rw [hS,hR];exact h
theorem OIt.ext {X:Nat->Prop}{w':World}(h:OIt K lo w r q S R)(hx:Ext X w w')(hb:∀ b es cl,lo<=b->objAt w b=some (.map es cl)->¬ X b)(hr:¬ X r):OIt K lo w' r q S R/\leftO w' r=leftO w r:=by
 cases q with
 | none=>
  obtain ⟨⟨a,b,c,h1⟩,h2⟩:=h;have h1':=hx.old _ _ hr h1;exact ⟨⟨⟨a,b,c,h1'⟩,h2⟩,by simp only [leftO,h1,h1']⟩
 | some b=>
  obtain ⟨h1,n,h2⟩:=h;have hm:=h2.map;obtain ⟨ents,cl,h3,-⟩:=hm;have h2':=h2.ext hx (hb _ _ _ h1 h3) hr;exact ⟨⟨h1,n,h2'⟩,by rw [h2'.left,h2.left]⟩
theorem OMap.ext1 {X:Nat->Prop}{w':World}(h:OMap K lo w q S)(hx:Ext X w w')(hb:∀ b,q=some b->¬ X b):OMap K lo w' q S:=by
 cases q with
 | none=>exact h
 | some b=>
  obtain ⟨h1,ents,cl,h2,h3⟩:=h;exact ⟨h1,ents,cl,hx.old _ _ (hb _ rfl) h2,h3⟩
theorem OIt.ext1 {X:Nat->Prop}{w':World}(h:OIt K lo w r q S R)(hx:Ext X w w')(hb:∀ b,q=some b->¬ X b)(hr:¬ X r):OIt K lo w' r q S R/\leftO w' r=leftO w r:=by
 cases q with
 | none=>
  obtain ⟨⟨a,b,c,h1⟩,h2⟩:=h;have h1':=hx.old _ _ hr h1;exact ⟨⟨⟨a,b,c,h1'⟩,h2⟩,by simp only [leftO,h1,h1']⟩
 | some b=>
  obtain ⟨h1,n,h2⟩:=h;have h2':=h2.ext hx (hb _ rfl) hr;exact ⟨⟨h1,n,h2'⟩,by rw [h2'.left,h2.left]⟩
theorem OIt.iter (h:OIt K lo w r q S R):∃ a b c d,objAt w r=some (.mapIter a b c d):=by
 cases q with
 | none=>
  obtain ⟨⟨a,b,c,h1⟩,h2⟩:=h;exact ⟨_,_,_,_,h1⟩
 | some b=>
  obtain ⟨_,n,_,_,_,_,_,_,_,_,h5,-⟩:=h;exact ⟨_,_,_,_,h5⟩
theorem OMap.obj (h:OMap K lo w q S){b:Nat}(e:q=some b):∃ es cl,objAt w b=some (.map es cl):=by
 subst e;obtain ⟨_,es,cl,h1,-⟩:=h;exact ⟨es,cl,h1⟩
theorem OIt.ne (h:OIt K lo w r q S R):¬ q=some r:=fun e=>by
 obtain ⟨es,cl,h1⟩:=h.map.obj e;obtain ⟨a,b,c,d,h2⟩:=h.iter;rw [h1] at h2;cases h2
theorem OIt.left_le (h:OIt K lo w r q S R){L:List Value}(hL:∀ k v,R k v->k∈L):leftO w r<=L.length:=by
 cases q with
 | none=>
  obtain ⟨⟨a,b,c,h1⟩,-⟩:=h;simp only [leftO,h1];omega
 | some b=>
  obtain ⟨-, n,h⟩:=h;rw [h.left];obtain ⟨ents,cl,c0,seen,h1,h2,h3,h4,h5,h6,h7,h8⟩:=h;have n1:((leftOf ents seen).toList.map (·.key)).Nodup:=by
   have hs:(leftOf ents seen).toList.Sublist ents.toList:=by
    unfold leftOf;rw [Array.toList_filter];exact List.filter_sublist
   exact (hs.map _).nodup h2.2.2
  have:=List.Nodup.length_le_of_subset n1 (l₂:=L) fun k hk=>by
   obtain ⟨e,he,rfl⟩:=mm_.1 hk;exact hL _ _ ((h7 _ _).2 ⟨e,he,rfl,rfl⟩)
  simpa [<- h8] using this
variable {P:Program} {t kt e:TypeId}
theorem x_g (hu:P.underlying t=some (.map kt e))(hm:OMap K lo w q S):
  ∃ w',(Instr.range t (.map q)).run P w=.ok (.pointer (some (adr w.heap.size))) w'/\OIt K lo w' w.heap.size q S S/\EF w w':=by
 cases q with
 | none=>
  refine ⟨w.alloc (.mapIter none 0 #[] 0),?_,⟨⟨_,_,_,by rw [b_R,if_pos rfl]⟩,hm,hm⟩,(Ext.refl w).alloc _⟩;simp only [Instr.range,Sem.run_bind,run_underlying hu,Result.andThen_ok];rfl
 | some b=>
  obtain ⟨w',n,h1,h2,h3⟩:=C_d hu hm.2;exact ⟨w',h1,⟨hm.1,n,h2⟩,h3⟩
theorem OIt.next (h:OIt K lo w r q S R)(ty:TypeId):
  ((Instr.next (.pointer (some (adr r))) false ty).run P w=.ok (.tuple #[.bool false]) w/\∀ k v,¬ R k v)∨
  ∃ (k v:Value) (w':World),R k v/\leftO w' r<leftO w r/\(Instr.next (.pointer (some (adr r))) false ty).run P w=.ok (.tuple #[.bool true,k,v]) w'/\OIt K lo w' r q S (fun k' v'=>k'≠k/\R k' v')/\Ext (fun k=>k=r) w w'/\
   (Instr.entry (.pointer (some (adr r)))).run P w'=.ok (.tuple #[k,v]) w':=by
 cases q with
 | none=>
  obtain ⟨⟨a,b,c,h1⟩,-, h2⟩:=h;refine .inl ⟨?_,h2⟩;have hb:w.heap[r]? =some (.mapIter none a b c):=h1;simp only [Instr.next,getObj,Sem.run_bind,Sem.run,hb,Result.andThen];rfl
 | some b=>
  obtain ⟨hlo,n,h⟩:=h;rcases h.next (P:=P) ty with h1|⟨k,v,w',n',h1,h2,h3,h4,h5,h6⟩
  ·exact .inl h1
  ·exact .inr ⟨k,v,w',h1,by rw [h4.left,h.left];exact h2,h3,⟨hlo,n',h4⟩,h5,h6⟩
theorem x_l {z:Value}{i:TypeInfo}{d:TypeDesc}{u:Value}(hu:P.underlying t=some (.map kt e))(hkt:P.underlying kt=some d)(hi:P.info? e=some i)(hz:i.zero=some z)(hk:MapKept.IsKey d u)(hm:OMap (MapKept.IsKey d) lo w q S):
  ∃ (r:Value) (g:Bool),(∀ ok,(Instr.lookup t (.map q) u ok).run P w=.ok (if ok then .tuple #[r,.bool g] else r) w)/\((g=true/\S u r)∨(g=false/\r=z/\∀ v,¬ S u v)):=by
 cases q with
 | none=>
  have hck:∀ em,(Instr.checkKey em 10000 kt u).run P w=.ok () w:=fun em=>MapKept.run_checkKey hkt hk em 9999;have hzz:(zeroValue e).run P w=.ok z w:=by simp [zeroValue,typeInfo,Sem.run_bind,hi,hz]
  have hf:(Instr.findKey kt u []).run P w=.ok none w:=MapKept.run_findKey hkt rfl;refine ⟨z,false,fun ok=>?_,.inr ⟨rfl,rfl,fun v=>hm u v⟩⟩;simp only [Instr.lookup,Sem.run_bind,run_underlying hu,Result.andThen_ok];cases ok<;>simp [hck,hf,hzz]
 | some b=>exact B_o hu hkt hi hz hk hm.2
theorem A_w (ty:TypeId)(hu:P.underlying t=some (.map kt e))(hm:OMap K lo w q S):∃ n:Nat,(Builtin.len_ #[t] ty #[.map q]).run P w=.ok (.int .i64 n) w/\(n=0↔∀ k v,¬ S k v)/\∀ L:List Value,L.Nodup->(∀ k,k∈L↔∃ v,S k v)->n=L.length:=by
 cases q with
 | none=>
  refine ⟨0,?_,⟨fun _=>hm,fun _=>rfl⟩,fun L hL hk=>?_⟩
  ·simp [Builtin.len_,Sem.run_bind,run_underlying hu];rfl
  ·cases L with
   | nil=>rfl
   | cons k L=>
    obtain ⟨v,hv⟩:=(hk k).1 (by simp);exact absurd hv (hm k v)
 | some b=>
  have hl:=hm.2.len;obtain ⟨ents,cl,h1,h2,h3,h4⟩:=hm.2;have hb:w.heap[b]? =some (.map ents cl):=h1;refine ⟨ents.size,?_,?_,fun L hL hk=>?_⟩
  ·simp [Builtin.len_,Sem.run_bind,run_underlying hu,getObj,Sem.run,hb];rfl
  ·constructor
   ·intro h0 k v hs;obtain ⟨x,hx,-⟩:=(h4 k v).1 hs;have:ents.toList=[]:=List.eq_nil_of_length_eq_zero (by simpa using h0);rw [this] at hx;cases hx
   ·intro h;rcases Nat.eq_zero_or_pos ents.size with h0|h0
    ·exact h0
    ·exact absurd ((h4 _ _).2 ⟨ents[0],by simp,rfl,rfl⟩) (h _ _)
  ·obtain ⟨ents',cl',g1,g2⟩:=hl;rw [h1] at g1;cases g1;exact g2 L hL hk
theorem z_J {d:TypeDesc}{u:Value}{ty:TypeId}{fs:Array Bool}(hu:P.underlying t=some (.map kt e))(hkt:P.underlying kt=some d)(hk:MapKept.IsKey d u)(hm:OMap (MapKept.IsKey d) lo w q S):
  ∃ w',(∃ r,(Go.builtin .delete #[t,kt] ty fs #[.map q,u]).run P w=.ok (.value r) w')/\OMap (MapKept.IsKey d) lo w' q (fun k x=>k≠u/\S k x)/\Ext (fun k=>q=some k) w w':=by
 cases q with
 | none=>
  have hck:∀ em,(Instr.checkKey em 10000 kt u).run P w=.ok () w:=fun em=>MapKept.run_checkKey hkt hk em 9999;refine ⟨w,⟨.tuple #[],?_⟩,fun k v h=>hm k v h.2,Ext.refl w⟩;simp [Go.builtin,Builtin.delete_,Sem.run_bind,run_underlying hu,hck]
 | some b=>
  obtain ⟨w',h1,h2,h3,-⟩:=z_I (ty:=ty) (fs:=fs) hu hkt hk hm.2;exact ⟨w',h1,⟨hm.1,h2⟩,h3.mono fun k _ e=>by rw [e]⟩
theorem OIt.delete {d:TypeDesc}{u:Value}{ty:TypeId}{fs:Array Bool}(h:OIt (MapKept.IsKey d) lo w r q S R)(hu:P.underlying t=some (.map kt e))(hkt:P.underlying kt=some d)(hk:MapKept.IsKey d u):
  ∃ w',leftO w' r<=leftO w r/\(∃ r,(Go.builtin .delete #[t,kt] ty fs #[.map q,u]).run P w=.ok (.value r) w')/\OIt (MapKept.IsKey d) lo w' r q (fun k x=>k≠u/\S k x) (fun k x=>k≠u/\R k x)/\Ext (fun k=>q=some k) w w':=by
 cases q with
 | none=>
  have hck:∀ em,(Instr.checkKey em 10000 kt u).run P w=.ok () w:=fun em=>MapKept.run_checkKey hkt hk em 9999;refine ⟨w,Nat.le_refl _,⟨.tuple #[],?_⟩,⟨h.1,fun k v hh=>h.2.1 k v hh.2,fun k v hh=>h.2.2 k v hh.2⟩,Ext.refl w⟩;simp [Go.builtin,Builtin.delete_,Sem.run_bind,run_underlying hu,hck]
 | some b=>
  obtain ⟨hlo,n,h⟩:=h;obtain ⟨w',n',h1,h2,h3,h4⟩:=h.delete (ty:=ty) (fs:=fs) hu hkt hk;exact ⟨w',by rw [h3.left,h.left];exact h1,h2,⟨hlo,n',h3⟩,h4.mono fun k _ e=>by rw [e]⟩
end
variable [DB]
mutual
def RA (w:World)(B:Nat):JV->Option (TypeId × Value)->Prop
 | .mk k b n t ns xs,o=>(k=0->o=none)/\(k=1->o=some (4,.bool b))/\(k=3->o=some (9,.string t))/\
   (k=4->∃ (a:OA) (l c:Nat),o=some (114,.slice a l c)/\l=xs.length/\l<=c/\∀ i,i<l->∃ p T o',a=some p/\p.block<B/\At w T (p.add i) (ifcV o')/\RAat w B xs i o')/\
   (k=5->∃ (b:Nat) (S:Value->Value->Prop),o=some (110,.map (some b))/\b<B/\GMap (MapKept.IsKey .string) w b S/\
    (∀ k x,S k x->∃ s i o',k=.string s/\memb ns s=some i/\x=ifcV o'/\RAat w B xs i o')/\∀ s i,memb ns s=some i->∃ x,S (.string s) x)
def RAat (w:World)(B:Nat):List JV->Nat->Option (TypeId × Value)->Prop
 | [],_,_=>False
 | x::l,0,o=>RA w B x o
 | x::l,i+1,o=>RAat w B l i o
end
theorem x_z {w:World}{B:Nat}:∀ {xs:List JV} {i:Nat} {o:Option (TypeId × Value)},RAat w B xs i o↔∃ x,xs[i]? =some x/\RA w B x o
 | [],i,o=>by simp [RAat]
 | x::l,0,o=>by simp [RAat]
 | x::l,i+1,o=>by simpa [RAat] using x_z (w:=w) (B:=B) (xs:=l) (i:=i) (o:=o)
mutual
theorem RA.ext {X:Nat->Prop}{w w':World}{B:Nat}(hx:Ext X w w')(hX:∀ k,X k->B<=k):∀ {v:JV} {o:Option (TypeId × Value)},RA w B v o->RA w' B v o
 | .mk k b n t ns xs,o,h=>by
  simp only [RA] at h ⊢;obtain ⟨h0,h1,h2,h3,h4⟩:=h;refine ⟨h0,h1,h2,fun hk=>?_,fun hk=>?_⟩
  ·obtain ⟨a,l,c,g1,g2,g3,g4⟩:=h3 hk;refine ⟨a,l,c,g1,g2,g3,fun i hi=>?_⟩;obtain ⟨p,T,o',e1,e2,e3,e4⟩:=g4 i hi;refine ⟨p,T,o',e1,e2,hx.at (fun hk=>?_) e3,RAat.ext hx hX e4⟩;have:=hX _ hk;have e5:(p.add i).block=p.block:=by unfold Addr.add;split<;>rfl
   omega
  ·obtain ⟨b,S,g1,g2,g3,g4,g5⟩:=h4 hk;refine ⟨b,S,g1,g2,g3.ext hx fun hk=>?_,fun k x hs=>?_,g5⟩
   ·have:=hX _ hk;omega
   ·obtain ⟨s,i,o',e1,e2,e3,e4⟩:=g4 k x hs;exact ⟨s,i,o',e1,e2,e3,RAat.ext hx hX e4⟩
theorem RAat.ext {X:Nat->Prop}{w w':World}{B:Nat}(hx:Ext X w w')(hX:∀ k,X k->B<=k):∀ {xs:List JV} {i:Nat} {o:Option (TypeId × Value)},RAat w B xs i o->RAat w' B xs i o
 | [],_,_,h=>h
 | x::l,0,_,h=>by
  simp only [RAat] at h ⊢;exact RA.ext hx hX h
 | x::l,i+1,_,h=>by
  simp only [RAat] at h ⊢;exact RAat.ext hx hX h
end
def RArr (w:World)(B:Nat)(xs:List JV)(a:OA)(l c:Nat):Prop:=l=xs.length/\l<=c/\∀ (i:Nat) (y:JV),xs[i]? =some y->∃ p T o',a=some p/\p.block<B/\At w T (p.add i) (ifcV o')/\RA w B y o'
def RObj (w:World)(B:Nat)(v:JV)(b:Nat)(S:Value->Value->Prop):Prop:=b<B/\GMap (MapKept.IsKey .string) w b S/\
 (∀ k x,S k x->∃ s i y o',k=.string s/\memb v.ns s=some i/\v.xs[i]? =some y/\x=ifcV o'/\RA w B y o')/\∀ s i,memb v.ns s=some i->∃ x,S (.string s) x
theorem RA.cases {w:World}{B:Nat}{v:JV}{o:Option (TypeId × Value)}(hok:okJ v)(h:RA w B v o):(v.k=0/\o=none)∨(v.k=1/\o=some (4,.bool v.b))∨(v.k=3/\o=some (9,.string v.t))∨
  (v.k=4/\∃ a l c,o=some (114,.slice a l c)/\RArr w B v.xs a l c)∨(v.k=5/\∃ b S,o=some (110,.map (some b))/\RObj w B v b S):=by
 obtain ⟨k,b,n,t,ns,xs⟩:=v;obtain ⟨k2,k0,k5,-⟩:=hok;simp only [RA] at h;obtain ⟨h0,h1,h3,h4,h5⟩:=h;simp only [JV.k,JV.b,JV.t,JV.xs];have:k=0∨k=1∨k=3∨k=4∨k=5:=by clear h0 h1 h3 h4 h5;omega
 rcases this with rfl|rfl|rfl|rfl|rfl
 ·exact .inl ⟨rfl,h0 rfl⟩
 ·exact .inr (.inl ⟨rfl,h1 rfl⟩)
 ·exact .inr (.inr (.inl ⟨rfl,h3 rfl⟩))
 ·obtain ⟨a,l,c,g1,g2,g3,g4⟩:=h4 rfl;refine .inr (.inr (.inr (.inl ⟨rfl,a,l,c,g1,g2,g3,fun i y hy=>?_⟩)));obtain ⟨p,T,o',e1,e2,e3,e4⟩:=g4 i (by have:=(List.getElem?_eq_some_iff.1 hy).1;omega);obtain ⟨z,hz,e5⟩:=x_z.1 e4;rw [hy] at hz;cases hz;exact ⟨p,T,o',e1,e2,e3,e5⟩
 ·obtain ⟨b',S,g1,g2,g3,g4,g5⟩:=h5 rfl;refine .inr (.inr (.inr (.inr ⟨rfl,b',S,g1,g2,g3,fun k x hs=>?_,g5⟩)));obtain ⟨s,i,o',e1,e2,e3,e4⟩:=g4 k x hs;obtain ⟨y,hy,e5⟩:=x_z.1 e4;exact ⟨s,i,y,o',e1,e2,hy,e3,e5⟩
theorem RArr.ext {X:Nat->Prop}{w w':World}{B:Nat}{xs:List JV}{a:OA}{l c:Nat}(h:RArr w B xs a l c)(hx:Ext X w w')(hX:∀ k,X k->B<=k):RArr w' B xs a l c:=by
 refine ⟨h.1,h.2.1,fun i y hy=>?_⟩;obtain ⟨p,T,o',e1,e2,e3,e4⟩:=h.2.2 i y hy;refine ⟨p,T,o',e1,e2,hx.at (fun hk=>?_) e3,e4.ext hx hX⟩;have:=hX _ hk;have e5:(p.add i).block=p.block:=by unfold Addr.add;split<;>rfl
 omega
theorem RObj.ext {X:Nat->Prop}{w w':World}{B:Nat}{v:JV}{b:Nat}{S:Value->Value->Prop}(h:RObj w B v b S)(hx:Ext X w w')(hX:∀ k,X k->B<=k):RObj w' B v b S:=by
 obtain ⟨h1,h2,h3,h4⟩:=h;refine ⟨h1,h2.ext hx fun hk=>by have:=hX _ hk;omega,fun k x hs=>?_,h4⟩;obtain ⟨s,i,y,o',e1,e2,e3,e4,e5⟩:=h3 k x hs;exact ⟨s,i,y,o',e1,e2,e3,e4,e5.ext hx hX⟩
def plc (v:JV):List Nat:=if v.k=5 then membs v.ns else if v.k=4 then List.range v.xs.length else []
def x_9 (v:JV)(T:Nat->Prop)(k x:Value):Prop:=x=.agg #[]/\∃ s i,k=.string s/\v.k=5/\memb v.ns s=some i/\T i
def x_7 (v:JV)(T:Nat->Prop)(k x:Value):Prop:=x=.agg #[]/\∃ i:Nat,k=.int .i64 i/\v.k=4/\T i
abbrev KS:Value->Prop:=MapKept.IsKey .string
abbrev KI:Value->Prop:=MapKept.IsKey (.int .i64)
def UN (lo:Nat)(w:World)(ub:Nat)(v:JV)(T:Nat->Prop):Prop:=∃ pm im,objAt w ub=some (.cells #[.map pm,.map im] 198 (0,0))/\OMap KS lo w pm (x_9 v T)/\OMap KI lo w im (x_7 v T)/\(∀ i,T i->i∈plc v)/\(pm=none∨im=none)
def XMap (lo:Nat)(w:World)(k:Nat):Prop:=lo<=k/\∃ es cl,objAt w k=some (.map es cl)
section
variable {lo:Nat} {w:World} {ub:Nat} {v:JV} {T:Nat->Prop}
theorem D_t {i:Nat}(h:i∈plc v)(h4:v.k=4):i<v.xs.length:=by
 unfold plc at h;rw [if_neg (by omega),if_pos h4] at h;simpa using h
theorem C_I {i:Nat}(h:i∈plc v)(h5:v.k=5):i∈membs v.ns:=by
 unfold plc at h
 rwa [if_pos h5] at h
theorem z_x {i:Nat}(h:i∈plc v):v.k=4∨v.k=5:=by
 unfold plc at h;split at h
 ·exact .inr (by assumption)
 ·split at h
  ·exact .inl (by assumption)
  ·cases h
theorem UN.congr (h:UN lo w ub v T){T':Nat->Prop}(e:∀ i,T' i↔T i):UN lo w ub v T':=by
 have:T'=T:=funext fun i=>propext (e i);rw [this];exact h
theorem UN.ext {X:Nat->Prop}{w':World}(h:UN lo w ub v T)(hx:Ext X w w')(h1:¬ X ub)(h2:∀ k es cl,lo<=k->objAt w k=some (.map es cl)->¬ X k):UN lo w' ub v T:=by
 obtain ⟨pm,im,g1,g2,g3,g4,g5⟩:=h;exact ⟨pm,im,hx.old _ _ h1 g1,g2.ext hx h2,g3.ext hx h2,g4,g5⟩
theorem A_F (h:UN lo w ub v T):CP 159 #[.pointer (some (adr ub))] w fun e w'=>∃ b:Bool,e=.returned (.bool b)/\w'=w/\(b=true↔∀ i,¬ T i):=by
 obtain ⟨pm,im,g1,g2,g3,g4,g5⟩:=h;have u1:Tryz.prog.underlying 195=some (.map 9 199):=by kernel_rfl
 have u2:Tryz.prog.underlying 196=some (.map 3 199):=by kernel_rfl
 obtain ⟨n1,r1,e1,-⟩:=A_w (P:=Tryz.prog) 3 u1 g2;obtain ⟨n2,r2,e2,-⟩:=A_w (P:=Tryz.prog) 3 u2 g3;have p5:(∀ k x,¬ x_9 v T k x)↔(v.k=5->∀ i,¬ T i):=by
  constructor
  ·intro h h5 i hi;obtain ⟨s,hs,hm⟩:=x_f.1 (C_I (g4 i hi) h5);exact h _ _ ⟨rfl,s,i,rfl,h5,hm,hi⟩
  ·rintro h k x ⟨-, s,i,-, h5,-, hi⟩;exact h h5 i hi
 have p4:(∀ k x,¬ x_7 v T k x)↔(v.k=4->∀ i,¬ T i):=by
  constructor
  ·intro h h4 i hi;exact h _ _ ⟨rfl,i,rfl,h4,hi⟩
  ·rintro h k x ⟨-, i,-, h4,hi⟩;exact h h4 i hi
 have all:(∀ i,¬ T i)↔(v.k=5->∀ i,¬ T i)/\(v.k=4->∀ i,¬ T i):=⟨fun h=>⟨fun _=>h,fun _=>h⟩,fun ⟨h1,h2⟩ i hi=>(z_x (g4 i hi)).elim (fun h=>h2 h i hi) fun h=>h1 h i hi⟩;refine y_A (some (adr ub)) w _ fun K hK=>⟨_,rfl,pm,cat0 g1 rfl,n1,r1,fun hn=>⟨_,rfl,im,cat g1 rfl,n2,r2,hK _ _ ⟨_,rfl,rfl,?_⟩⟩,fun hn=>hK _ _ ⟨_,rfl,rfl,?_⟩⟩
 ·have hn:n1=0:=by simpa using hn
  rw [all,<- p5,<- p4,<- e1,<- e2];simp [hn]
 ·have hn:¬ n1=0:=by simpa using hn
  rw [all,<- p5,<- p4,<- e1,<- e2];simp [hn]
end
theorem OMap.keepT {K:Value->Prop}{lo:Nat}{w w':World}{q:Option Nat}{S:Value->Value->Prop}(h:OMap K lo w q S)(hx:Ext (fun k=>q=some k) w w')(T:TypeId):KeepT T w w':=fun b c fr hb=>by
 refine hx.old _ _ (fun hk=>?_) hb;cases q with
 | none=>cases hk
 | some b'=>
  cases hk;obtain ⟨_,ents,cl,h1,-⟩:=h;rw [h1] at hb;cases hb
theorem D_7 {lo lo':Nat}{w:World}{ub ob:Nat}{v:JV}{T T':Nat->Prop}{pm im:Option Nat}(g1:objAt w ub=some (.cells #[.map pm,.map im] 198 (0,0)))(g2:OMap KS lo w pm (x_9 v T))(g3:OMap KI lo w im (x_7 v T))(g4:∀ i,T i->i∈plc v)(g5:pm=none∨im=none)
  (h':UN lo' w ob v T') (hd:∀ k,pm=some k∨im=some k->k<lo'):
  CP 174 #[.pointer (some (adr ub)),.pointer (some (adr ob))] w fun e w'=>e=.returned (.tuple #[])/\UN lo w' ub v (fun i=>T i/\T' i)/\Ext (fun k=>pm=some k∨im=some k) w w':=by
 have u1:Tryz.prog.underlying 195=some (.map 9 199):=by kernel_rfl
 have u2:Tryz.prog.underlying 196=some (.map 3 199):=by kernel_rfl
 have k1:Tryz.prog.underlying 9=some .string:=by kernel_rfl
 have k2:Tryz.prog.underlying 3=some (.int .i64):=by kernel_rfl
 have hi:Tryz.prog.info? 199=some Tryz.t199:=by kernel_rfl
 have hz:Tryz.t199.zero=some (.agg #[]):=by kernel_rfl
 have ubP:¬ pm=some ub:=fun e=>by obtain ⟨es,cl,h⟩:=g2.obj e;rw [g1] at h;cases h
 have ubI:¬ im=some ub:=fun e=>by obtain ⟨es,cl,h⟩:=g3.obj e;rw [g1] at h;cases h
 obtain ⟨w6,r6,it6,x6⟩:=x_g (P:=Tryz.prog) u1 g2;refine y_X (some (adr ub)) (some (adr ob)) w _ ⟨_,rfl,pm,cat0 g1 rfl,adr w.heap.size,w6,r6,trivial,fun w1=>∃ S R,OIt KS lo w1 w.heap.size pm S R/\(∀ k x,S k x↔x_9 v T k x/\(R k x∨x_9 v T' k x))/\(∀ k x,R k x->x_9 v T k x)/\Ext (fun k=>pm=some k) w w1,fun w1=>leftO w1 w.heap.size,
  ⟨_,_,it6,fun k x=>⟨fun h=>⟨h,.inl h⟩,fun h=>h.1⟩,fun _ _ h=>h,x6.mono fun _ _ e=>e.elim⟩,?_⟩
 have oth:∀ w1,Ext (fun k=>pm=some k∨im=some k) w w1->UN lo' w1 ob v T':=fun w1 x=>h'.ext x (fun e=>by
  obtain ⟨pm',im',o1,-⟩:=h';rcases e with e|e
  ·obtain ⟨es,cl,h⟩:=g2.obj e;rw [o1] at h;cases h
  ·obtain ⟨es,cl,h⟩:=g3.obj e;rw [o1] at h;cases h) fun k es cl hk _ e=>by have:=hd k e;omega
 rintro w9 ⟨S,R,hit,hS,hR,x9⟩ K10 hK10;have y9:Ext (fun k=>pm=some k∨im=some k) w w9:=x9.mono fun _ _ e=>.inl e;rcases hit.next (P:=Tryz.prog) 0 with ⟨n1,n2⟩|⟨k,x,w12,hk,hlt,n1,it12,x12,n2⟩
 ·refine .inl ⟨w9,n1,trivial,hK10 _ _ ⟨nofun,fun _=>?_⟩⟩;have hS':∀ k x,S k x↔x_9 v (fun i=>T i/\T' i) k x:=fun k x=>by
   rw [hS];constructor
   ·rintro ⟨⟨e,s,i,e1,e2,e3,e4⟩,h|⟨-, s',i',f1,-, f3,f4⟩⟩
    ·exact absurd h (n2 k x)
    ·rw [e1] at f1;cases f1;rw [e3] at f3;cases f3;exact ⟨e,s,i,e1,e2,e3,e4,f4⟩
   ·rintro ⟨e,s,i,e1,e2,e3,e4,e5⟩;exact ⟨⟨e,s,i,e1,e2,e3,e4⟩,.inr ⟨e,s,i,e1,e2,e3,e5⟩⟩
  have m9:=hit.map.congr fun k x=>(hS' k x).symm;have i9:OMap KI lo w9 im (x_7 v T):=g3.ext1 x9 fun b hb e=>by
   rcases g5 with g5|g5
   ·rw [g5] at e;cases e
   ·rw [g5] at hb;cases hb
  have b9:=x9.old _ _ ubP g1;obtain ⟨w28,r28,it28,x28⟩:=x_g (P:=Tryz.prog) u2 i9;refine ⟨_,rfl,im,cat b9 rfl,adr w9.heap.size,w28,r28,trivial,fun w1=>∃ S R,OIt KI lo w1 w9.heap.size im S R/\(∀ k x,S k x↔x_7 v T k x/\(R k x∨x_7 v T' k x))/\(∀ k x,R k x->x_7 v T k x)/\Ext (fun k=>im=some k) w9 w1,fun w1=>leftO w1 w9.heap.size,
   ⟨_,_,it28,fun k x=>⟨fun h=>⟨h,.inl h⟩,fun h=>h.1⟩,fun _ _ h=>h,x28.mono fun _ _ e=>e.elim⟩,?_⟩
  rintro w31 ⟨S2,R2,hit2,hS2,hR2,x31⟩ K32 hK32;have y31:Ext (fun k=>pm=some k∨im=some k) w w31:=y9.trans (x31.mono (Y:=fun k=>pm=some k∨im=some k) fun _ _ e=>.inr e) fun _ _ e=>e;rcases hit2.next (P:=Tryz.prog) 0 with ⟨n3,n4⟩|⟨k,x,w34,hk,hlt,n3,it34,x34,n4⟩
  ·refine .inl ⟨w31,n3,trivial,hK32 _ _ ⟨nofun,fun _=>⟨rfl,?_,y31⟩⟩⟩;have hS2':∀ k x,S2 k x↔x_7 v (fun i=>T i/\T' i) k x:=fun k x=>by
    rw [hS2];constructor
    ·rintro ⟨⟨e,i,e1,e2,e4⟩,h|⟨-, i',f1,-, f4⟩⟩
     ·exact absurd h (n4 k x)
     ·rw [e1] at f1;have f1:(i:Int)=i':=by simpa using f1
      obtain rfl:i=i':=by omega
      exact ⟨e,i,e1,e2,e4,f4⟩
    ·rintro ⟨e,i,e1,e2,e4,e5⟩;exact ⟨⟨e,i,e1,e2,e4⟩,.inr ⟨e,i,e1,e2,e5⟩⟩
   refine ⟨pm,im,x31.old _ _ ubI b9,m9.ext1 x31 (fun b hb e=>by
    rcases g5 with g5|g5
    ·rw [g5] at hb;cases hb
    ·rw [g5] at e;cases e),hit2.map.congr fun k x=>(hS2' k x).symm,fun i hi=>g4 i hi.1,g5⟩
  ·obtain ⟨ex,i,rfl,e4,e5⟩:=hR2 k x hk;subst ex;have y34:Ext (fun k=>im=some k) w9 w34:=x31.trans x34 fun b hb e=>by
    subst e;omega
   have z34:Ext (fun k=>pm=some k∨im=some k) w w34:=y9.trans (y34.mono (Y:=fun k=>pm=some k∨im=some k) fun _ _ e=>.inr e) fun _ _ e=>e;have o34:=oth w34 z34;obtain ⟨pm',im',o1,-, o2,-⟩:=o34;obtain ⟨r,g,hrun,hg⟩:=x_l (P:=Tryz.prog) (u:=.int .i64 (i:Int)) u2 k2 hi hz rfl o2;have hr:r=.agg #[]:=by
    rcases hg with ⟨-, hg⟩|⟨-, hg,-⟩
    ·exact hg.1
    ·exact hg
   subst hr;have b34:=y34.old _ _ ubI b9;refine .inr ⟨_,_,w34,n3,trivial,hK32 _ _ ⟨fun _=>⟨_,_,n4,i,rfl,_,rfl,im',cat o1 rfl,g,hrun true,trivial,trivial,?_⟩,nofun⟩⟩;have x42:EF w34 (w34.alloc (.cells #[] 199)):=(Ext.refl _).alloc _;have it42:=it34.ext1 x42 (fun _ _=>id) id;have b42:=x42.old _ _ id b34;refine ⟨fun hz=>?_,fun hz=>⟨⟨S2,_,it42.1,fun k x=>?_,fun k x hkx=>hR2 k x hkx.2,y34.then x42⟩,by dsimp only;rw [it42.2];exact hlt⟩⟩
   ·have hz:g=false:=by simpa using hz
    have hno:¬ T' i:=fun hT=>by
     rcases hg with ⟨hg,-⟩|⟨-, -, hg⟩
     ·rw [hz] at hg;cases hg
     ·exact hg _ ⟨rfl,i,rfl,e4,hT⟩
    obtain ⟨w46,d1,⟨dv,d2⟩,d3,d4⟩:=it42.1.delete (P:=Tryz.prog) (u:=.int .i64 (i:Int)) (ty:=0) (fs:=#[false,false]) u2 k2 rfl;refine ⟨_,rfl,im,cat b42 rfl,dv,w46,d2,⟨it42.1.map.keepT d4 _,trivial⟩,⟨_,_,d3,fun k x=>?_,fun k x hkx=>hR2 k x hkx.2.2,(y34.then x42).trans d4 fun _ _ e=>e⟩,by dsimp only;rw [<- it42.2] at hlt;omega⟩;rw [hS2];constructor
    ·rintro ⟨h1,h2,h3|h3⟩
     ·exact ⟨h2,.inl ⟨h1,h1,h3⟩⟩
     ·exact ⟨h2,.inr h3⟩
    ·rintro ⟨h2,⟨h1,-, h3⟩|h3⟩
     ·exact ⟨h1,h2,.inl h3⟩
     ·refine ⟨?_,h2,.inr h3⟩;rintro rfl;obtain ⟨-, i',f1,-, f4⟩:=h3;have f1:(i:Int)=i':=by simpa using f1
      obtain rfl:i=i':=by omega
      exact hno f4
   ·have hz:g=true:=by simpa using hz
    rw [hS2];refine and_congr Iff.rfl ⟨?_,?_⟩
    ·rintro (h|h)
     ·by_cases hks:k=.int .i64 (i:Int)
      ·subst hks;rcases hg with ⟨-, hg⟩|⟨hg,-⟩
       ·obtain ⟨ex,-⟩:=hR2 _ _ h;subst ex;exact .inr hg
       ·rw [hz] at hg;cases hg
      ·exact .inl ⟨hks,h⟩
     ·exact .inr h
    ·rintro (h|h)
     ·exact .inl h.2
     ·exact .inr h
 ·obtain ⟨ex,s,i,rfl,e2,e3,e4⟩:=hR k x hk;subst ex;have y12:Ext (fun k=>pm=some k) w w12:=x9.trans x12 fun b hb e=>by
   subst e;omega
  have o12:=oth w12 (y12.mono fun _ _ e=>.inl e);obtain ⟨pm',im',o1,o2,o3,-⟩:=o12;obtain ⟨r,g,hrun,hg⟩:=x_l (P:=Tryz.prog) (u:=.string s) u1 k1 hi hz trivial o2;have hr:r=.agg #[]:=by
   rcases hg with ⟨-, hg⟩|⟨-, hg,-⟩
   ·exact hg.1
   ·exact hg
  subst hr;have b12:=y12.old _ _ ubP g1;refine .inr ⟨_,_,w12,n1,trivial,hK10 _ _ ⟨fun _=>⟨_,_,n2,s,rfl,_,rfl,pm',cat0 o1 rfl,g,hrun true,trivial,trivial,?_⟩,nofun⟩⟩;have x20:EF w12 (w12.alloc (.cells #[] 199)):=(Ext.refl _).alloc _;have it20:=it12.ext1 x20 (fun _ _=>id) id;have b20:=x20.old _ _ id b12;refine ⟨fun hz=>?_,fun hz=>⟨⟨S,_,it20.1,fun k x=>?_,fun k x hkx=>hR k x hkx.2,y12.then x20⟩,by dsimp only;rw [it20.2];exact hlt⟩⟩
  ·have hz:g=false:=by simpa using hz
   have hno:¬ T' i:=fun hT=>by
    rcases hg with ⟨hg,-⟩|⟨-, -, hg⟩
    ·rw [hz] at hg;cases hg
    ·exact hg _ ⟨rfl,s,i,rfl,e2,e3,hT⟩
   obtain ⟨w24,d1,⟨dv,d2⟩,d3,d4⟩:=it20.1.delete (P:=Tryz.prog) (u:=.string s) (ty:=0) (fs:=#[false,false]) u1 k1 trivial;refine ⟨_,rfl,pm,cat0 b20 rfl,dv,w24,d2,⟨it20.1.map.keepT d4 _,trivial⟩,⟨_,_,d3,fun k x=>?_,fun k x hkx=>hR k x hkx.2.2,(y12.then x20).trans d4 fun _ _ e=>e⟩,by dsimp only;rw [<- it20.2] at hlt;omega⟩;rw [hS];constructor
   ·rintro ⟨h1,h2,h3|h3⟩
    ·exact ⟨h2,.inl ⟨h1,h1,h3⟩⟩
    ·exact ⟨h2,.inr h3⟩
   ·rintro ⟨h2,⟨h1,-, h3⟩|h3⟩
    ·exact ⟨h1,h2,.inl h3⟩
    ·refine ⟨?_,h2,.inr h3⟩;rintro rfl;obtain ⟨-, s',i',f1,-, f3,f4⟩:=h3;cases f1;rw [e3] at f3;cases f3;exact hno f4
  ·have hz:g=true:=by simpa using hz
   rw [hS];refine and_congr Iff.rfl ⟨?_,?_⟩
   ·rintro (h|h)
    ·by_cases hks:k=.string s
     ·subst hks;rcases hg with ⟨-, hg⟩|⟨hg,-⟩
      ·obtain ⟨ex,-⟩:=hR _ _ h;subst ex;exact .inr hg
      ·rw [hz] at hg;cases hg
     ·exact .inl ⟨hks,h⟩
    ·exact .inr h
   ·rintro (h|h)
    ·exact .inl h.2
    ·exact .inr h
def eff (x:JN):JN:=if x.kind=0 then x else ⟨x.kind,0,[],[],[],0,0,0,0,[],false,[],[],⟨false,0⟩,⟨false,0⟩,⟨false,[]⟩,⟨false,[]⟩,⟨false,0⟩,⟨false,0⟩,⟨false,0⟩,⟨false,0⟩,false,[],0,0,0,⟨false,0⟩,⟨false,0⟩,[],[],[],[],[],⟨0,0⟩,0,0,0,false,[],⟨0,0⟩,[]⟩
theorem z_1 {x:JN}(h:x.kind=0):eff x=x:=by rw [eff,if_pos h]
def ptr (av:Nat->Nat)(n:Int):OA:=if n=0 then none else some (adr (av n.toNat))
def T0 (x:JN)(v:JV)(need:Bool)(i:Nat):Prop:=i∈plc v/\((v.k=5/\x.more.k=0/\(need=true∨x.restP≠0))∨(v.k=4/\x.items=0/\(need=true∨x.restI≠0)/\x.first.length<=i))
theorem y_d {w:World}{B lo sb:Nat}{av:Nat->Nat}{v:JV}{o:Option (TypeId × Value)}{x:JN}{cs:Array Value}{fr:Nat × Nat}(hok:okJ v)(hv:RA w B v o)(hB:B<=w.heap.size)(hlo:lo<=w.heap.size)(hs:objAt w sb=some (.cells cs 116 fr))
  (f0:cs[0]? =some (.bool (decide (x.more.k≠0)))) (f1:cs[1]? =some (.bool (decide (x.items≠0)))) (f2:cs[2]? =some (.int .i64 x.first.length)) (f30:cs[30]? =some (.pointer (ptr av x.restP))) (f41:cs[41]? =some (.pointer (ptr av x.restI))) (hlen:v.xs.length<=16777000) (need:Bool):
  CP 100 #[ifcV o,.pointer (some (adr sb)),.bool need] w fun e w'=>e=.returned (.pointer (some (adr w.heap.size)))/\UN lo w' w.heap.size v (T0 x v need)/\EF w w':=by
 have u1:Tryz.prog.underlying 195=some (.map 9 199):=by kernel_rfl
 have u2:Tryz.prog.underlying 196=some (.map 3 199):=by kernel_rfl
 have u3:Tryz.prog.underlying 110=some (.map 9 20):=by kernel_rfl
 have k1:Tryz.prog.underlying 9=some .string:=by kernel_rfl
 have k2:Tryz.prog.underlying 3=some (.int .i64):=by kernel_rfl
 have x4:EF w (w.alloc (.cells #[.map none,.map none] 198)):=(Ext.refl w).alloc _;have b4:objAt (w.alloc (.cells #[.map none,.map none] 198)) w.heap.size=some (.cells #[.map none,.map none] 198 (0,0)):=w_3 _ _;have isn:∀ n:Int,(ptr av n).isNone=decide (n=0):=fun n=>by
  unfold ptr;split<;>simp [*]
 have empty:(∀ i,¬ T0 x v need i)->UN lo (w.alloc (.cells #[.map none,.map none] 198)) w.heap.size v (T0 x v need):=fun h=>⟨none,none,b4,fun k y ⟨_,s,i,_,_,_,hT⟩=>h i hT,fun k y ⟨_,i,_,_,hT⟩=>h i hT,fun i hi=>hi.1,.inl rfl⟩;refine z_F o (some (adr sb)) need w _ ⟨trivial,trivial,fun K5 hK5=>?_⟩;have hK5:∀ w',UN lo w' w.heap.size v (T0 x v need)->EF w w'->K5 w':=fun w' h1 h2=>hK5 w' ⟨rfl,h1,h2⟩;generalize hw4:w.alloc (.cells #[.map none,.map none] 198)=w4 at *;have hs4:=x4.old _ _ id hs;intro K7 hK7;rcases hv.cases hok with ⟨hk,rfl⟩|⟨hk,rfl⟩|⟨hk,rfl⟩|⟨hk,a,l,c,rfl,hA⟩|⟨hk,b,S,rfl,hO⟩
 ·refine ⟨nofun,fun _=>hK7 _ _ _ ⟨nofun,fun _ K37 hK37=>⟨nofun,fun _=>hK37 _ _ _ _ _ ⟨nofun,fun _=>hK5 _ (empty fun i hi=>?_) x4⟩⟩⟩⟩;rcases z_x hi.1 with h|h<;>omega
 ·refine ⟨nofun,fun _=>hK7 _ _ _ ⟨nofun,fun _ K37 hK37=>⟨nofun,fun _=>hK37 _ _ _ _ _ ⟨nofun,fun _=>hK5 _ (empty fun i hi=>?_) x4⟩⟩⟩⟩;rcases z_x hi.1 with h|h<;>omega
 ·refine ⟨nofun,fun _=>hK7 _ _ _ ⟨nofun,fun _ K37 hK37=>⟨nofun,fun _=>hK37 _ _ _ _ _ ⟨nofun,fun _=>hK5 _ (empty fun i hi=>?_) x4⟩⟩⟩⟩;rcases z_x hi.1 with h|h<;>omega
 ·refine ⟨nofun,fun _=>hK7 _ _ _ ⟨nofun,fun _ K37 hK37=>⟨fun u hu=>?_,fun h=>absurd rfl (h _)⟩⟩⟩;cases hu;have hl:l=v.xs.length:=hA.1;have hp4:∀ i,i∈plc v↔i<v.xs.length:=fun i=>by
   unfold plc;rw [if_neg (by omega),if_pos hk];simp
  refine ⟨_,_,_,rfl,hK37 _ _ _ _ _ ⟨fun _ K41 hK41=>?_,nofun⟩⟩;have hfalse:(¬ (x.items=0/\(need=true∨x.restI≠0)/\x.first.length<l))->K41 false w4:=fun hn=>hK41 _ _ ⟨nofun,fun _=>hK5 _ (empty fun i hi=>by
   obtain ⟨hi,⟨h1,-⟩|⟨-, h1,h2,h3⟩⟩:=hi
   ·omega
   ·exact hn ⟨h1,h2,by have:=(hp4 i).1 hi;omega⟩) x4⟩
  have htrue:(x.items=0/\(need=true∨x.restI≠0)/\x.first.length<l)->K41 true w4:=fun hy=>hK41 _ _ ⟨fun _=>?_,nofun⟩
  ·have hlt:decide ((x.first.length:Int)<(l:Int))=decide (x.first.length<l):=by
    by_cases h:x.first.length<l
    ·rw [decide_eq_true h,decide_eq_true (by omega)]
    ·rw [decide_eq_false h,decide_eq_false (by omega)]
   refine ⟨_,rfl,_,cat hs4 f1,fun h=>⟨fun hn=>⟨_,rfl,_,cat hs4 f41,fun hr=>⟨_,rfl,_,cat hs4 f2,?_⟩,fun hr=>?_⟩,fun hn=>⟨_,rfl,_,cat hs4 f2,?_⟩⟩,fun h=>hfalse fun h'=>by simp [h'.1] at h⟩
   ·rw [isn] at hr;show K41 (decide ((x.first.length:Int)<(l:Int))) w4;rw [hlt];by_cases hc:x.first.length<l
    ·rw [decide_eq_true hc];exact htrue ⟨by simpa using h,.inr (by simpa using hr),hc⟩
    ·rw [decide_eq_false hc];exact hfalse fun h'=>hc h'.2.2
   ·rw [isn] at hr;refine hfalse fun h'=>?_;have hr:x.restI=0:=by simpa using hr
    simp [hn,hr] at h'
   ·show K41 (decide ((x.first.length:Int)<(l:Int))) w4;rw [hlt];by_cases hc:x.first.length<l
    ·rw [decide_eq_true hc];exact htrue ⟨by simpa using h,.inl hn,hc⟩
    ·rw [decide_eq_false hc];exact hfalse fun h'=>hc h'.2.2
  ·have x14:EF w4 (w4.alloc (.map #[] 0)):=(Ext.refl w4).alloc _;have b14:=x14.old _ _ id b4;have b15:=w_4 b14 (i:=1) (.map (some w4.heap.size));have xs15:=w_1 (w:=w4.alloc (.map #[] 0)) (b:=w.heap.size) (i:=1) (.map (some w4.heap.size));have hws:w.heap.size<w4.heap.size:=a_3 b4;have m15:GMap KI ((w4.alloc (.map #[] 0)).setCell ((adr w.heap.size).add 1) (.map (some w4.heap.size))) w4.heap.size fun _ _=>False:=(GMap.made KI w4).ext xs15 (by omega);have x15:EF w ((w4.alloc (.map #[] 0)).setCell ((adr w.heap.size).add 1) (.map (some w4.heap.size))):=(x4.then x14).trans xs15 fun k hk e=>by omega
   have hs15:=x15.old _ _ id hs;refine ⟨⟨_,_,b14,rfl,by rw [Addr.add_lit];simp,rfl⟩,trivial,_,rfl,_,cat hs15 f2,fun i w1=>(x.first.length:Int)<=i/\i<=l/\objAt w1 w.heap.size=some (.cells #[.map none,.map (some w4.heap.size)] 198 (0,0))/\GMap KI w1 w4.heap.size (fun k y=>y=.agg #[]/\∃ j:Nat,k=.int .i64 j/\x.first.length<=j/\(j:Int)<i)/\EF w w1,fun i _=>((l:Int)-i).toNat,
    ⟨by omega,by omega,b15,m15.congr fun k y=>⟨fun ⟨_,j,_,h1,h2⟩=>by omega,fun h=>h.elim⟩,x15⟩,?_⟩
   rintro i w51 ⟨h1,h2,b51,m51,x51⟩;refine ⟨fun hlt=>?_,fun hge=>?_⟩
   ·have hlt:=odt hlt;obtain ⟨w53,r,m53,x53⟩:=x_K (P:=Tryz.prog) (u:=.int .i64 i) (v:=.agg #[]) u2 k2 rfl m51;refine ⟨_,cat b51 rfl,trivial,w53,r,trivial,?_⟩;rw [a_a (by omega) (by omega)];refine ⟨⟨by omega,by omega,x53.old _ _ (by omega) b51,m53.congr fun k y=>?_,x51.trans x53 fun k hk e=>by omega⟩,by dsimp only;omega⟩;constructor
    ·rintro ⟨rfl,j,rfl,h3,h4⟩;by_cases hj:(j:Int)=i
     ·exact .inl ⟨by rw [hj],rfl⟩
     ·exact .inr ⟨fun e=>hj (by simpa using e),rfl,j,rfl,h3,by omega⟩
    ·rintro (⟨rfl,rfl⟩|⟨-, rfl,j,rfl,h3,h4⟩)
     ·exact ⟨rfl,i.toNat,by rw [Int.toNat_of_nonneg (by omega)],by omega,by omega⟩
     ·exact ⟨rfl,j,rfl,h3,by omega⟩
   ·have hge:=odf hge;refine hK5 _ ⟨none,some w4.heap.size,b51,fun k y ⟨_,s,j,_,h5,_⟩=>by omega,⟨by omega,m51.congr fun k y=>?_⟩,fun j hj=>hj.1,.inl rfl⟩ x51;constructor
    ·rintro ⟨rfl,j,rfl,-, hj,h⟩;rcases h with ⟨h,-⟩|⟨-, -, -, h⟩
     ·omega
     ·exact ⟨rfl,j,rfl,h,by have:=(hp4 j).1 hj;omega⟩
    ·rintro ⟨rfl,j,rfl,h3,h4⟩;exact ⟨rfl,j,rfl,hk,(hp4 j).2 (by omega),.inr ⟨hk,hy.1,hy.2.1,h3⟩⟩
 ·refine ⟨fun u hu=>?_,fun h=>absurd rfl (h _)⟩;cases hu;refine ⟨_,rfl,hK7 _ _ _ ⟨fun _ K11 hK11=>?_,nofun⟩⟩;have hfalse:(¬ (x.more.k=0/\(need=true∨x.restP≠0)))->K11 false w4:=fun hn=>hK11 _ _ ⟨nofun,fun _=>hK5 _ (empty fun i hi=>by
   obtain ⟨-, ⟨-, h1,h2⟩|⟨h1,-⟩⟩:=hi
   ·exact hn ⟨h1,h2⟩
   ·omega) x4⟩
  have htrue:(x.more.k=0/\(need=true∨x.restP≠0))->K11 true w4:=fun hy=>hK11 _ _ ⟨fun _=>?_,nofun⟩
  ·refine ⟨_,rfl,_,cat0 hs4 f0,fun h=>⟨fun hn=>⟨_,rfl,_,cat hs4 f30,?_⟩,fun hn=>htrue ⟨by simpa using h,.inl hn⟩⟩,fun h=>hfalse fun h'=>by simp [h'.1] at h⟩;show K11 (!(ptr av x.restP).isNone) w4;rw [isn];by_cases hr:x.restP=0
   ·rw [decide_eq_true hr];exact hfalse fun h'=>by simp [hn,hr] at h'
   ·rw [decide_eq_false hr];exact htrue ⟨by simpa using h,.inr hr⟩
  ·have hp5:∀ i,i∈plc v↔i∈membs v.ns:=fun i=>by
    unfold plc;rw [if_pos hk]
   have x14:EF w4 (w4.alloc (.map #[] 0)):=(Ext.refl w4).alloc _;have b14:=x14.old _ _ id b4;have b15:objAt ((w4.alloc (.map #[] 0)).setCell (adr w.heap.size) (.map (some w4.heap.size))) w.heap.size=some (.cells #[.map (some w4.heap.size),.map none] 198 (0,0)):=w_4 b14 (i:=0) (.map (some w4.heap.size));have xs15:Ext (fun k=>k=w.heap.size) (w4.alloc (.map #[] 0)) ((w4.alloc (.map #[] 0)).setCell (adr w.heap.size) (.map (some w4.heap.size))):=w_1 (w:=w4.alloc (.map #[] 0)) (b:=w.heap.size) (i:=0) (.map (some w4.heap.size));have hws:w.heap.size<w4.heap.size:=a_3 b4;have m15:GMap KS ((w4.alloc (.map #[] 0)).setCell (adr w.heap.size) (.map (some w4.heap.size))) w4.heap.size fun _ _=>False:=(GMap.made KS w4).ext xs15 (by omega);have x15:EF w ((w4.alloc (.map #[] 0)).setCell (adr w.heap.size) (.map (some w4.heap.size))):=(x4.then x14).trans xs15 fun k hk e=>by omega
   have hO15:OMap KS 0 ((w4.alloc (.map #[] 0)).setCell (adr w.heap.size) (.map (some w4.heap.size))) (some b) S:=⟨Nat.zero_le _,(hO.ext x15 fun _ e=>e.elim).2.1⟩;obtain ⟨w17,r17,it17,x17⟩:=x_g (P:=Tryz.prog) u3 hO15;have hb:b<B:=hO.1;refine ⟨⟨_,_,b14,rfl,by simp,rfl⟩,trivial,_,w17,r17,trivial,fun w1=>∃ R,OIt KS 0 w1 ((w4.alloc (.map #[] 0)).setCell (adr w.heap.size) (.map (some w4.heap.size))).heap.size (some b) S R/\objAt w1 w.heap.size=some (.cells #[.map (some w4.heap.size),.map none] 198 (0,0))/\GMap KS w1 w4.heap.size (fun k y=>y=.agg #[]/\(∃ z,S k z)/\∀ z,¬ R k z)/\EF w w1,fun w1=>leftO w1 ((w4.alloc (.map #[] 0)).setCell (adr w.heap.size) (.map (some w4.heap.size))).heap.size,
    ⟨_,it17,x17.old _ _ id b15,(m15.ext x17 id).congr fun k y=>⟨fun ⟨_,⟨z,hz⟩,h⟩=>h z hz,fun h=>h.elim⟩,x15.then x17⟩,?_⟩
   have hw15:w4.heap.size<((w4.alloc (.map #[] 0)).setCell (adr w.heap.size) (.map (some w4.heap.size))).heap.size:=m15.lt;rintro w20 ⟨R,it,b20,m20,x20⟩ K21 hK21;rcases it.next (P:=Tryz.prog) 0 with ⟨n1,n2⟩|⟨k,z,w23,hR,hlt,n1,it23,x23,n2⟩
   ·refine .inl ⟨w20,n1,trivial,hK21 _ _ ⟨nofun,fun _=>hK5 _ ⟨some w4.heap.size,none,b20,⟨by omega,m20.congr fun k y=>?_⟩,fun k y ⟨_,j,_,h4,_⟩=>by omega,fun j hj=>hj.1,.inr rfl⟩ x20⟩⟩;constructor
    ·rintro ⟨rfl,s,i,rfl,-, hm,-⟩;exact ⟨rfl,hO.2.2.2 s i hm,fun z hz=>n2 _ _ hz⟩
    ·rintro ⟨rfl,⟨z,hz⟩,-⟩;obtain ⟨s,i,y',o',rfl,h2,h3,h4,-⟩:=hO.2.2.1 _ _ hz;exact ⟨rfl,s,i,rfl,hk,h2,(hp5 i).2 (x_f.2 ⟨s,(x_a.1 h2).1,h2⟩),.inl ⟨hk,hy.1,hy.2⟩⟩
   ·obtain ⟨s,i,y',o',rfl,h2,h3,h4,-⟩:=hO.2.2.1 _ _ (it.sub hR);have b23:=x23.old _ _ (by omega) b20;have m23:=m20.ext x23 (by omega);obtain ⟨w28,r,m28,x28⟩:=x_K (P:=Tryz.prog) (u:=.string s) (v:=.agg #[]) u1 k1 trivial m23;have it28:=it23.ext1 x28 (fun b' e e'=>by cases e;omega) (by omega);refine .inr ⟨_,_,w23,n1,trivial,hK21 _ _ ⟨fun _=>⟨_,_,n2,s,rfl,_,cat0 b23 rfl,trivial,w28,r,trivial,⟨_,it28.1,x28.old _ _ (by omega) b23,m28.congr fun k y=>?_,(x20.trans x23 fun k hk e=>by omega).trans x28 fun k hk e=>by omega⟩,by dsimp only;rw [it28.2];exact hlt⟩,nofun⟩⟩;constructor
    ·rintro ⟨rfl,hS,hR'⟩;by_cases hks:k=.string s
     ·exact .inl ⟨hks,rfl⟩
     ·exact .inr ⟨hks,rfl,hS,fun z hz=>hR' z ⟨hks,hz⟩⟩
    ·rintro (⟨rfl,rfl⟩|⟨hks,rfl,hS,hR'⟩)
     ·exact ⟨rfl,⟨_,it.sub hR⟩,fun z hz=>hz.1 rfl⟩
     ·exact ⟨rfl,hS,fun z hz=>hR' z hz.2⟩
def RSl {α:Type}(w:World)(B:Nat)(R:α->Value->Prop)(a:OA)(l c:Nat)(xs:List α):Prop:=l=xs.length/\l<=c/\∀ (i:Nat) (y:α),xs[i]? =some y->∃ p T u,a=some p/\p.block<B/\At w T (p.add i) u/\R y u
theorem RSl.ext {α:Type}{X:Nat->Prop}{w w':World}{B:Nat}{R:α->Value->Prop}{a:OA}{l c:Nat}{xs:List α}(h:RSl w B R a l c xs)(hx:Ext X w w')(hX:∀ k,X k->B<=k):RSl w' B R a l c xs:=by
 refine ⟨h.1,h.2.1,fun i y hy=>?_⟩;obtain ⟨p,T,u,e1,e2,e3,e4⟩:=h.2.2 i y hy;refine ⟨p,T,u,e1,e2,hx.at (fun hk=>?_) e3,e4⟩;have:=hX _ hk;have e5:(p.add i).block=p.block:=by unfold Addr.add;split<;>rfl
 omega
theorem RSl.get {α:Type}{w:World}{B:Nat}{R:α->Value->Prop}{a:OA}{l c:Nat}{xs:List α}(h:RSl w B R a l c xs){i:Int}(h0:0<=i)(h1:i<l):∃ p y u,a=some p/\xs[i.toNat]? =some y/\p.block<B/\w.cell? (p.add (i.toNat*1))=some u/\R y u:=by
 have hi:i.toNat<xs.length:=by have:=h.1;omega
 obtain ⟨p,T,u,e1,e2,e3,e4⟩:=h.2.2 i.toNat xs[i.toNat] (List.getElem?_eq_getElem hi);exact ⟨p,_,u,e1,List.getElem?_eq_getElem hi,e2,by rw [Nat.mul_one];exact e3.cell,e4⟩
abbrev RStr (s:BA)(u:Value):Prop:=u=.string s
abbrev RPt (av:Nat->Nat)(n:Int)(u:Value):Prop:=u=.pointer (some (adr (av n.toNat)))
def RLim (w:World)(B:Nat)(x:JLim)(u:Value):Prop:=if x.is=true then ∃ b T fr u0,u=.pointer (some ((adr b).add 1))/\b<B/\objAt w b=some (.cells #[u0,.int .i64 x.n] T fr) else u=.pointer none
def RTak (w:World)(B:Nat)(b:Nat)(x:List BA):Prop:=b<B/\∃ a l c T fr,objAt w b=some (.cells #[.slice a l c] T fr)/\RSl w B RStr a l c x
def RPrM (w:World)(B:Nat)(av:Nat->Nat)(x:List JPr)(u:Value):Prop:=∃ b S,u=.map (some b)/\b<B/\GMap KS w b S/\∀ k y,S k y↔∃ q∈lasts JPr.name x,k=.string q.name/\y=.pointer (some (adr (av q.node.toNat)))
def bitK (s:BA):Nat:=if s=⟨#[110,117,108,108]⟩ then 2 else if s=⟨#[98,111,111,108,101,97,110]⟩ then 4 else if s=⟨#[110,117,109,98,101,114]⟩ then 8 else if s=⟨#[105,110,116,101,103,101,114]⟩ then 16 else if s=⟨#[115,116,114,105,110,103]⟩ then 32 else if s=⟨#[97,114,114,97,121]⟩ then 64 else if s=⟨#[111,98,106,101,99,116]⟩ then 128 else 0
def bitsK (l:List BA):Nat:=l.foldl (fun n s=>n ||| bitK s) 0
def bitV (v:JV):Nat:=bitK (kindN v.k)
structure SchK (w:World) (B:Nat) (av:Nat->Nat) (x:JN) (cs:Array Value):Prop where
 f5:cs[5]? =some (.pointer none)
 ref:cs[7]? =some (.pointer (ptr av x.ref))
 types:∃ u,cs[9]? =some u/\if x.types=[] then u=.pointer none else ∃ b T fr,u=.pointer (some (adr b))/\b<B/\objAt w b=some (.cells #[.int .i64 (bitsK x.types:Nat)] T fr)
 enm:∃ u,cs[10]? =some u/\if x.hasEnum=true then ∃ b T fr a l c n,u=.pointer (some (adr b))/\b<B/\objAt w b=some (.cells #[.slice a l c,.int .i64 (n:Nat)] T fr)/\RArr w B x.enm a l c/\n=x.enm.foldl (fun n v=>n ||| bitV v) 0 else u=.pointer none
 cst:∃ u,cs[11]? =some u/\match x.cst with
  | []=>u=.pointer none
  | c::_=>∃ b T fr o,u=.pointer (some (adr b))/\b<B/\objAt w b=some (.cells #[ifcV o] T fr)/\RA w B c o
 nt:cs[12]? =some (.pointer (ptr av x.nt))
 allOf:∃ a l c,cs[13]? =some (.slice a l c)/\RSl w B (RPt av) a l c x.allOf
 anyOf:∃ a l c,cs[14]? =some (.slice a l c)/\RSl w B (RPt av) a l c x.anyOf
 oneOf:∃ a l c,cs[15]? =some (.slice a l c)/\RSl w B (RPt av) a l c x.oneOf
 iff:cs[16]? =some (.pointer (ptr av x.iff))
 thn:cs[17]? =some (.pointer (ptr av x.thn))
 els:cs[18]? =some (.pointer (ptr av x.els))
 fmt:∃ u,cs[19]? =some u/\if x.fmt.is=true then ∃ b T fr s tb cb T' fr',u=.pointer (some (adr b))/\b<B/\objAt w b=some (.cells #[.string s,.func (.func 114) #[] #[.pointer (some (adr cb))]] T fr)/\cb<B/\objAt w cb=some (.cells #[.pointer (some (adr tb))] T' fr')/\RTak w B tb x.fmt.ts else u=.pointer none
 maxP:∃ u,cs[20]? =some u/\RLim w B x.maxP u
 minP:∃ u,cs[21]? =some u/\RLim w B x.minP u
 req:∃ a l c,cs[22]? =some (.slice a l c)/\RSl w B RStr a l c x.req
 names:cs[23]? =some (.pointer (ptr av x.names))
 props:∃ u,cs[24]? =some u/\RPrM w B av x.props u
 pats:∃ u b S,cs[25]? =some u/\u=.map (some b)/\b<B/\GMap (fun k=>∃ tb,k=.iface 149 (.pointer (some (adr tb)))) w b S/\(∀ k y,S k y->∃ q∈x.pats,∃ tb,k=.iface 149 (.pointer (some (adr tb)))/\RTak w B tb q.ts/\y=.pointer (some (adr (av q.node.toNat))))/\
  (∀ q∈x.pats,∃ tb,RTak w B tb q.ts/\S (.iface 149 (.pointer (some (adr tb)))) (.pointer (some (adr (av q.node.toNat)))))/\(∀ L:List Value,L.Nodup->(∀ k,k∈L↔∃ v,S k v)->L.length<=x.pats.length)
 more:cs[26]? =some (if x.more.k=0 then .nilIface else if x.more.k=3 then .iface 72 (.pointer (some (adr (av x.more.node.toNat)))) else .iface 4 (.bool (decide (x.more.k=1))))
 deps':∃ b,cs[27]? =some (.map (some b))/\b<B/\GMap KS w b fun _ _=>False
 needs:∃ b S,cs[28]? =some (.map (some b))/\b<B/\GMap KS w b S/\(∀ k y,S k y->∃ q∈lasts JNe.name x.needs,k=.string q.name/\∃ a l c,y=.slice a l c/\RSl w B RStr a l c q.names)/\∀ q∈lasts JNe.name x.needs,∃ y,S (.string q.name) y
 deps:∃ u,cs[29]? =some u/\RPrM w B av x.deps u
 minI:∃ u,cs[31]? =some u/\RLim w B x.minI u
 maxI:∃ u,cs[32]? =some u/\RLim w B x.maxI u
 uniq:cs[33]? =some (.bool x.uniq)
 cont:cs[34]? =some (.pointer (ptr av x.cont))
 minC:∃ u,cs[35]? =some u/\RLim w B x.minC u
 maxC:∃ u,cs[36]? =some u/\RLim w B x.maxC u
 first:∃ a l c,cs[39]? =some (.slice a l c)/\RSl w B (RPt av) a l c x.first
 items:cs[40]? =some (.pointer (ptr av x.items))
 minL:∃ u,cs[42]? =some u/\RLim w B x.minL u
 maxL:∃ u,cs[43]? =some u/\RLim w B x.maxL u
 pat:∃ u,cs[44]? =some u/\if x.pat.is=true then ∃ tb,u=.iface 149 (.pointer (some (adr tb)))/\RTak w B tb x.pat.ts else u=.nilIface
structure SchC (w:World) (B:Nat) (av:Nat->Nat) (x:JN) (cs:Array Value):Prop where
 f0:cs[0]? =some (.bool (decide ((eff x).more.k≠0)))
 f1:cs[1]? =some (.bool (decide ((eff x).items≠0)))
 f2:cs[2]? =some (.int .i64 (eff x).first.length)
 f3:cs[3]? =some (.int .i64 2020)
 f4:∃ s,cs[4]? =some (.string s)
 f30:cs[30]? =some (.pointer (ptr av (eff x).restP))
 f41:cs[41]? =some (.pointer (ptr av (eff x).restI))
 bool:x.kind≠0->∃ b T fr,cs[5]? =some (.pointer (some (adr b)))/\b<B/\objAt w b=some (.cells #[.bool (decide (x.kind=1))] T fr)
 words:x.kind=0->SchK w B av x cs
structure Sch (w:World) (B:Nat) (av:Nat->Nat) (s:List JN):Prop where
 as_:AsOK w av s.length
 lt:∀ n,1<=n->n<=s.length->av n<B
 ok:∀ (i:Nat) x,s[i]? =some x->∃ cs,objAt w (av (i+1))=some (.cells cs 116 (0,0))/\SchC w B av x cs
section
variable {X:Nat->Prop} {w w':World} {B:Nat} {av:Nat->Nat}
theorem x_i {b:Nat}{o:Obj}(hx:Ext X w w')(hX:∀ k,X k->B<=k)(hb:b<B)(h:objAt w b=some o):objAt w' b=some o:=hx.old _ _ (fun hk=>by have:=hX _ hk;omega) h
theorem y_H {K:Value->Prop}{b:Nat}{S:Value->Value->Prop}(hx:Ext X w w')(hX:∀ k,X k->B<=k)(hb:b<B)(h:GMap K w b S):GMap K w' b S:=h.ext hx fun hk=>by have:=hX _ hk;omega
theorem RLim.ext {x:JLim}{u:Value}(h:RLim w B x u)(hx:Ext X w w')(hX:∀ k,X k->B<=k):RLim w' B x u:=by
 unfold RLim at h ⊢;split
 ·rename_i hi;rw [if_pos hi] at h;obtain ⟨b,T,fr,u0,h1,h2,h3⟩:=h;exact ⟨b,T,fr,u0,h1,h2,x_i hx hX h2 h3⟩
 ·rename_i hi
  rwa [if_neg hi] at h
theorem RTak.ext {b:Nat}{x:List BA}(h:RTak w B b x)(hx:Ext X w w')(hX:∀ k,X k->B<=k):RTak w' B b x:=by
 obtain ⟨h1,a,l,c,T,fr,h2,h3⟩:=h;exact ⟨h1,a,l,c,T,fr,x_i hx hX h1 h2,h3.ext hx hX⟩
theorem RPrM.ext {x:List JPr}{u:Value}(h:RPrM w B av x u)(hx:Ext X w w')(hX:∀ k,X k->B<=k):RPrM w' B av x u:=by
 obtain ⟨b,S,h1,h2,h3,h4⟩:=h;exact ⟨b,S,h1,h2,y_H hx hX h2 h3,h4⟩
theorem SchK.ext {x:JN}{cs:Array Value}(h:SchK w B av x cs)(hx:Ext X w w')(hX:∀ k,X k->B<=k):SchK w' B av x cs where
 f5:=h.f5
 ref:=h.ref
 types:=by
  obtain ⟨u,h1,h2⟩:=h.types;refine ⟨u,h1,?_⟩;split
  ·rename_i hi
   rwa [if_pos hi] at h2
  ·rename_i hi;rw [if_neg hi] at h2;obtain ⟨b,T,fr,e1,e2,e3⟩:=h2;exact ⟨b,T,fr,e1,e2,x_i hx hX e2 e3⟩
 enm:=by
  obtain ⟨u,h1,h2⟩:=h.enm;refine ⟨u,h1,?_⟩;split
  ·rename_i hi;rw [if_pos hi] at h2;obtain ⟨b,T,fr,a,l,c,n,e1,e2,e3,e4,e5⟩:=h2;exact ⟨b,T,fr,a,l,c,n,e1,e2,x_i hx hX e2 e3,e4.ext hx hX,e5⟩
  ·rename_i hi
   rwa [if_neg hi] at h2
 cst:=by
  obtain ⟨u,h1,h2⟩:=h.cst;refine ⟨u,h1,?_⟩;split
  ·rename_i hi
   rwa [hi] at h2
  ·rename_i hi;rw [hi] at h2;obtain ⟨b,T,fr,o,e1,e2,e3,e4⟩:=h2;exact ⟨b,T,fr,o,e1,e2,x_i hx hX e2 e3,e4.ext hx hX⟩
 nt:=h.nt
 allOf:=by obtain ⟨a,l,c,h1,h2⟩:=h.allOf;exact ⟨a,l,c,h1,h2.ext hx hX⟩
 anyOf:=by obtain ⟨a,l,c,h1,h2⟩:=h.anyOf;exact ⟨a,l,c,h1,h2.ext hx hX⟩
 oneOf:=by obtain ⟨a,l,c,h1,h2⟩:=h.oneOf;exact ⟨a,l,c,h1,h2.ext hx hX⟩
 iff:=h.iff
 thn:=h.thn
 els:=h.els
 fmt:=by
  obtain ⟨u,h1,h2⟩:=h.fmt;refine ⟨u,h1,?_⟩;split
  ·rename_i hi;rw [if_pos hi] at h2;obtain ⟨b,T,fr,s,tb,cb,T',fr',e1,e2,e3,e4,e5,e6⟩:=h2;exact ⟨b,T,fr,s,tb,cb,T',fr',e1,e2,x_i hx hX e2 e3,e4,x_i hx hX e4 e5,e6.ext hx hX⟩
  ·rename_i hi
   rwa [if_neg hi] at h2
 maxP:=by obtain ⟨u,h1,h2⟩:=h.maxP;exact ⟨u,h1,h2.ext hx hX⟩
 minP:=by obtain ⟨u,h1,h2⟩:=h.minP;exact ⟨u,h1,h2.ext hx hX⟩
 req:=by obtain ⟨a,l,c,h1,h2⟩:=h.req;exact ⟨a,l,c,h1,h2.ext hx hX⟩
 names:=h.names
 props:=by obtain ⟨u,h1,h2⟩:=h.props;exact ⟨u,h1,h2.ext hx hX⟩
 pats:=by
  obtain ⟨u,b,S,h1,h2,h3,h4,h5,h6,h7⟩:=h.pats;refine ⟨u,b,S,h1,h2,h3,y_H hx hX h3 h4,fun k y hs=>?_,fun q hq=>?_,h7⟩
  ·obtain ⟨q,hq,tb,e1,e2,e3⟩:=h5 k y hs;exact ⟨q,hq,tb,e1,e2.ext hx hX,e3⟩
  ·obtain ⟨tb,e1,e2⟩:=h6 q hq;exact ⟨tb,e1.ext hx hX,e2⟩
 more:=h.more
 deps':=by obtain ⟨b,h1,h2,h3⟩:=h.deps';exact ⟨b,h1,h2,y_H hx hX h2 h3⟩
 needs:=by
  obtain ⟨b,S,h1,h2,h3,h4,h5⟩:=h.needs;refine ⟨b,S,h1,h2,y_H hx hX h2 h3,fun k y hs=>?_,h5⟩;obtain ⟨q,hq,e1,a,l,c,e2,e3⟩:=h4 k y hs;exact ⟨q,hq,e1,a,l,c,e2,e3.ext hx hX⟩
 deps:=by obtain ⟨u,h1,h2⟩:=h.deps;exact ⟨u,h1,h2.ext hx hX⟩
 minI:=by obtain ⟨u,h1,h2⟩:=h.minI;exact ⟨u,h1,h2.ext hx hX⟩
 maxI:=by obtain ⟨u,h1,h2⟩:=h.maxI;exact ⟨u,h1,h2.ext hx hX⟩
 uniq:=h.uniq
 cont:=h.cont
 minC:=by obtain ⟨u,h1,h2⟩:=h.minC;exact ⟨u,h1,h2.ext hx hX⟩
 maxC:=by obtain ⟨u,h1,h2⟩:=h.maxC;exact ⟨u,h1,h2.ext hx hX⟩
 first:=by obtain ⟨a,l,c,h1,h2⟩:=h.first;exact ⟨a,l,c,h1,h2.ext hx hX⟩
 items:=h.items
 minL:=by obtain ⟨u,h1,h2⟩:=h.minL;exact ⟨u,h1,h2.ext hx hX⟩
 maxL:=by obtain ⟨u,h1,h2⟩:=h.maxL;exact ⟨u,h1,h2.ext hx hX⟩
 pat:=by
  obtain ⟨u,h1,h2⟩:=h.pat;refine ⟨u,h1,?_⟩;split
  ·rename_i hi;rw [if_pos hi] at h2;obtain ⟨tb,e1,e2⟩:=h2;exact ⟨tb,e1,e2.ext hx hX⟩
  ·rename_i hi
   rwa [if_neg hi] at h2
theorem SchC.ext {x:JN}{cs:Array Value}(h:SchC w B av x cs)(hx:Ext X w w')(hX:∀ k,X k->B<=k):SchC w' B av x cs where
 f0:=h.f0
 f1:=h.f1
 f2:=h.f2
 f3:=h.f3
 f4:=h.f4
 f30:=h.f30
 f41:=h.f41
 bool hk:=by
  obtain ⟨b,T,fr,h1,h2,h3⟩:=h.bool hk;exact ⟨b,T,fr,h1,h2,x_i hx hX h2 h3⟩
 words hk:=(h.words hk).ext hx hX
theorem Sch.ext {s:List JN}(h:Sch w B av s)(hx:Ext X w w')(hX:∀ k,X k->B<=k):Sch w' B av s where
 as_:=⟨fun n h1 h2=>by
  obtain ⟨cs,hcs⟩:=h.as_.at_ n h1 h2;exact ⟨cs,x_i hx hX (h.lt n h1 h2) hcs⟩,h.as_.inj⟩
 lt:=h.lt
 ok i x hi:=by
  obtain ⟨cs,h1,h2⟩:=h.ok i x hi;have hl:i<s.length:=(List.getElem?_eq_some_iff.1 hi).1;exact ⟨cs,x_i hx hX (h.lt (i+1) (by omega) (by omega)) h1,h2.ext hx hX⟩
end
def CV (s:List JN)(av:Nat->Nat)(B:Nat)(f:Nat):Prop:=∀ (n:Nat) (x:JN) (v:JV) (w:World) (lo vb:Nat) (d:VdC) (need:Bool) (vid:Int) (k:Nat),MJ s.length v n<f->1<=n->s[n-1]? =some x->okV v->d.l+szJ v<=1100000->
 B<=lo->lo<=w.heap.size->Sch w B av s->RA w B v d.o->d.sb=av n->VBlk w vb d none 0 0->lo<=vb->VPl w d->Scp w av s.length d.pb n vid k->UN lo w d.ub v (T0 (eff x) v need)->lo<=d.ub->B<=d.g->
 CP 101 #[.pointer (some (adr vb))] w fun e w'=>∃ (q:OA) (o:Option (TypeId × Value)),e=.returned (.tuple #[.pointer q,ifcV o])/\Ext (fun k=>lo<=k∨k=d.g) w w'/\(∀ c,SB w d.g c->SB w' d.g c)/\
  (o=none↔(w_2 2020 s f (n:Int) v).1=true)/\
  (o=none->q=some (adr d.ub)/\∃ T,UN lo w' d.ub v T/\(∀ i,T i->¬ mkd (w_2 2020 s f (n:Int) v).2 i)/\(need=true->∀ i∈plc v,¬ mkd (w_2 2020 s f (n:Int) v).2 i->T i))/\
  (o≠none->∃ q,o=some (169,.pointer q)/\VErr lo w' q)
theorem set7 {w:World}{b:Nat}{T:TypeId}{u0 u1 u2 u3 u4 u5 u6:Value}(h:objAt w b=some (.cells #[u0,u1,u2,u3,u4,u5,u6] T (0,0)))(v0 v1 v2 v3 v4 v5 v6:Value):
  objAt (((((((w.setCell (adr b) v0).setCell ((adr b).add 1) v1).setCell ((adr b).add 2) v2).setCell ((adr b).add 3) v3).setCell ((adr b).add 4) v4).setCell ((adr b).add 5) v5).setCell ((adr b).add 6) v6) b=some (.cells #[v0,v1,v2,v3,v4,v5,v6] T (0,0)):=by
 have h0:objAt (w.setCell (adr b) v0) b=some (.cells #[v0,u1,u2,u3,u4,u5,u6] T (0,0)):=w_4 h (i:=0) v0;have h1:objAt _ b=some (.cells #[v0,v1,u2,u3,u4,u5,u6] T (0,0)):=w_4 h0 (i:=1) v1;have h2:objAt _ b=some (.cells #[v0,v1,v2,u3,u4,u5,u6] T (0,0)):=w_4 h1 (i:=2) v2;have h3:objAt _ b=some (.cells #[v0,v1,v2,v3,u4,u5,u6] T (0,0)):=w_4 h2 (i:=3) v3;have h4:objAt _ b=some (.cells #[v0,v1,v2,v3,v4,u5,u6] T (0,0)):=w_4 h3 (i:=4) v4;have h5:objAt _ b=some (.cells #[v0,v1,v2,v3,v4,v5,u6] T (0,0)):=w_4 h4 (i:=5) v5;exact w_4 h5 (i:=6) v6
theorem A_x {w:World}{b:Nat}(v0 v1 v2 v3 v4 v5 v6:Value):Ext (fun k=>k=b) w (((((((w.setCell (adr b) v0).setCell ((adr b).add 1) v1).setCell ((adr b).add 2) v2).setCell ((adr b).add 3) v3).setCell ((adr b).add 4) v4).setCell ((adr b).add 5) v5).setCell ((adr b).add 6) v6):=by
 have e0:Ext (fun k=>k=b) w (w.setCell (adr b) v0):=w_1 (i:=0) v0;exact (((((e0.trans (w_1 v1) fun _ _ e=>e).trans (w_1 v2) fun _ _ e=>e).trans (w_1 v3) fun _ _ e=>e).trans (w_1 v4) fun _ _ e=>e).trans (w_1 v5) fun _ _ e=>e).trans (w_1 v6) fun _ _ e=>e
theorem A_Z (n:Int):¬ wr (n+1)=n:=by
 simp only [IntKind.wrap,IntKind.bits,IntKind.signed,Bool.true_and,decide_eq_true_eq];split<;>omega
structure Ctx (s:List JN) (av:Nat->Nat) (B:Nat) (w:World) (vb:Nat) (d:VdC) (n:Nat) (vid:Int) (k:Nat):Prop where
 sch:Sch w B av s
 hB:B<=w.heap.size
 pl:VPl w d
 scp:Scp w av s.length d.pb n vid k
 hsb:d.sb=av n
 hg:B<=d.g
 hvb:B<=vb
theorem Ctx.ext {s:List JN}{av:Nat->Nat}{B:Nat}{w w':World}{vb:Nat}{d:VdC}{n:Nat}{vid:Int}{k:Nat}{X:Nat->Prop}(h:Ctx s av B w vb d n vid k)(hx:Ext X w w')(hX:∀ k,X k->B<=k)(h1:∀ k cs fr,objAt w k=some (.cells cs 9 fr)->¬ X k)(h2:∀ k cs fr,objAt w k=some (.cells cs 161 fr)->¬ X k):Ctx s av B w' vb d n vid k where
 sch:=h.sch.ext hx hX
 hB:=lt_ h.hB hx.size
 pl:=by
  obtain ⟨hs,hlc,hcm,hl,cs,fr,t,ho,hcs⟩:=h.pl;obtain ⟨cur,e1,e2⟩:=hs;have hn:1<=n/\n<=s.length:=by
   have:=h.scp;cases this with
   | top h h1 h2=>exact ⟨h1,h2⟩
   | sub h h1 h2=>exact ⟨h1,h2⟩
  have hb:=h.sch.lt n hn.1 hn.2;rw [<- h.hsb] at hb;exact ⟨⟨cur,hx.old _ _ (h1 _ _ _ e1) e1,e2⟩,hlc,hcm,hl,cs,fr,t,x_i hx hX hb ho,hcs⟩
 scp:=h.scp.ext hx h2
 hsb:=h.hsb
 hg:=h.hg
 hvb:=h.hvb
theorem Ctx.fr {s:List JN}{av:Nat->Nat}{B:Nat}{w w':World}{vb:Nat}{d:VdC}{n:Nat}{vid:Int}{k:Nat}(h:Ctx s av B w vb d n vid k)(hx:FR d.g w w'):Ctx s av B w' vb d n vid k where
 sch:=h.sch.ext hx.x fun k e=>by have:=h.hg;omega
 hB:=lt_ h.hB hx.x.size
 pl:=by
  obtain ⟨hs,hlc,hcm,hl,cs,fr,t,ho,hcs⟩:=h.pl;have hg:d.sb≠d.g:=by
   obtain ⟨cur,e1,e2⟩:=hs;exact x_u ho e1 (by decide)
  exact ⟨hx.s _ hs,hlc,hcm,hl,cs,fr,t,hx.x.old _ _ hg ho,hcs⟩
 scp:=h.scp.ext hx.x fun b cs fr hb e=>by
  obtain ⟨⟨cur,e1,e2⟩,-⟩:=h.pl;subst e;rw [e1] at hb;cases hb
 hsb:=h.hsb
 hg:=h.hg
 hvb:=h.hvb
section
variable {s:List JN} {av:Nat->Nat} {B f:Nat}
theorem A_i (hS:okS s)(IH:CV s av B f){w:World}{vb:Nat}{d:VdC}{a:OA}{l c n k:Nat}{vid:Int}(hC:Ctx s av B w vb d n vid k)(hv:VBlk w vb d a l c){n':Nat}{x':JN}{v':JV}{o':Option (TypeId × Value)}(h1:1<=n')(hx':s[n'-1]? =some x')(hM:MJ s.length v' n'<f)(hok:okV v')(hra:RA w B v' o')(hl:d.l+1+szJ v'<=1100000)(tok:BA):
  CP 154 #[.pointer (some (adr vb)),.pointer (some (adr (av n'))),ifcV o',.string tok] w fun e w'=>∃ o,e=.returned (ifcV o)/\FR d.g w w'/\(o=none↔(w_2 2020 s f (n':Int) v').1=true)/\(o≠none->∃ q,o=some (169,.pointer q)/\VErr w.heap.size w' q):=by
 have hn':n'<=s.length:=by have:=(List.getElem?_eq_some_iff.1 hx').1;omega
 have x7:EF w (w.alloc (.cells #[.string tok] 9)):=(Ext.refl w).alloc _;have hp:=hC.pl;have hgl:d.g<w.heap.size:=hp.sb.lt;obtain ⟨G,C,w9,r9,sb9,hlC,hCm,fr9,hG⟩:=D_O (hp.sb.ext x7 id) hp.lc hp.cm hp.l (p:=adr w.heap.size) (s:=tok) (cat0 (w_3 _ _) rfl) 24 #[false,false];have y9:FR d.g w w9:=(FR.of x7).trans fr9;have hG:G=d.g∨w.heap.size<=G:=by
  rcases hG with h|h
  ·exact .inl h
  ·right;simp only [World.alloc,Array.size_push] at h;omega
 have hvne:vb≠d.g:=by
  obtain ⟨cur,e1,-⟩:=hp.sb;exact x_u hv e1 (by decide)
 have hv9:VBlk w9 vb d a l c:=y9.x.old _ _ hvne hv;have C9:=hC.fr y9;refine x_R (some (adr vb)) (some (adr (av n'))) o' tok w _ ⟨_,rfl,_,_,_,cat hv rfl,trivial,some (adr G),d.l+1,C,w9,r9,trivial,?_⟩;rintro w10 rfl;have x10:EF w9 w9.drew:=(Ext.refl _).drew;have hv10:VBlk w9.drew vb d a l c:=x10.old _ _ id hv9;have C10:=C9.fr (FR.of x10);have hscp:∃ kw q,objAt w9.drew d.pb=some (.cells #[.pointer (some (adr (av n))),.string kw,.int .i64 vid,.pointer q] 161 (0,0)):=by
  cases C10.scp with
  | top h=>exact ⟨_,_,h⟩
  | sub h=>exact ⟨_,_,h⟩
 obtain ⟨kw,q,hscp⟩:=hscp;refine ⟨_,rfl,_,cat hv10 rfl,_,rfl,_,cat hv10 rfl,_,rfl,vid,cat hscp rfl,(C_m _ _ _ _ _).mono ?_⟩;rintro _ w18 ⟨rfl,hw18⟩;have x18:EF w9.drew w18:=hw18▸(Ext.refl _).alloc _;have o18:objAt w18 w9.drew.heap.size=some (.cells #[.pointer (some (adr (av n'))),.string ⟨#[]⟩,.int .i64 (wr (vid+1)),.pointer (some (adr d.pb))] 161 (0,0)):=hw18▸w_3 _ _;clear hw18;have C18:=C10.fr (FR.of x18);have z18:FR d.g w w18:=(y9.then x10).then x18;have scp18:Scp w18 av s.length w9.drew.heap.size n' (wr (vid+1)) (k+1):=.sub o18 h1 hn' C18.scp fun e=>absurd e.symm (A_Z vid);have hX:∀ k,k=d.g->B<=k:=fun k e=>by have:=hC.hg;omega
 have ra18:RA w18 B v' o':=hra.ext z18.x hX;obtain ⟨cs',hcs',hsc⟩:=C18.sch.ok (n'-1) x' hx';rw [Nat.sub_add_cancel h1] at hcs';have hsz18:w.heap.size<=w18.heap.size:=z18.x.size;have hlen:=y_l v';refine ⟨_,rfl,trivial,trivial,trivial,(y_d hok.ok ra18 C18.hB hsz18 hcs' hsc.f0 hsc.f1 hsc.f2 hsc.f30 hsc.f41 (by omega) false).mono ?_⟩;rintro _ w21 ⟨rfl,un21,x21⟩;have hv21:VBlk w21 vb d a l c:=(x18.then x21).old _ _ id hv10;have C21:=C18.fr (FR.of x21);have z21:FR d.g w w21:=z18.then x21;have x25:EF w21 (w21.alloc (.cells #[.nilIface,.slice none 0 0,.pointer none,.pointer none,.pointer none,.slice none 0 0,.bool false] 166)):=(Ext.refl _).alloc _;have x26:=x25.trans (A_x (b:=w21.heap.size) (ifcV o') (.slice (some (adr G)) (d.l+1) C) (.pointer (some (adr (av n')))) (.pointer (some (adr w9.drew.heap.size))) (.pointer (some (adr w18.heap.size))) (.slice none 0 0) (.bool d.br)) (X:=fun _=>False) fun k hk e=>by omega
 have hv26:=set7 (w_3 w21 (.cells #[.nilIface,.slice none 0 0,.pointer none,.pointer none,.pointer none,.slice none 0 0,.bool false] 166)) (ifcV o') (.slice (some (adr G)) (d.l+1) C) (.pointer (some (adr (av n')))) (.pointer (some (adr w9.drew.heap.size))) (.pointer (some (adr w18.heap.size))) (.slice none 0 0) (.bool d.br);have z26:=z21.then x26;have C26:=C21.fr (FR.of x26);have xx26:=((x10.then x18).then x21).then x26;have hB:=hC.hB;have call:=IH n' x' v' _ w.heap.size w21.heap.size ⟨o',G,d.l+1,C,av n',w9.drew.heap.size,w18.heap.size,d.br⟩ false (wr (vid+1)) (k+1) hM h1 hx' hok hl hB z26.x.size C26.sch (hra.ext z26.x hX) rfl hv26 z21.x.size
  ⟨sb9.ext xx26 id,hlC,hCm,(show d.l+1<=16777000 by omega),cs',_,hsc.f4.choose,(x21.then x26).old _ _ id hcs',hsc.f4.choose_spec⟩ (scp18.ext (x21.then x26) fun _ _ _ _=>id) (un21.ext x26 id fun _ _ _ _ _=>id) hsz18 (show B<=G by have:=hC.hg;rcases hG with h|h<;>omega)
 refine ⟨_,rfl,trivial,_,rfl,_,cat hv21 rfl,trivial,trivial,⟨_,_,w_3 _ _,rfl,by simp,rfl⟩,trivial,call.mono ?_⟩;rintro _ w28 ⟨q,o,rfl,x28,s28,h3,-, h5⟩;refine ⟨q,o,rfl,trivial,o,rfl,⟨z26.x.trans x28 fun b hb e=>?_,fun c' hc'=>?_⟩,h3,h5⟩
 ·rcases e with e|e
  ·omega
  ·have e:b=G:=e;rcases hG with h|h<;>omega
 ·have hc6:=z26.s c' hc';rcases hG with h|h
  ·have:=s28 c';rw [show (VdC.mk o' G (d.l+1) C (av n') w9.drew.heap.size w18.heap.size d.br).g=d.g from h] at this;exact this hc6
  ·exact hc6.ext x28 fun e=>by
    rcases e with e|e
    ·omega
    ·have e:d.g=G:=e;omega
theorem z_s {d:Int}{s:List JN}{f:Nat}{n:Int}{v:JV}(h:(w_2 d s f n v).1=false)(i:Nat):¬ mkd (w_2 d s f n v).2 i:=by
 cases f with
 | zero=>exact x_H
 | succ f=>
  rw [w_2] at h ⊢;split
  ·exact x_H
  ·rename_i x hx;rw [hx] at h;dsimp only at h ⊢;split
   ·exact x_H
   ·rename_i hk;rw [if_neg hk] at h;generalize (if v.k=3 then _ else if v.k=4 then _ else if v.k=5 then _ else _:Bool × List Bool)=b at h ⊢;split
    ·rename_i hc;rw [if_pos hc] at h;cases h
    ·exact x_H
theorem z_O (hS:okS s)(IH:CV s av B f){w:World}{vb lo:Nat}{d:VdC}{a:OA}{l c n k:Nat}{vid:Int}(hC:Ctx s av B w vb d n vid k)(hv:VBlk w vb d a l c){n':Nat}{x':JN}{v:JV}(h1:1<=n')(hx':s[n'-1]? =some x')(hlt:n<n')(hM:MJ s.length v n'<f)(hok:okV v)(hra:RA w B v d.o)(hl:d.l+szJ v<=1100000){T:Nat->Prop}(hun:UN lo w d.ub v T)(hlo:B<=lo)(hub:lo<=d.ub)(kw:BA)(br:Bool):
  CP 151 #[.pointer (some (adr vb)),.pointer (some (adr (av n'))),.string kw,.bool br] w fun e w'=>∃ o,e=.returned (ifcV o)/\Ext (fun k=>k=d.g∨XMap lo w k) w w'/\(∀ c,SB w d.g c->SB w' d.g c)/\UN lo w' d.ub v (fun i=>T i/\¬ mkd (w_2 2020 s f (n':Int) v).2 i)/\
   (o=none↔(w_2 2020 s f (n':Int) v).1=true)/\(o≠none->∃ q,o=some (169,.pointer q)/\VErr w.heap.size w' q):=by
 have hn':n'<=s.length:=by have:=(List.getElem?_eq_some_iff.1 hx').1;omega
 have hp:=hC.pl;have hgl:d.g<w.heap.size:=hp.sb.lt;have hvne:vb≠d.g:=by
  obtain ⟨cur,e1,-⟩:=hp.sb;exact x_u hv e1 (by decide)
 refine x_J (some (adr vb)) (some (adr (av n'))) kw br w _ ?_;rintro w5 hw5;have x5:EF w w5:=hw5▸(Ext.refl _).drew;clear hw5;have hv5:VBlk w5 vb d a l c:=x5.old _ _ id hv;have C5:=hC.fr (FR.of x5);have hscp:∃ kw q,objAt w5 d.pb=some (.cells #[.pointer (some (adr (av n))),.string kw,.int .i64 vid,.pointer q] 161 (0,0)):=by
  cases C5.scp with
  | top h=>exact ⟨_,_,h⟩
  | sub h=>exact ⟨_,_,h⟩
 obtain ⟨kw1,q,hscp⟩:=hscp;refine ⟨_,rfl,_,cat hv5 rfl,_,rfl,_,cat hv5 rfl,_,rfl,vid,cat hscp rfl,(C_m _ _ _ _ _).mono ?_⟩;rintro _ w13 ⟨rfl,hw13⟩;have x13:EF w5 w13:=hw13▸(Ext.refl _).alloc _;have o13:objAt w13 w5.heap.size=some (.cells #[.pointer (some (adr (av n'))),.string kw,.int .i64 vid,.pointer (some (adr d.pb))] 161 (0,0)):=hw13▸w_3 _ _;clear hw13;refine ⟨_,rfl,trivial,trivial,trivial,?_⟩;rintro w15 hw15;have x15:EF w13 w15:=hw15▸(Ext.refl _).drew;clear hw15;have z15:=(x5.then x13).then x15;have C15:=hC.fr (FR.of z15);have hv15:VBlk w15 vb d a l c:=z15.old _ _ id hv;have un15:=hun.ext z15 id fun _ _ _ _ _=>id;have scp15:Scp w15 av s.length w5.heap.size n' vid (k+1):=.sub (x15.old _ _ id o13) h1 hn' C15.scp fun _=>hlt;refine ⟨_,rfl,_,cat0 hv15 rfl,_,rfl,_,cat hv15 rfl,(A_F un15).mono ?_⟩;rintro _ w21 ⟨be,rfl,hw21,hbe⟩;obtain rfl:=hw21.symm;have ra15:RA w15 B v d.o:=hra.ext z15 fun k e=>e.elim;obtain ⟨cs',hcs',hsc⟩:=C15.sch.ok (n'-1) x' hx';rw [Nat.sub_add_cancel h1] at hcs';have hlen:=y_l v;refine ⟨be,rfl,trivial,⟨rfl,trivial⟩,(y_d hok.ok ra15 C15.hB z15.size hcs' hsc.f0 hsc.f1 hsc.f2 hsc.f30 hsc.f41 (by omega) (!be)).mono ?_⟩;rintro _ w24 ⟨rfl,un24,x24⟩;refine ⟨_,rfl,trivial,trivial,trivial,fun K26 hK26=>?_⟩;rintro w39 hw39;have x39:EF w24 w39:=hw39▸(Ext.refl _).drew;clear hw39;have z39:=(z15.then x24).then x39;have hv39:VBlk w39 vb d a l c:=z39.old _ _ id hv;have C39:=hC.fr (FR.of z39);have un39:=un24.ext x39 id fun _ _ _ _ _=>id;have x46:EF w39 (w39.alloc (.cells #[.nilIface,.slice none 0 0,.pointer none,.pointer none,.pointer none,.slice none 0 0,.bool false] 166)):=(Ext.refl _).alloc _;have hv46:VBlk (w39.alloc (.cells #[.nilIface,.slice none 0 0,.pointer none,.pointer none,.pointer none,.slice none 0 0,.bool false] 166)) vb d a l c:=x46.old _ _ id hv39;have key:∀ br':Bool,K26 (some (adr w39.heap.size)) (((((((((w39.alloc (.cells #[.nilIface,.slice none 0 0,.pointer none,.pointer none,.pointer none,.slice none 0 0,.bool false] 166)).setCell (adr w39.heap.size) (ifcV d.o)).setCell ((adr w39.heap.size).add 1) (.slice (some (adr d.g)) d.l d.c)).setCell ((adr w39.heap.size).add 2) (.pointer (some (adr (av n'))))).setCell ((adr w39.heap.size).add 3) (.pointer (some (adr w5.heap.size)))).setCell ((adr w39.heap.size).add 4) (.pointer (some (adr w15.heap.size)))).setCell ((adr w39.heap.size).add 5) (.slice none 0 0)).setCell ((adr w39.heap.size).add 6) (.bool br'))):=fun br'=>by
  have x47:=x46.trans (A_x (b:=w39.heap.size) (ifcV d.o) (.slice (some (adr d.g)) d.l d.c) (.pointer (some (adr (av n')))) (.pointer (some (adr w5.heap.size))) (.pointer (some (adr w15.heap.size))) (.slice none 0 0) (.bool br')) (X:=fun _=>False) fun k hk e=>by omega
  have hv47:=set7 (w_3 w39 (.cells #[.nilIface,.slice none 0 0,.pointer none,.pointer none,.pointer none,.slice none 0 0,.bool false] 166)) (ifcV d.o) (.slice (some (adr d.g)) d.l d.c) (.pointer (some (adr (av n')))) (.pointer (some (adr w5.heap.size))) (.pointer (some (adr w15.heap.size))) (.slice none 0 0) (.bool br');have z47:=z39.then x47;have C47:=hC.fr (FR.of z47);have xx47:=(x24.then x39).then x47;have call:=IH n' x' v _ w.heap.size w39.heap.size ⟨d.o,d.g,d.l,d.c,av n',w5.heap.size,w15.heap.size,br'⟩ (!be) vid (k+1) hM h1 hx' hok hl hC.hB z47.size C47.sch (hra.ext z47 fun k e=>e.elim) rfl hv47 z39.size
   ⟨C47.pl.sb,hp.lc,hp.cm,hp.l,cs',_,hsc.f4.choose,xx47.old _ _ id hcs',hsc.f4.choose_spec⟩ (scp15.ext xx47 fun _ _ _ _=>id) (un39.ext x47 id fun _ _ _ _ _=>id) z15.size hC.hg
  refine hK26 _ _ (call.mono ?_);rintro _ w30 ⟨q,o,rfl,x30,s30,h3,h4,h5⟩;have y30:Ext (fun k=>k=d.g) w w30:=(z47.mono (Y:=fun k=>k=d.g) fun _ _ e=>e.elim).trans x30 fun b hb e=>by
   rcases e with e|e
   ·omega
   ·exact e
  have t30:∀ c,SB w d.g c->SB w30 d.g c:=fun c' hc'=>s30 c' (hc'.ext z47 id);have hv30:VBlk w30 vb d a l c:=y30.old _ _ hvne hv;obtain ⟨pm,im,g1,g2,g3,g4,g5⟩:=hun;obtain ⟨cur,hcur,-⟩:=hp.sb;have u1:d.ub≠d.g:=x_u g1 hcur (by decide);have e1:=y30.old _ _ u1 g1;have nmg:∀ b es cl,objAt w b=some (.map es cl)->b≠d.g:=fun b es cl hb=>z_e hb hcur;have e2:OMap KS lo w30 pm (x_9 v T):=g2.ext y30 fun b es cl _ hb=>nmg _ _ _ hb;have e3:OMap KI lo w30 im (x_7 v T):=g3.ext y30 fun b es cl _ hb=>nmg _ _ _ hb;refine ⟨q,o,rfl,trivial,fun K33 hK33=>⟨fun ho=>?_,fun ho=>?_⟩⟩
  ·have ho:o=none:=by simpa using ho
   subst ho;obtain ⟨rfl,T2,hT2,hn2,hy2⟩:=h4 rfl;refine ⟨_,rfl,_,cat hv30 rfl,(D_7 e1 e2 e3 g4 g5 hT2 (fun k hk=>?_)).mono ?_⟩
   ·rcases hk with hk|hk
    ·obtain ⟨es,cl,h⟩:=g2.obj hk;exact a_3 h
    ·obtain ⟨es,cl,h⟩:=g3.obj hk;exact a_3 h
   rintro _ w38 ⟨rfl,un38,x38⟩;have hxm:∀ k,(pm=some k∨im=some k)->XMap lo w k:=fun k hk=>by
    rcases hk with hk|hk
    ·obtain ⟨es,cl,h⟩:=g2.obj hk;subst hk;exact ⟨g2.1,es,cl,h⟩
    ·obtain ⟨es,cl,h⟩:=g3.obj hk;subst hk;exact ⟨g3.1,es,cl,h⟩
   refine ⟨rfl,trivial,hK33 _ ⟨none,rfl,(y30.mono fun _ _ e=>.inl e).trans x38 fun b _ e=>.inr (hxm b e),fun c' hc'=>(t30 c' hc').ext x38 fun e=>?_,un38.congr fun i=>?_,h3,fun h=>absurd rfl h⟩⟩
   ·rcases e with e|e
    ·obtain ⟨es,cl,h⟩:=g2.obj e;exact nmg _ _ _ h rfl
    ·obtain ⟨es,cl,h⟩:=g3.obj e;exact nmg _ _ _ h rfl
   ·refine and_congr_right fun hTi=>⟨fun hm=>hy2 ?_ i (g4 i hTi) hm,fun h2=>hn2 i h2⟩;cases be with
    | true=>exact absurd hTi (hbe.1 rfl i)
    | false=>rfl
  ·have hone:o≠none:=fun e=>by rw [e] at ho;cases ho
   refine hK33 _ ⟨o,rfl,y30.mono fun _ _ e=>.inl e,t30,UN.congr ⟨pm,im,e1,e2,e3,g4,g5⟩ fun i=>?_,h3,h5⟩;have hf:(w_2 2020 s f (n':Int) v).1=false:=by
    cases hj:(w_2 2020 s f (n':Int) v).1 with
    | false=>rfl
    | true=>exact absurd (h3.2 hj) hone
   exact ⟨fun h=>h.1,fun h=>⟨h,z_s hf i⟩⟩
 exact ⟨_,rfl,_,cat0 hv39 rfl,_,rfl,_,_,_,cat hv39 rfl,_,rfl,_,cat hv39 rfl,fun hb=>⟨trivial,trivial,⟨by rw [cat hv46 rfl,cat hv39 rfl],by rw [cat hv46 rfl,cat hv39 rfl],by rw [cat0 hv46 rfl,cat0 hv39 rfl],trivial⟩,⟨_,_,w_3 _ _,rfl,by simp,rfl⟩,trivial,trivial,key _⟩,fun hb=>⟨trivial,trivial,⟨by rw [cat hv46 rfl,cat hv39 rfl],by rw [cat hv46 rfl,cat hv39 rfl],by rw [cat0 hv46 rfl,cat0 hv39 rfl],trivial⟩,⟨_,_,w_3 _ _,rfl,by simp,rfl⟩,trivial,trivial,key _⟩⟩
end
structure FR2 (lo g:Nat) (w w':World):Prop where
 x:Ext (fun k=>lo<=k∨k=g) w w'
 s:∀ c,SB w g c->SB w' g c
theorem FR2.refl (lo g:Nat)(w:World):FR2 lo g w w:=⟨Ext.refl w,fun _ h=>h⟩
theorem FR2.trans {lo g:Nat}{w w1 w2:World}(h:FR2 lo g w w1)(k:FR2 lo g w1 w2):FR2 lo g w w2:=⟨h.x.trans k.x fun _ _ e=>e,fun c hc=>k.s c (h.s c hc)⟩
theorem FR2.of {lo g:Nat}{w w':World}(h:EF w w'):FR2 lo g w w':=⟨h.mono fun _ _ e=>e.elim,fun c hc=>hc.ext h id⟩
theorem FR2.fr {lo g:Nat}{w w':World}(h:FR g w w'):FR2 lo g w w':=⟨h.x.mono fun _ _ e=>.inr e,h.s⟩
structure VSt (s:List JN) (av:Nat->Nat) (B lo:Nat) (vb:Nat) (d:VdC) (n:Nat) (vid:Int) (k:Nat) (v:JV) (w:World) (E:Bool) (cnt:Nat) (T:Nat->Prop):Prop where
 ctx:Ctx s av B w vb d n vid k
 vd:VD lo w vb d E cnt
 un:UN lo w d.ub v T
 ra:RA w B v d.o
 hBlo:B<=lo
 hlo:lo<=w.heap.size
 hub:lo<=d.ub
 hvb:lo<=vb
section
variable {s:List JN} {av:Nat->Nat} {B lo:Nat} {vb:Nat} {d:VdC} {n:Nat} {vid:Int} {k:Nat} {v:JV} {w w':World} {E:Bool} {cnt:Nat} {T:Nat->Prop}
theorem VSt.blk (h:VSt s av B lo vb d n vid k v w E cnt T):∃ a l c,VBlk w vb d a l c:=by
 obtain ⟨a,l,c,ps,hv,-⟩:=h.vd;exact ⟨a,l,c,hv⟩
theorem VSt.uno (h:VSt s av B lo vb d n vid k v w E cnt T):∃ pm im,objAt w d.ub=some (.cells #[.map pm,.map im] 198 (0,0)):=by
 obtain ⟨pm,im,hu,-⟩:=h.un;exact ⟨pm,im,hu⟩
theorem VSt.gb (h:VSt s av B lo vb d n vid k v w E cnt T):∃ cur,objAt w d.g=some (.cells cur 9 (0,0)):=by
 obtain ⟨cur,hc,-⟩:=h.ctx.pl.sb;exact ⟨cur,hc⟩
theorem VSt.more (h:VSt s av B lo vb d n vid k v w E cnt T){cnt':Nat}(hc:cnt<=cnt'):VSt s av B lo vb d n vid k v w E cnt' T:=
 { h with vd:=h.vd.more hc}
theorem VSt.congr (h:VSt s av B lo vb d n vid k v w E cnt T){T':Nat->Prop}(e:∀ i,T' i↔T i):VSt s av B lo vb d n vid k v w E cnt T':=
 { h with un:=h.un.congr e}
theorem VSt.fr (h:VSt s av B lo vb d n vid k v w E cnt T)(hx:FR d.g w w'):VSt s av B lo vb d n vid k v w' E cnt T:=by
 obtain ⟨a,l,c,hv⟩:=h.blk;obtain ⟨pm,im,hu⟩:=h.uno;obtain ⟨cur,hg⟩:=h.gb;refine ⟨h.ctx.fr hx,h.vd.ext hx.x (fun b cs fr _ hb e=>?_) (fun b cs fr _ hb e=>?_) (x_u hv hg (by decide)),h.un.ext hx.x (x_u hu hg (by decide)) (fun b es cl _ hb=>z_e hb hg),h.ra.ext hx.x fun k e=>by have:=h.ctx.hg;omega,h.hBlo,lt_ h.hlo hx.x.size,h.hub,h.hvb⟩
 ·exact x_u hb hg (by decide) e
 ·exact x_u hb hg (by decide) e
theorem VSt.err (h:VSt s av B lo vb d n vid k v w E cnt T){E':Bool}{cnt':Nat}(hx:Ext (XE lo vb w) w w')(hv':VD lo w' vb d E' cnt'):VSt s av B lo vb d n vid k v w' E' cnt' T:=by
 obtain ⟨a,l,c,hv⟩:=h.blk;obtain ⟨pm,im,hu⟩:=h.uno;have hX:∀ k,XE lo vb w k->B<=k:=fun k e=>by
  rcases e with e|⟨e,-⟩
  ·have:=h.ctx.hvb;omega
  ·have:=h.hBlo;omega
 have ne:∀ {b:Nat} {T:TypeId} {cs:Array Value} {fr:Nat × Nat},objAt w b=some (.cells cs T fr)->T≠166->T≠169->¬ XE lo vb w b:=fun hb h1 h2=>XE.ne hb (fun _ _ e=>h1 (by injection e)) (fun _ _ e=>h2 (by injection e)) hv;exact ⟨h.ctx.ext hx hX (fun b cs fr hb=>ne hb (by decide) (by decide)) fun b cs fr hb=>ne hb (by decide) (by decide),hv',h.un.ext hx (ne hu (by decide) (by decide)) fun b es cl _ hb=>XE.ne hb nofun nofun hv,h.ra.ext hx hX,h.hBlo,lt_ h.hlo hx.size,h.hub,h.hvb⟩
theorem XE.fr2 (h:VSt s av B lo vb d n vid k v w E cnt T)(hx:Ext (XE lo vb w) w w'):FR2 lo d.g w w':=by
 obtain ⟨a,l,c,hv⟩:=h.blk;refine ⟨hx.mono fun b _ e=>.inl ?_,fun c' hc'=>?_⟩
 ·rcases e with e|⟨e,-⟩
  ·have:=h.hvb;omega
  ·exact e
 ·have hc2:=hc';obtain ⟨cur,h1,-⟩:=hc';exact hc2.ext hx (XE.ne h1 (fun _ _ e=>by injection e with _ e;exact absurd e (by decide)) (fun _ _ e=>by injection e with _ e;exact absurd e (by decide)) hv)
structure LS (lo:Nat) (d:VdC) (v:JV) (w w':World) (T:Nat->Prop):Prop where
 x:Ext (fun k=>k=d.g∨XMap lo w k) w w'
 s:∀ c,SB w d.g c->SB w' d.g c
 un:UN lo w' d.ub v T
theorem LS.refl (h:UN lo w d.ub v T):LS lo d v w w T:=⟨Ext.refl w,fun _ h=>h,h⟩
theorem LS.self {w2:World}{T2:Nat->Prop}(hg:∃ c,SB w d.g c)(h:LS lo d v w w' T)(hx:Ext (fun k=>k=d.g∨XMap lo w' k) w' w2)(hs:∀ c,SB w' d.g c->SB w2 d.g c)(hu:UN lo w2 d.ub v T2):LS lo d v w w2 T2:=by
 refine ⟨h.x.trans hx fun b hb e=>?_,fun c hc=>hs c (h.s c hc),hu⟩;rcases e with e|⟨e,es,cl,hm⟩
 ·exact .inl e
 ·by_cases hbg:b=d.g
  ·exact .inl hbg
  ·right;have ho:objAt w b=some (w.heap[b]):=Array.getElem?_eq_getElem hb;by_cases hX:XMap lo w b
   ·exact hX
   ·have:=h.x.old b _ (fun e=>e.elim hbg hX) ho;rw [hm] at this;exact ⟨e,es,cl,ho.trans this.symm⟩
theorem LS.new {w2:World}{X:Nat->Prop}(h:LS lo d v w w' T)(hx:Ext X w' w2)(hX:∀ b,X b->w.heap.size<=b/\∃ cs fr,objAt w' b=some (.cells cs 169 fr))(hsb:∃ c,SB w d.g c):LS lo d v w w2 T:=by
 obtain ⟨c0,hc0⟩:=hsb;refine ⟨h.x.trans hx fun b hb e=>?_,fun c hc=>(h.s c hc).ext hx fun e=>?_,h.un.ext hx (fun e=>?_) fun b es cl _ hb e=>?_⟩
 ·have:=(hX b e).1;omega
 ·have:=(hX _ e).1;have:=hc.lt;omega
 ·obtain ⟨pm,im,hu,-⟩:=h.un;obtain ⟨-, cs,fr,h2⟩:=hX _ e;rw [hu] at h2;cases h2
 ·obtain ⟨-, cs,fr,h2⟩:=hX _ e;rw [hb] at h2;cases h2
theorem LS.st {T0:Nat->Prop}(h:VSt s av B lo vb d n vid k v w E cnt T0)(hl:LS lo d v w w' T):VSt s av B lo vb d n vid k v w' E cnt T:=by
 obtain ⟨a,l,c,hv⟩:=h.blk;obtain ⟨cur,hg⟩:=h.gb;have hX:∀ k,(k=d.g∨XMap lo w k)->B<=k:=fun k e=>by
  rcases e with e|⟨e,-⟩
  ·have:=h.ctx.hg;omega
  ·have:=h.hBlo;omega
 have ne:∀ {b:Nat} {T:TypeId} {cs:Array Value} {fr:Nat × Nat},objAt w b=some (.cells cs T fr)->T≠9->¬ (b=d.g∨XMap lo w b):=fun hb h1 e=>by
  rcases e with e|⟨-, es,cl,hm⟩
  ·exact x_u hb hg h1 e
  ·rw [hb] at hm;cases hm
 have hB:=h.ctx.sch.ext hl.x hX;refine ⟨⟨hB,lt_ h.ctx.hB hl.x.size,?_,h.ctx.scp.ext hl.x fun b cs fr hb=>ne hb (by decide),h.ctx.hsb,h.ctx.hg,h.ctx.hvb⟩,h.vd.ext hl.x (fun b cs fr _ hb=>ne hb (by decide)) (fun b cs fr _ hb=>ne hb (by decide)) (ne hv (by decide)),hl.un,h.ra.ext hl.x hX,h.hBlo,lt_ h.hlo hl.x.size,h.hub,h.hvb⟩;obtain ⟨hs,hlc,hcm,hll,cs,fr,t,ho,hcs⟩:=h.ctx.pl;exact ⟨hl.s _ hs,hlc,hcm,hll,cs,fr,t,hl.x.old _ _ (ne ho (by decide)) ho,hcs⟩
theorem LS.fr2 (hl:LS lo d v w w' T):FR2 lo d.g w w':=⟨hl.x.mono fun b _ e=>e.elim (fun e=>.inr e) fun e=>.inl e.1,hl.s⟩
theorem VSt.addErr (h:VSt s av B lo vb d n vid k v w E cnt T)(hn:cnt<=8000000000000){o:Option (TypeId × Value)}(ho:o≠none->∃ q,o=some (169,.pointer q)/\VErr lo w q):
  CP 128 #[.pointer (some (adr vb)),ifcV o] w fun e w'=>e=.returned (.tuple #[])/\VSt s av B lo vb d n vid k v w' (E&&o.isNone) (cnt+1) T/\FR2 lo d.g w w'/\Ext (XE lo vb w) w w':=by
 cases o with
 | none=>exact x_v (some (adr vb)) none w _ ⟨nofun,fun _=>⟨rfl,by simpa using h.more (Nat.le_succ _),FR2.refl ..,Ext.refl w⟩⟩
 | some z=>
  obtain ⟨q,rfl',hq⟩:=ho nofun;cases rfl';refine (C_7 h.vd h.hlo hn hq).mono ?_;rintro _ w' ⟨rfl,hV,hX⟩;exact ⟨rfl,by simpa using h.err hX hV,XE.fr2 h hX,hX⟩
theorem VSt.addError (h:VSt s av B lo vb d n vid k v w E cnt T)(hn:cnt<=8000000000000)(o:Option (TypeId × Value))(hk:GrpOK o:=by exact GrpOK.ptr):
  CP 152 #[.pointer (some (adr vb)),ifcV o] w fun e w'=>e=.returned (.tuple #[])/\VSt s av B lo vb d n vid k v w' false (cnt+1) T/\FR2 lo d.g w w'/\Ext (XE lo vb w) w w':=by
 refine (B_S h.vd h.ctx.pl h.hlo hn o hk).mono ?_;rintro _ w' ⟨rfl,hV,hX⟩;exact ⟨rfl,h.err hX hV,XE.fr2 h hX,hX⟩
theorem VSt.addErrors (h:VSt s av B lo vb d n vid k v w E cnt T)(hn:cnt<=8000000000000)(ea:OA)(el ec:Nat)(o:Option (TypeId × Value))(hk:GrpOK o:=by exact GrpOK.ptr):
  CP 157 #[.pointer (some (adr vb)),.slice ea el ec,ifcV o] w fun e w'=>e=.returned (.tuple #[])/\VSt s av B lo vb d n vid k v w' false (cnt+1) T/\FR2 lo d.g w w'/\Ext (XE lo vb w) w w':=by
 refine (A_3 h.vd h.ctx.pl h.hlo hn ea el ec o hk).mono ?_;rintro _ w' ⟨rfl,hV,hX⟩;exact ⟨rfl,h.err hX hV,XE.fr2 h hX,hX⟩
theorem VSt.ext0 (h:VSt s av B lo vb d n vid k v w E cnt T)(hx:EF w w'):VSt s av B lo vb d n vid k v w' E cnt T:=h.fr (FR.of hx)
theorem VSt.sc (h:VSt s av B lo vb d n vid k v w E cnt T){x:JN}(h1:1<=n)(hx:s[n-1]? =some x):∃ cs,objAt w d.sb=some (.cells cs 116 (0,0))/\SchC w B av x cs:=by
 obtain ⟨cs,hcs,hsc⟩:=h.ctx.sch.ok (n-1) x hx;rw [Nat.sub_add_cancel h1] at hcs;rw [h.ctx.hsb];exact ⟨cs,hcs,hsc⟩
end
end Go.VC
