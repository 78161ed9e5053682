/- Part of the proof of a law of a rule over documents (LfA), where what the arguments hold is of bulk at most 1048576. -/
import Derived.Test.YtimdonbcgiakgaaGreatBaseB
import Derived.Test.YtimdonbcgiakgaaGreatWalkD
import Derived.Test.YtimdonbcgiakgaaGreatReadA
import Derived.Test.YtimdonbcgiakgaaGreatSpecE
import Derived.Test.YtimdonbcgiakgaaGreatWalkC
import Derived.Test.YtimdonbcgiakgaaGreatLawA
set_option linter.unusedVariables false
set_option linter.unusedSectionVars false
namespace Go.VC
open Go Go.Proofs
set_option maxRecDepth 100000
theorem c_Y (a:OA)(b:Value)(w:World)(R:EW)(h:
 C0 113 #[.pointer a,b,.bool false] w (fun c=>True/\R (.returned (.tuple #[])) c)):CP 58 #[.pointer a,b] w R:=
 vcq Tryz.func58 [] [] [.l (.optr a),.l (.val b)] h
theorem c_k (a:OA)(b:Value)(c:Bool)(w:World)(R:EW)(h:
 (b.oneCell'=true/\True)/\(let d:=w.alloc (.cells #[b] 152);
 True/\(let e:=d.alloc (.cells #[.bool c] 4);
 C0 118 #[.pointer a,(.func (.func 165) #[] #[(.pointer (some (adr w.heap.size))),(.pointer (some (adr d.heap.size)))])] e (fun f=>True/\R (.returned (.tuple #[])) f)))):CP 113 #[.pointer a,b,.bool c] w R:=
 vcq Tryz.func113 [] [] [.l (.optr a),.l (.val b),.l (.bool c)] h
theorem b_Z (a:OA)(b:OA)(c:Addr)(d:Addr)(w:World)(R:EW)(h:
 Pt b fun e=>Lp w (e.add 7) fun f=>(Br (f.isNone) (R (.returned (.tuple #[])) w) (∀ g,g=w.drew->Pt a fun i=>Lp g (i.add 1) fun j=>Pt j fun k=>Lm g (k.add 4) fun l=>Pt b fun m=>Lp g (m.add 7) fun n=>Pt n fun o=>Lp g (o.add 4) fun p=>Cs 166 #[.pointer p] g (fun q r=>True/\((r.cell? (k.add 4)=g.cell? (k.add 4))/\(r.cell? (i.add 1)=g.cell? (i.add 1))/\True)/\∃ s,(Instr.lookup 242 (.map l) (.string q) false).run Tryz.prog r=.ok (.pointer s) r/\True/\(Br (s.isNone) (R (.returned (.tuple #[])) r) (∀ t:World->Prop,(∀ u:World,
 (∀ v:Bool->World->Prop,(∀ x:Bool,∀ y:World,
 ((Br x (Lb y d fun z=>(Br z (∀ A,A=y.drew->Lv A c fun B=>Pt b fun C=>Ls A (C.add 1) fun D=>Pt b fun E=>Lp A (E.add 7) fun F=>Pt F fun G=>Lp A (G.add 4) fun H=>Pt b fun I=>Lp A (I.add 5) fun J=>Cs 120 #[.pointer H] A (fun K L=>True/\((L.cell? (I.add 5)=A.cell? (I.add 5))/\(L.cell? (C.add 1)=A.cell? (C.add 1))/\(L.cell? c=A.cell? c)/\True)/\True/\(let M:=L.alloc (.cells #[(ifcV (some (9,(.string D)))),(ifcV (some (9,(.string K))))] 20);
 ((M.cell? (I.add 5)=L.cell? (I.add 5))/\(M.cell? c=L.cell? c)/\True)/\CP 108 #[(.string (⟨#[70,105,101,108,100,32,34,37,115,34,32,111,102,32,116,121,112,101,32,34,37,115,34,32,109,117,115,116,32,104,97,118,101,32,97,32,115,101,108,101,99,116,105,111,110,32,111,102,32,115,117,98,102,105,101,108,100,115,46]⟩:BA)),(.slice (some (adr L.heap.size)) 2 2)] M (fun N O=>∃ P:Value,N=.returned P/\True/\((O.cell? (I.add 5)=M.cell? (I.add 5))/\(O.cell? c=M.cell? c)/\True)/\CP 109 #[.pointer J] O (fun Q S=>∃ U:Value,Q=.returned U/\True/\((S.cell? c=O.cell? c)/\True)/\(P.oneCell'=true/\U.oneCell'=true/\True)/\(let V:=S.alloc (.cells #[P,U] 174);
 ((V.cell? c=S.cell? c)/\True)/\∃ W X,B=.func (.func W) #[] X.toArray/\∃ Y,Tryz.prog.funcs[W]? =some Y/\(Y.name== "runtime.NumGoroutine" ||Y.body.isNone)=false/\CP W ([(.slice (some (adr S.heap.size)) 2 2)]++X).toArray V (fun Z aa=>Z=.returned (.tuple #[])/\True/\True/\R (.returned (.tuple #[])) aa))))))) (∀ ab,ab=y.drew->Lv ab c fun ac=>Pt b fun ad=>Ls ab (ad.add 1) fun ae=>Pt b fun af=>Lp ab (af.add 7) fun ag=>Pt ag fun ah=>Lp ab (ah.add 4) fun ai=>Pt b fun aj=>Ls ab (aj.add 1) fun ak=>Pt b fun al=>Lp ab (al.add 5) fun am=>((Cs 120 #[.pointer ai] ab (fun an ao=>True/\((ao.cell? (al.add 5)=ab.cell? (al.add 5))/\(ao.cell? (aj.add 1)=ab.cell? (aj.add 1))/\(ao.cell? (ad.add 1)=ab.cell? (ad.add 1))/\(ao.cell? c=ab.cell? c)/\True)/\((True/\(let ap:=ao.alloc (.cells #[(ifcV (some (9,(.string ae)))),(ifcV (some (9,(.string an))))] 20);
 ((ap.cell? (al.add 5)=ao.cell? (al.add 5))/\(ap.cell? (aj.add 1)=ao.cell? (aj.add 1))/\(ap.cell? c=ao.cell? c)/\True)/\((CP 108 #[(.string (⟨#[70,105,101,108,100,32,34,37,115,34,32,111,102,32,116,121,112,101,32,34,37,115,34,32,109,117,115,116,32,104,97,118,101,32,97,32,115,101,108,101,99,116,105,111,110,32,111,102,32,115,117,98,102,105,101,108,100,115,46]⟩:BA)),(.slice (some (adr ao.heap.size)) 2 2)] ap (fun aq ar=>∃ au:Value,aq=.returned au/\True/\((ar.cell? (al.add 5)=ap.cell? (al.add 5))/\(ar.cell? (aj.add 1)=ap.cell? (aj.add 1))/\(ar.cell? c=ap.cell? c)/\True)/\True/\(let av:=ar.alloc (.cells #[(ifcV (some (9,(.string ak))))] 20);
 ((av.cell? (al.add 5)=ar.cell? (al.add 5))/\(av.cell? c=ar.cell? c)/\True)/\CP 168 #[(.string (⟨#[34,37,115,32,123,32,46,46,46,32,125,34]⟩:BA)),(.slice (some (adr ar.heap.size)) 1 1)] av (fun ax ay=>∃ az:Value,ax=.returned az/\True/\((ay.cell? (al.add 5)=av.cell? (al.add 5))/\(ay.cell? c=av.cell? c)/\True)/\CP 109 #[.pointer am] ay (fun aA aB=>∃ aC:Value,aA=.returned aC/\True/\((aB.cell? c=ay.cell? c)/\True)/\(au.oneCell'=true/\az.oneCell'=true/\aC.oneCell'=true/\True)/\(let aD:=aB.alloc (.cells #[au,az,aC] 174);
 ((aD.cell? c=aB.cell? c)/\True)/\∃ aE aF,ac=.func (.func aE) #[] aF.toArray/\∃ aG,Tryz.prog.funcs[aE]? =some aG/\(aG.name== "runtime.NumGoroutine" ||aG.body.isNone)=false/\CP aE ([(.slice (some (adr aB.heap.size)) 3 3)]++aF).toArray aD (fun aH aI=>aH=.returned (.tuple #[])/\True/\True/\R (.returned (.tuple #[])) aI)))))))/\
 (True/\(let aJ:=ap.alloc (.cells #[(ifcV (some (9,(.string ak))))] 20);
 ((aJ.cell? (al.add 5)=ap.cell? (al.add 5))/\(aJ.cell? c=ap.cell? c)/\True)/\CP 108 #[(.string (⟨#[70,105,101,108,100,32,34,37,115,34,32,111,102,32,116,121,112,101,32,34,37,115,34,32,109,117,115,116,32,104,97,118,101,32,97,32,115,101,108,101,99,116,105,111,110,32,111,102,32,115,117,98,102,105,101,108,100,115,46]⟩:BA)),(.slice (some (adr ao.heap.size)) 2 2)] aJ (fun aK aL=>∃ aM:Value,aK=.returned aM/\True/\((aL.cell? (al.add 5)=aJ.cell? (al.add 5))/\(aL.cell? c=aJ.cell? c)/\True)/\CP 168 #[(.string (⟨#[34,37,115,32,123,32,46,46,46,32,125,34]⟩:BA)),(.slice (some (adr ap.heap.size)) 1 1)] aL (fun aN aO=>∃ aP:Value,aN=.returned aP/\True/\((aO.cell? (al.add 5)=aL.cell? (al.add 5))/\(aO.cell? c=aL.cell? c)/\True)/\CP 109 #[.pointer am] aO (fun aQ aS=>∃ aU:Value,aQ=.returned aU/\True/\((aS.cell? c=aO.cell? c)/\True)/\(aM.oneCell'=true/\aP.oneCell'=true/\aU.oneCell'=true/\True)/\(let aV:=aS.alloc (.cells #[aM,aP,aU] 174);
 ((aV.cell? c=aS.cell? c)/\True)/\∃ aW aX,ac=.func (.func aW) #[] aX.toArray/\∃ aY,Tryz.prog.funcs[aW]? =some aY/\(aY.name== "runtime.NumGoroutine" ||aY.body.isNone)=false/\CP aW ([(.slice (some (adr aS.heap.size)) 3 3)]++aX).toArray aV (fun aZ ba=>aZ=.returned (.tuple #[])/\True/\True/\R (.returned (.tuple #[])) ba))))))))))/\
 (True/\(let bb:=ao.alloc (.cells #[(ifcV (some (9,(.string ak))))] 20);
 ((bb.cell? (al.add 5)=ao.cell? (al.add 5))/\(bb.cell? (ad.add 1)=ao.cell? (ad.add 1))/\(bb.cell? c=ao.cell? c)/\True)/\True/\(let bc:=bb.alloc (.cells #[(ifcV (some (9,(.string ae)))),(ifcV (some (9,(.string an))))] 20);
 ((bc.cell? (al.add 5)=bb.cell? (al.add 5))/\(bc.cell? c=bb.cell? c)/\True)/\CP 108 #[(.string (⟨#[70,105,101,108,100,32,34,37,115,34,32,111,102,32,116,121,112,101,32,34,37,115,34,32,109,117,115,116,32,104,97,118,101,32,97,32,115,101,108,101,99,116,105,111,110,32,111,102,32,115,117,98,102,105,101,108,100,115,46]⟩:BA)),(.slice (some (adr bb.heap.size)) 2 2)] bc (fun bd be=>∃ bf:Value,bd=.returned bf/\True/\((be.cell? (al.add 5)=bc.cell? (al.add 5))/\(be.cell? c=bc.cell? c)/\True)/\CP 168 #[(.string (⟨#[34,37,115,32,123,32,46,46,46,32,125,34]⟩:BA)),(.slice (some (adr ao.heap.size)) 1 1)] be (fun bg bh=>∃ bi:Value,bg=.returned bi/\True/\((bh.cell? (al.add 5)=be.cell? (al.add 5))/\(bh.cell? c=be.cell? c)/\True)/\CP 109 #[.pointer am] bh (fun bj bk=>∃ bl:Value,bj=.returned bl/\True/\((bk.cell? c=bh.cell? c)/\True)/\(bf.oneCell'=true/\bi.oneCell'=true/\bl.oneCell'=true/\True)/\(let bm:=bk.alloc (.cells #[bf,bi,bl] 174);
 ((bm.cell? c=bk.cell? c)/\True)/\∃ bn bo,ac=.func (.func bn) #[] bo.toArray/\∃ bp,Tryz.prog.funcs[bn]? =some bp/\(bp.name== "runtime.NumGoroutine" ||bp.body.isNone)=false/\CP bn ([(.slice (some (adr bk.heap.size)) 3 3)]++bo).toArray bm (fun bq br=>bq=.returned (.tuple #[])/\True/\True/\R (.returned (.tuple #[])) br)))))))))))/\
 (True/\(let bs:=ab.alloc (.cells #[(ifcV (some (9,(.string ak))))] 20);
 ((bs.cell? (al.add 5)=ab.cell? (al.add 5))/\(bs.cell? (ah.add 4)=ab.cell? (ah.add 4))/\(bs.cell? (af.add 7)=ab.cell? (af.add 7))/\(bs.cell? (ad.add 1)=ab.cell? (ad.add 1))/\(bs.cell? c=ab.cell? c)/\True)/\Cs 120 #[.pointer ai] bs (fun bt bu=>True/\((bu.cell? (al.add 5)=bs.cell? (al.add 5))/\(bu.cell? (ad.add 1)=bs.cell? (ad.add 1))/\(bu.cell? c=bs.cell? c)/\True)/\True/\(let bv:=bu.alloc (.cells #[(ifcV (some (9,(.string ae)))),(ifcV (some (9,(.string bt))))] 20);
 ((bv.cell? (al.add 5)=bu.cell? (al.add 5))/\(bv.cell? c=bu.cell? c)/\True)/\CP 108 #[(.string (⟨#[70,105,101,108,100,32,34,37,115,34,32,111,102,32,116,121,112,101,32,34,37,115,34,32,109,117,115,116,32,104,97,118,101,32,97,32,115,101,108,101,99,116,105,111,110,32,111,102,32,115,117,98,102,105,101,108,100,115,46]⟩:BA)),(.slice (some (adr bu.heap.size)) 2 2)] bv (fun bx bz=>∃ bA:Value,bx=.returned bA/\True/\((bz.cell? (al.add 5)=bv.cell? (al.add 5))/\(bz.cell? c=bv.cell? c)/\True)/\CP 168 #[(.string (⟨#[34,37,115,32,123,32,46,46,46,32,125,34]⟩:BA)),(.slice (some (adr ab.heap.size)) 1 1)] bz (fun bB bC=>∃ bD:Value,bB=.returned bD/\True/\((bC.cell? (al.add 5)=bz.cell? (al.add 5))/\(bC.cell? c=bz.cell? c)/\True)/\CP 109 #[.pointer am] bC (fun bE bF=>∃ bG:Value,bE=.returned bG/\True/\((bF.cell? c=bC.cell? c)/\True)/\(bA.oneCell'=true/\bD.oneCell'=true/\bG.oneCell'=true/\True)/\(let bH:=bF.alloc (.cells #[bA,bD,bG] 174);
 ((bH.cell? c=bF.cell? c)/\True)/\∃ bI bJ,ac=.func (.func bI) #[] bJ.toArray/\∃ bK,Tryz.prog.funcs[bI]? =some bK/\(bK.name== "runtime.NumGoroutine" ||bK.body.isNone)=false/\CP bI ([(.slice (some (adr bF.heap.size)) 3 3)]++bJ).toArray bH (fun bL bM=>bL=.returned (.tuple #[])/\True/\True/\R (.returned (.tuple #[])) bM))))))))))))) (R (.returned (.tuple #[])) y)))->
 v x y)->
 Cb 167 #[.pointer s] u (fun bN bO=>True/\(Br (!bN) (Pt b fun bP=>Ll bO (bP.add 4) fun bQ bS bU=>v ((bS:Int)==0) bO) (v false bO))))->
 t u)->
 ∀ bV:Bool->World->Prop,(∀ bW:Bool,∀ bX:World,
 ((Br bW (∀ bY,bY=bX.drew->Lv bY c fun bZ=>Pt b fun ca=>Ls bY (ca.add 1) fun cb=>Pt s fun cc=>Ls bY (cc.add 2) fun cd=>Pt b fun ce=>Lp bY (ce.add 5) fun cf=>True/\(let cg:=bY.alloc (.cells #[(ifcV (some (9,(.string cb)))),(ifcV (some (9,(.string cd))))] 20);
 ((cg.cell? (ce.add 5)=bY.cell? (ce.add 5))/\(cg.cell? c=bY.cell? c)/\True)/\CP 108 #[(.string (⟨#[70,105,101,108,100,32,34,37,115,34,32,109,117,115,116,32,110,111,116,32,104,97,118,101,32,97,32,115,101,108,101,99,116,105,111,110,32,115,105,110,99,101,32,116,121,112,101,32,34,37,115,34,32,104,97,115,32,110,111,32,115,117,98,102,105,101,108,100,115,46]⟩:BA)),(.slice (some (adr bY.heap.size)) 2 2)] cg (fun ch ci=>∃ cj:Value,ch=.returned cj/\True/\((ci.cell? (ce.add 5)=cg.cell? (ce.add 5))/\(ci.cell? c=cg.cell? c)/\True)/\CP 109 #[.pointer cf] ci (fun ck cl=>∃ cm:Value,ck=.returned cm/\True/\((cl.cell? c=ci.cell? c)/\True)/\(cj.oneCell'=true/\cm.oneCell'=true/\True)/\(let cn:=cl.alloc (.cells #[cj,cm] 174);
 ((cn.cell? c=cl.cell? c)/\True)/\∃ co cp,bZ=.func (.func co) #[] cp.toArray/\∃ cq,Tryz.prog.funcs[co]? =some cq/\(cq.name== "runtime.NumGoroutine" ||cq.body.isNone)=false/\CP co ([(.slice (some (adr cl.heap.size)) 2 2)]++cp).toArray cn (fun cr ct=>cr=.returned (.tuple #[])/\True/\True/\t ct)))))) (t bX)))->
 bV bW bX)->
 Cb 167 #[.pointer s] r (fun cu cv=>True/\(Br cu (Pt b fun cx=>Ll cv (cx.add 4) fun cy cz cA=>bV (decide ((cz:Int)>0)) cv) (bV false cv))))))))):CP 165 #[.pointer a,.pointer b,(.pointer (some c)),(.pointer (some d))] w R:=
 vcq Tryz.func165 [] [(14,⟨[],[]⟩),(15,⟨[(39,.bool)],[]⟩),(20,⟨[(70,.bool)],[]⟩)] [.l (.optr a),.l (.optr b),.l (.ptr c),.l (.ptr d)] h
theorem c_i (a:OA)(w:World)(R:EW)(h:
 ∀ b:Bool->World->Prop,(∀ c:Bool,∀ d:World,
 (R (.returned (.bool c)) d)->
 b c d)->
 Pt a fun e=>Ls w e fun f=>(Nr (f.toList==(⟨#[69,78,85,77]⟩:BA).toList) (Pt a fun g=>Ls w g fun i=>b (i.toList==(⟨#[83,67,65,76,65,82]⟩:BA).toList) w) (b true w))):CP 167 #[.pointer a] w R:=
 vcq Tryz.func167 [] [(2,⟨[(2,.bool)],[]⟩)] [.l (.optr a)] h
theorem e_e (a:OA)(b c:Nat)(d:OA)(e f:Nat)(g:BA)(i:BA)(j:BA)(k:OA)(l m:Nat)(n:OA)(o p:Nat)(q:OA)(r s:Nat)(t:OA)(u v:Nat)(w:World)(R:EW)(h:
 True/\(let x:=w.alloc (.cells #[.slice a b c,.slice d e f,.string g,.string i,.string j,.slice k l m,.slice n o p] 40);
 True/\(let y:=x.alloc (.cells #[.slice q r s,.slice t u v] 30);
 CP 49 #[(.agg #[.slice a b c,.slice d e f,.string g,.string i,.string j,.slice k l m,.slice n o p]),(.agg #[.slice q r s,.slice t u v]),(.func (.func 58) #[] #[])] y (fun z A=>∃ B,∃ C,z=.returned (.tuple #[.int .i64 B,.bool C])/\(KeepT 40 y A/\KeepT 30 y A/\True)/\R (.returned (.tuple #[.int .i64 B,.bool C])) A)))):CP 20 #[(.agg #[.slice a b c,.slice d e f,.string g,.string i,.string j,.slice k l m,.slice n o p]),(.agg #[.slice q r s,.slice t u v])] w R:=
 vcq Tryz.func20 [2,3] [] [.agg [.slice a b c,.slice d e f,.str g,.str i,.str j,.slice k l m,.slice n o p],.agg [.slice q r s,.slice t u v]] h
theorem e_L (a:OA)(b c:Nat)(d:OA)(e f:Nat)(g:OA)(i j:Nat)(k:OA)(l m:Nat)(n:OA)(o p:Nat)(q:OA)(r s:Nat)(t:OA)(u v:Nat)(w:World)(R:EW)(h:
 True/\(let x:=w.alloc (.cells #[.slice a b c,.slice d e f,.slice g i j,.slice k l m,.slice n o p] 26);
 True/\(let y:=x.alloc (.cells #[.slice q r s,.slice t u v] 30);
 ∀ z:Bool->World->Prop,(∀ A:Bool,∀ B:World,
 ((Br A (R (.returned (.bool true)) B) (CP 13 #[(.agg #[.slice a b c,.slice d e f,.slice g i j,.slice k l m,.slice n o p])] B (fun C D=>∃ E,∃ F,C=.returned (.tuple #[.pointer E,.bool F])/\(KeepT 26 B D/\KeepT 30 B D/\True)/\∀ G:Bool->World->Prop,(∀ H:Bool,∀ I:World,
 ((Br H (R (.returned (.bool true)) I) (∀ J,J=I.drew->CP 17 #[.pointer E] J (fun K L=>∃ M N O,∃ P Q S,∃ U,∃ V,∃ W,∃ X Y Z,∃ aa ab ac,K=.returned (.agg #[.slice M N O,.slice P Q S,.string U,.string V,.string W,.slice X Y Z,.slice aa ab ac])/\(KeepT 26 J L/\KeepT 30 J L/\True)/\((0=0)/\True)/\CP 20 #[(.agg #[.slice M N O,.slice P Q S,.string U,.string V,.string W,.slice X Y Z,.slice aa ab ac]),(.agg #[.slice q r s,.slice t u v])] L (fun ad ae=>∃ af,∃ ag,ad=.returned (.tuple #[.int .i64 af,.bool ag])/\(KeepT 26 L ae/\KeepT 30 L ae/\True)/\True/\True/\True/\Cb 21 #[.pointer E,(.agg #[.slice q r s,.slice t u v])] ae (fun ah ai=>(KeepT 26 ae ai/\KeepT 30 ae ai/\True)/\Cb 18 #[.int .i64 af,.bool ag,.bool ah] ai (fun aj ak=>(KeepT 26 ai ak/\KeepT 30 ai ak/\True)/\R (.returned (.bool aj)) ak)))))))->
 G H I)->
 (Nr (!F) (Cb 14 #[(.agg #[.slice q r s,.slice t u v])] D (fun al am=>(KeepT 26 D am/\KeepT 30 D am/\True)/\(Nr (!al) (Cb 15 #[.pointer E,(.agg #[.slice q r s,.slice t u v])] am (fun an ao=>(KeepT 26 am ao/\KeepT 30 am ao/\True)/\G (!an) ao)) (G true am)))) (G true D))))))->
 z A B)->
 Cb 11 #[(.agg #[.slice a b c,.slice d e f,.slice g i j,.slice k l m,.slice n o p])] y (fun ap aq=>(KeepT 26 y aq/\KeepT 30 y aq/\True)/\(Nr (!ap) (Cb 12 #[(.agg #[.slice q r s,.slice t u v])] aq (fun ar au=>(KeepT 26 aq au/\KeepT 30 aq au/\True)/\z (!ar) au)) (z true aq)))))):CP 4 #[(.agg #[.slice a b c,.slice d e f,.slice g i j,.slice k l m,.slice n o p]),(.agg #[.slice q r s,.slice t u v])] w R:=
 vcq Tryz.func4 [2,3] [(3,⟨[(16,.bool)],[]⟩),(13,⟨[(34,.bool)],[]⟩)] [.agg [.slice a b c,.slice d e f,.slice g i j,.slice k l m,.slice n o p],.agg [.slice q r s,.slice t u v]] h
set_option maxRecDepth 100000
theorem d_t (a:OA)(b:Value)(w:World)(R:EW)(h:
 Pt a fun c=>Ll w (c.add 1) fun d e f=>(b.oneCell'=true/\True)/\(let g:=w.alloc (.cells #[b] 208);
 ∃ i j k,∃ l,(Go.builtin .append #[139,139] 139 #[false,false] #[.slice d e f,(.slice (some (adr w.heap.size)) 1 1)]).run Tryz.prog g=.ok (.value (.slice i j k)) l/\True/\Pt a fun m=>Off l (m.add 1) 1 []/\True/\(let n:=(l.setCell (m.add 1) (.slice i j k));
 R (.returned (.tuple #[])) n))):CP 118 #[.pointer a,b] w R:=
 vcq Tryz.func118 [] [] [.l (.optr a),.l (.val b)] h
variable [DB]
theorem c_9 {eb:Nat}{f:Value}{evs:List Value}{w:World}(hf:a_v f)(hB:Blk w eb 148 evs)(hj:evs[1]? =some (.slice none 0 0)):
  CP 118 #[.pointer (some (adr eb)),f] w fun e w'=>e=.returned (.tuple #[])/\∃ (p:Addr) (C:Nat),Blk w' eb 148 (evs.set 1 (.slice (some p) 1 C))/\At w' 208 p f/\w.heap.size<=p.block/\Ext (fun b=>b=eb) w w':=by
 obtain ⟨p,C,w7,r7,ha,hp,hx,-⟩:=m_z 139 208 Tryz.t208 _ _ (by kernel_rfl) (by kernel_rfl) rfl (by kernel_rfl) rfl (by kernel_rfl) (by decide) (w:=w) hf 139 #[false,false]
 have hB7:=hB.ext hx id
 have hlt:=hB.lt
 have hl:1+1<=evs.length:=(List.getElem?_eq_some_iff.1 hj).1
 have hs:Ext (fun b=>b=eb) w7 (w7.setCell ⟨eb,1,none⟩ (.slice (some p) 1 C)):=Ext.setCell (X:=fun b=>b=eb) (Ext.refl _) (a:=⟨eb,1,none⟩) (.inl rfl) _
 refine d_t (some (adr eb)) f w _ ⟨adr eb,rfl,none,0,0,(hB.at (j:=1) hj).cell,⟨hf.one,trivial⟩,some p,1,C,w7,r7,trivial,adr eb,rfl,hB7.off (j:=1) (n:=1) (q:=fun _=>false) hl rfl,trivial,rfl,p,C,hB7.set 1 _,hs.at (by show ¬ p.block=eb;omega) ha,hp,(hx.toM _).trans hs fun _ _ e=>e⟩
end Go.VC
namespace Go.VC
open Go Go.Proofs
set_option maxRecDepth 100000
theorem b_S (a:OA)(w:World)(R:EW)(h:
 ∀ b:BA->World->Prop,(∀ c:BA,∀ d:World,
 (Pt a fun e=>Ls d e fun f=>(Br (!(f.toList==(⟨#[]⟩:BA).toList)) (Pt a fun g=>Ls d g fun i=>∃ j,∃ k,(eqGuard .add 9 (Operand.tmp 16) (Operand.tmp 17) (.string i) (.string c)).run Tryz.prog d=.ok () d/\(binOp .add 9 (.string i) (.string c)).run Tryz.prog d=.ok (.string j) k/\True/\R (.returned (.string j)) k) (Pt a fun l=>Lp d (l.add 1) fun m=>Cs 120 #[.pointer m] d (fun n o=>True/\∃ p,∃ q,(eqGuard .add 9 (Operand.const (.string (⟨#[91]⟩:BA))) (Operand.tmp 23) (.string (⟨#[91]⟩:BA)) (.string n)).run Tryz.prog o=.ok () o/\(binOp .add 9 (.string (⟨#[91]⟩:BA)) (.string n)).run Tryz.prog o=.ok (.string p) q/\True/\∃ r,∃ s,(eqGuard .add 9 (Operand.tmp 24) (Operand.const (.string (⟨#[93]⟩:BA))) (.string p) (.string (⟨#[93]⟩:BA))).run Tryz.prog q=.ok () q/\(binOp .add 9 (.string p) (.string (⟨#[93]⟩:BA))).run Tryz.prog q=.ok (.string r) s/\True/\∃ t,∃ u,(eqGuard .add 9 (Operand.tmp 25) (Operand.tmp 26) (.string r) (.string c)).run Tryz.prog s=.ok () s/\(binOp .add 9 (.string r) (.string c)).run Tryz.prog s=.ok (.string t) u/\True/\R (.returned (.string t)) u))))->
 b c d)->
 Pt a fun v=>Lb w (v.add 2) fun x=>(Br x (b (⟨#[33]⟩:BA) w) (b (⟨#[]⟩:BA) w))):CP 120 #[.pointer a] w R:=
 vcq Tryz.func120 [] [(4,⟨[(3,.str)],[]⟩)] [.l (.optr a)] h
theorem g_A (a:BA)(b:OA)(c d:Nat)(w:World)(R:EW)(h:
 True/\(let e:=w.alloc (.cells #[.string a] 9);
 R (.returned (.func (.func 188) #[] #[(.pointer (some (adr w.heap.size)))])) e)):CP 168 #[.string a,.slice b c d] w R:=
 vcq Tryz.func168 [] [] [.l (.str a),.l (.slice b c d)] h
variable [DB]
theorem c_B {c:WCtx}:∀ (t:Typ) (b:Nat) (w:World),Wk c c.w0 w->PTyp c.M c.w0 t b->okTyp t->typW t<=2097152->CP 120 #[.pointer (some (adr b))] w fun e w'=>∃ s,e=.returned (.string s)/\s.size<=4*typW t/\w'=w
 | .mk n [] nn,b,w,hwk,hp,hok,hs=>by
  simp only [PTyp] at hp
  obtain ⟨q,pos,hM,hB,-⟩:=hp
  have hn:n≠E0:=by simpa [okTyp] using hok
  simp only [typW,typsW] at hs ⊢
  have c0:=hwk.nd hM hB (j:=0) rfl rfl
  refine b_S (some (adr b)) w _ fun K2 hK2=>?_
  have key:∀ s:BA,s.size<=1->K2 s w:=fun s h1=>hK2 s w ⟨adr b,rfl,n,c0,fun _=>⟨adr b,rfl,n,c0,_,_,b_E,b_q (by omega) (by omega),trivial,_,rfl,by rw [ByteArray.size_append];omega,rfl⟩,fun h=>absurd (b_2 h) hn⟩
  exact ⟨adr b,rfl,nn,hwk.nd hM hB (j:=2) rfl rfl,fun _=>key _ (by decide),fun _=>key _ (by decide)⟩
 | .mk n (t::l) nn,b,w,hwk,hp,hok,hs=>by
  simp only [PTyp,PTypE] at hp
  obtain ⟨q,pos,hM,hB,eb,rfl,ht⟩:=hp
  have hl:l=[]/\n=E0/\okTyp t:=by
   cases l with
   | nil=>exact ⟨rfl,by simpa [okTyp] using hok⟩
   | cons y l=>exact absurd hok (by simp [okTyp])
  obtain ⟨rfl,rfl,hot⟩:=hl
  simp only [typW,typsW] at hs ⊢
  have c0:=hwk.nd hM hB (j:=0) rfl rfl
  refine b_S (some (adr b)) w _ fun K2 hK2=>?_
  have key:∀ s:BA,s.size<=1->K2 s w:=fun s h1=>hK2 s w ⟨adr b,rfl,E0,c0,fun h=>by simp at h,fun _=>⟨adr b,rfl,_,hwk.nd hM hB (j:=1) rfl rfl,(c_B t eb w hwk ht hot (by omega)).mono fun e w' ⟨s',he,hs',hw'⟩=>by
   subst he
   subst hw'
   have e1:(⟨#[91]⟩:BA).size=1:=rfl
   have e2:(⟨#[93]⟩:BA).size=1:=rfl
   have e3:E0.size=0:=rfl
   refine ⟨s',rfl,trivial,_,_,b_E,b_q (by omega) (by omega),trivial,_,_,b_E,b_q (by rw [ByteArray.size_append];omega) (by omega),trivial,_,_,b_E,b_q (by rw [ByteArray.size_append,ByteArray.size_append];omega) (by omega),trivial,_,rfl,?_,rfl⟩
   rw [ByteArray.size_append,ByteArray.size_append,ByteArray.size_append]
   omega⟩⟩
  exact ⟨adr b,rfl,nn,hwk.nd hM hB (j:=2) rfl rfl,fun _=>key _ (by decide),fun _=>key _ (by decide)⟩
end Go.VC
namespace Go.VC
open Go Go.Proofs
set_option maxRecDepth 100000
theorem g_x (a:OA)(b:OA)(c d:Nat)(e:OA)(f g:Nat)(w:World)(R:EW)(h:
 True/\(let i:=w.alloc (.cells #[.pointer a] 33);
 True/\(let j:=i.alloc (.cells #[.slice b c d,.slice e f g] 30);
 True/\(let k:=j.alloc (.cells #[.bool false] 4);
 Off k (adr j.heap.size) 1 [30]/\True/\(let l:=(k.setCell (adr j.heap.size) (.bool false));
 Lp l (adr w.heap.size) fun m=>C0 59 #[.pointer m,(.agg #[.slice b c d,.slice e f g]),(.func (.func 60) #[] #[(.pointer (some (adr w.heap.size))),(.pointer (some (adr j.heap.size)))])] l (fun n=>(KeepT 30 l n/\True)/\Lb n (adr j.heap.size) fun o=>R (.returned (.bool o)) n)))))):CP 21 #[.pointer a,(.agg #[.slice b c d,.slice e f g])] w R:=
 vcq Tryz.func21 [3] [] [.l (.optr a),.agg [.slice b c d,.slice e f g]] h
theorem e_5 (a:Int)(b:BA)(c:BA)(d:BA)(e:OA)(f g:Nat)(i:OA)(j k:Nat)(l:OA)(m n:Nat)(o:BA)(p:Addr)(q:Addr)(w:World)(R:EW)(h:
 True/\(let r:=w.alloc (.cells #[.int .i64 a,.string b,.string c,.string d,.slice e f g,.slice i j k,.slice l m n] 84);
 Lp r p fun s=>CP 61 #[.pointer s,.string o,.string c] r (fun t u=>∃ v,∃ x,∃ y z A,∃ B C D,∃ E,∃ F G H,∃ I,∃ J K L,∃ M,t=.returned (.tuple #[(.agg #[.string v,.string x,.slice y z A,.slice B C D,.string E,.slice F G H,.bool I,.slice J K L]),.bool M])/\(KeepT 84 r u/\True)/\True/\(let N:=u.alloc (.cells #[(.string (⟨#[]⟩:BA)),(.string (⟨#[]⟩:BA)),.slice none 0 0,.slice none 0 0,(.string (⟨#[]⟩:BA)),.slice none 0 0,.bool false,.slice none 0 0] 87);
 True/\(let O:=u.alloc (.cells #[.string v,.string x,.slice y z A,.slice B C D,.string E,.slice F G H,.bool I,.slice J K L] 87);
 ∀ P:World->Prop,(∀ Q:World,
 (Lb Q q fun S=>(Nr S ((Br (a==0) ((Br (c.toList==(⟨#[95,95,116,121,112,101,110,97,109,101]⟩:BA).toList) (Off Q q 1 [84,87]/\True/\(let U:=(Q.setCell q (.bool (decide ((m:Int)>0))));
 R (.returned (.tuple #[])) U)) (Off Q q 1 [84,87]/\True/\(let V:=(Q.setCell q (.bool false));
 R (.returned (.tuple #[])) V)))) (Off Q q 1 [84,87]/\True/\(let W:=(Q.setCell q (.bool false));
 R (.returned (.tuple #[])) W)))) (Off Q q 1 [84,87]/\True/\(let X:=(Q.setCell q (.bool true));
 R (.returned (.tuple #[])) X))))->
 P Q)->
 ∀ Y:Bool->World->Prop,(∀ Z:Bool,∀ aa:World,
 ((Br Z (∀ ab,ab=aa.drew->Lb ab q fun ac=>(Br ac (Off ab q 1 [84,87]/\True/\(let ad:=(ab.setCell q (.bool true));
 True/\P ad)) (Lp ab p fun ae=>Cs 62 #[.pointer ae,(.agg #[.string E,.slice F G H,.bool I])] ab (fun af ag=>(KeepT 84 ab ag/\KeepT 87 ab ag/\True)/\((0=0)/\True)/\Cb 53 #[.string af] ag (fun ah ai=>(KeepT 84 ag ai/\KeepT 87 ag ai/\True)/\((0=0)/\True)/\Off ai q 1 [84,87]/\True/\(let aj:=(ai.setCell q (.bool (!(ah==(decide ((m:Int)>0))))));
 True/\P aj)))))) (P aa)))->
 Y Z aa)->
 (Br (a==0) (Y M O) (Y false O))))))):CP 60 #[(.agg #[.int .i64 a,.string b,.string c,.string d,.slice e f g,.slice i j k,.slice l m n]),.string o,(.pointer (some p)),(.pointer (some q))] w R:=
 vcq Tryz.func60 [4,6] [(4,⟨[],[]⟩),(5,⟨[(21,.bool)],[]⟩)] [.agg [.int .i64 a,.str b,.str c,.str d,.slice e f g,.slice i j k,.slice l m n],.l (.str o),.l (.ptr p),.l (.ptr q)] h
variable [DB]
theorem SSt.bool {w w':World}{ob:Nat}{v:Value}(hB:Blk w ob 4 [v])(hDB:DB.B<=ob)(hx:Ext (fun b=>b=ob) w w'):SSt (fun b=>b=ob) w w':=by
 refine ⟨hx,fun T T' a v' ht ho ha=>?_,fun T hT b cs fr hb=>?_⟩
 ·by_cases he:a.block=ob
  ·obtain ⟨cs,fr,h1,-⟩:=ha
   rw [he,show objAt w ob=_ from hB] at h1
   simp only [Option.some.injEq,Obj.cells.injEq] at h1
   obtain ⟨-, rfl,-⟩:=h1
   rcases ho with rfl|ho
   ·exact absurd ht (by decide)
   ·omega
  ·exact hx.at he ha
 ·refine hx.old b _ (fun e=>?_) hb
  have e:b=ob:=e
  subst e
  rw [show objAt w b=_ from hB] at hb
  simp only [Option.some.injEq,Obj.cells.injEq] at hb
  obtain ⟨-, rfl,-⟩:=hb
  exact absurd hT (by decide)
abbrev compK (k:BA):Prop:=k=a_V∨k=b_i∨k=d_n
def bad1 (types:List Def)(k:Int)(n:BA)(m:Nat)(u:BA):Prop:=k=0/\(b_K types u n).2=true/\¬ (compK (findD types (a_n (b_K types u n).1.t)).1.kind↔0<m)
def badLf (types:List Def)(x:Sel × BA):Prop:=match x.1 with
 | .mk k _ n _ _ _ kids=>bad1 types k n kids.length x.2∨(k=0/\n=bTn/\0<kids.length)
section
variable {k:Nat} {A4:OA} {L4 C4:Nat} {A:OA} {L C:Nat} {A3:OA} {L3 C3:Nat} {types:List Def}
def PLf (k:Nat)(A4:OA)(L4 C4:Nat)(A:OA)(L C:Nat)(A3:OA)(L3 C3:Nat)(types:List Def)(wb ob:Nat)(l:List (Sel × BA))(w:World):Prop:=
 Blk w wb 33 [.pointer (some (adr k))]/\Blk w k 69 [.slice A4 L4 C4,.slice A L C,.slice A3 L3 C3]/\RDefs w A4 L4 C4 types/\∃ b:Bool,Blk w ob 4 [.bool b]/\(b=true↔∃ x∈l,badLf types x)
theorem o_Y {wb ob:Nat}(hDB:DB.B<=ob)(h1:wb≠ob)(h2:k≠ob):Clo 60 [.pointer (some (adr wb)),.pointer (some (adr ob))] (fun b=>b=ob) (PLf k A4 L4 C4 A L C A3 L3 C3 types wb ob):=by
 refine ⟨⟨_,Tryz.func60,by kernel_rfl⟩,fun l w w' ⟨p1,p2,p3,b,p4,p5⟩ hx=>⟨p1.ext hx id,p2.ext hx id,p3.keep hx.keep,b,p4.ext hx id,p5⟩,?_⟩
 rintro l w ⟨k',al,n,on,args,dirs,kids⟩ u cs ⟨p1,p2,p3,b0,p4,p5⟩ hv hsm hok hu
 obtain ⟨a1,l1,c1,a2,l2,c2,a3,l3,c3,rfl,hv1,hv2,hv3⟩:=c_w.1 hv
 have hl3:=hv3.len.1
 have hn:n.size<=4194304:=hsm (.string n) (by simp)
 have x11:EF w (w.alloc (.cells #[.int .i64 k',.string al,.string n,.string on,.slice a1 l1 c1,.slice a2 l2 c2,.slice a3 l3 c3] 84)):=(Ext.refl w).alloc _
 refine e_5 k' al n on a1 l1 c1 a2 l2 c2 a3 l3 c3 u (adr wb) (adr ob) w _ ⟨trivial,some (adr k),((p1.ext x11 id).at (j:=0) rfl).cell,?_⟩
 refine (e_p (types:=types) hu hn (p2.ext x11 id) (p3.keep x11.keep)).mono ?_
 rintro _ w14 ⟨cs14,rfl,⟨f0,fl0,fc0,f1,fl1,fc1,tn,f2,fl2,fc2,nn,f3,fl3,fc3,rfl,-, -, hty,-⟩,hsm14,x14⟩
 refine ⟨_,_,_,_,_,_,_,_,_,_,_,_,_,_,_,_,_,rfl,⟨x14.keepT _,trivial⟩,trivial,trivial,fun K26 hK26=>?_⟩
 have x25:=(x11.then x14).alloc (.cells #[.string (b_K types u n).1.doc,.string (b_K types u n).1.name,.slice f0 fl0 fc0,.slice f1 fl1 fc1,.string tn,.slice f2 fl2 fc2,.bool nn,.slice f3 fl3 fc3] 87)
 have z25:=(Ext.refl (X:=fun _=>False) w14).alloc (.cells #[.string (b_K types u n).1.doc,.string (b_K types u n).1.name,.slice f0 fl0 fc0,.slice f1 fl1 fc1,.string tn,.slice f2 fl2 fc2,.bool nn,.slice f3 fl3 fc3] 87)
 have set:∀ {w':World} {b v:Bool},SSt (fun b=>b=ob) w w'->Blk w' ob 4 [.bool b]->SSt (fun b=>b=ob) w (w'.setCell (adr ob) (.bool v))/\Blk (w'.setCell (adr ob) (.bool v)) ob 4 [.bool v]:=fun {w' b v} s hb=>
  ⟨s.trans (SSt.bool hb hDB (Ext.setCell (X:=fun b=>b=ob) (Ext.refl _) (a:=⟨ob,0,none⟩) (.inl rfl) _)),hb.set 0 _⟩
 have off:∀ {w':World} {b:Bool},Blk w' ob 4 [.bool b]->∃ (cs:Array Value) (T:TypeId),objAt w' ob=some (.cells cs T (0,0))/\(none:Option Nat)=none/\0+1<=cs.size/\(Nat.beq 84 T||(Nat.beq 87 T||false))=false:=fun {w' b} hb=>hb.off (j:=0) (n:=1) (q:=fun T=>(Nat.beq 84 T||(Nat.beq 87 T||false))) (by simp) rfl
 have fin:∀ (w':World) (b:Bool),SSt (fun b=>b=ob) w w'->Blk w' ob 4 [.bool b]->(b=true↔(∃ x∈l,badLf types x)∨badLf types (.mk k' al n on args dirs kids,u))->
   (.returned (.tuple #[]):Ending)=.returned (.tuple #[])/\SSt (fun b=>b=ob) w w'/\PLf k A4 L4 C4 A L C A3 L3 C3 types wb ob (l++[(.mk k' al n on args dirs kids,u)]) w':=fun w' b s hb hi=>
  ⟨rfl,s,p1.ext s.ext h1,p2.ext s.ext h2,p3.keep s.keep,b,hb,hi.trans ⟨fun h=>h.elim (fun ⟨x,hx,hb⟩=>⟨x,by simp [hx],hb⟩) fun h=>⟨_,by simp,h⟩,fun ⟨x,hx,hb⟩=>by
   rcases List.mem_append.1 hx with hx|hx
   ·exact .inl ⟨x,hx,hb⟩
   ·rw [List.mem_singleton.1 hx] at hb
    exact .inr hb⟩⟩
 have key26:∀ (w':World) (b:Bool),SSt (fun b=>b=ob) w w'->Blk w' ob 4 [.bool b]->(b=true↔(∃ x∈l,badLf types x)∨bad1 types k' n kids.length u)->K26 w':=by
  intro w' b s hb hi
  refine hK26 w' ⟨b,(hb.at (j:=0) rfl).cell,fun h0=>⟨fun hk=>⟨fun he=>⟨off hb,trivial,fin _ _ (set s hb).1 (set s hb).2 ?_⟩,fun he=>⟨off hb,trivial,fin _ _ (set s hb).1 (set s hb).2 ?_⟩⟩,fun hk=>⟨off hb,trivial,fin _ _ (set s hb).1 (set s hb).2 ?_⟩⟩,fun hb1=>⟨off hb,trivial,fin _ _ (set s hb).1 (set s hb).2 ?_⟩⟩
  ·have hnot:¬ ((∃ x∈l,badLf types x)∨bad1 types k' n kids.length u):=fun h=>by rw [hi.2 h] at h0;cases h0
   have hk:k'=0:=by simpa using hk
   have hnn:=a_b.1 he
   rw [decide_eq_true_iff]
   constructor
   ·intro h
    exact .inr (.inr ⟨hk,hnn,by omega⟩)
   ·rintro (h|h|⟨-, -, h⟩)
    ·exact (hnot (.inl h)).elim
    ·exact (hnot (.inr h)).elim
    ·omega
  ·have hnot:¬ ((∃ x∈l,badLf types x)∨bad1 types k' n kids.length u):=fun h=>by rw [hi.2 h] at h0;cases h0
   refine ⟨nofun,?_⟩
   rintro (h|h|⟨-, h,-⟩)
   ·exact (hnot (.inl h)).elim
   ·exact (hnot (.inr h)).elim
   ·exact absurd h (a_f.1 he)
  ·have hnot:¬ ((∃ x∈l,badLf types x)∨bad1 types k' n kids.length u):=fun h=>by rw [hi.2 h] at h0;cases h0
   have hk:k'≠0:=fun e=>by simp [e] at hk
   refine ⟨nofun,?_⟩
   rintro (h|h|⟨h,-⟩)
   ·exact (hnot (.inl h)).elim
   ·exact (hnot (.inr h)).elim
   ·exact absurd h hk
  ·refine ⟨fun _=>(hi.1 hb1).imp id .inl,fun _=>rfl⟩
 intro K33 hK33
 have key33:∀ (b:Bool),(b=true↔k'=0/\(b_K types u n).2=true)->K33 b (w14.alloc (.cells #[.string (b_K types u n).1.doc,.string (b_K types u n).1.name,.slice f0 fl0 fc0,.slice f1 fl1 fc1,.string tn,.slice f2 fl2 fc2,.bool nn,.slice f3 fl3 fc3] 87)):=by
  intro b hb
  have p25:=p4.ext x25 id
  refine hK33 b _ ⟨fun h w36 e36=>?_,fun h=>key26 _ b0 (SSt.of0 x25) p25 (p5.trans ⟨.inl,fun k=>k.elim id fun k=>?_⟩)⟩
  ·obtain ⟨hk0,hG⟩:=hb.1 h
   have x36:EF w w36:=by rw [e36];exact x25.drew
   have z36:EF w14 w36:=by rw [e36];exact z25.drew
   have p36:=p4.ext x36 id
   refine ⟨b0,(p36.at (j:=0) rfl).cell,fun h0=>⟨off p36,trivial,trivial,key26 _ _ (set (SSt.of0 x36) p36).1 (set (SSt.of0 x36) p36).2 ⟨fun _=>.inl (p5.1 h0),fun _=>rfl⟩⟩,fun h0=>?_⟩
   refine ⟨some (adr k),((p1.ext x36 id).at (j:=0) rfl).cell,?_⟩
   refine (c_8 (hsm14 (.string tn) (by simp)) (hty.keep z36.keep) ((p2.ext x36 id).at (j:=0) rfl) (p3.keep x36.keep)).mono ?_
   rintro _ w41 ⟨rfl,x41⟩
   refine ⟨_,rfl,⟨x41.keepT _,x41.keepT _,trivial⟩,⟨rfl,trivial⟩,?_⟩
   refine (b_5 _ _).mono ?_
   rintro _ w44 ⟨b45,rfl,x44,hb45⟩
   have x3644:=(x36.then x41).then x44
   have p44:=p4.ext x3644 id
   refine ⟨b45,rfl,⟨x44.keepT _,x44.keepT _,trivial⟩,⟨rfl,trivial⟩,off p44,trivial,trivial,key26 _ _ (set (SSt.of0 x3644) p44).1 (set (SSt.of0 x3644) p44).2 ?_⟩
   have hnot:¬ ∃ x∈l,badLf types x:=fun h=>by rw [p5.2 h] at h0;cases h0
   have hm:decide ((l3:Int)>0)=true↔0<kids.length:=by rw [decide_eq_true_iff];omega
   have hcmp:(!(b45==decide ((l3:Int)>0)))=true↔¬ (compK (findD types (a_n (b_K types u n).1.t)).1.kind↔0<kids.length):=by
    have hb45':b45=true↔compK (findD types (a_n (b_K types u n).1.t)).1.kind:=hb45
    rw [<- hb45',<- hm]
    cases b45<;>cases decide ((l3:Int)>0)<;>simp
   rw [hcmp]
   exact ⟨fun h=>.inr ⟨hk0,hG,h⟩,fun h=>h.elim (fun h=>(hnot h).elim) fun h=>h.2.2⟩
  ·have:b=true:=hb.2 ⟨k.1,k.2.1⟩
   rw [this] at h
   cases h
 exact ⟨fun h=>key33 _ ⟨fun k=>⟨by simpa using h,k⟩,fun k=>k.2⟩,fun h=>key33 false ⟨nofun,fun k=>by simp [k.1] at h⟩⟩
theorem f_W {roots:List RootD}{a:OA}{l c:Nat}{a':OA}{l' c':Nat}{ops:List OpD}{frags:List Frag}{w:World}(hDB:DB.B<=w.heap.size)(hB:Blk w k 69 [.slice A4 L4 C4,.slice A L C,.slice A3 L3 C3])(hT:RDefs w A4 L4 C4 types)(hR:b_w w A L C roots)(hl:ROps w a l c ops)(hl':a_X w a' l' c' frags)(ok1:∀ x∈ops,okOp x)(ok2:∀ x∈frags,b_j x):
  CP 21 #[.pointer (some (adr k)),.agg #[.slice a l c,.slice a' l' c']] w (RetB w fun b=>b=true↔∃ x∈atAll types roots ops frags,badLf types x):=by
 have x4:EF w (w.alloc (.cells #[.pointer (some (adr k))] 33)):=(Ext.refl w).alloc _
 have B4:Blk (w.alloc (.cells #[.pointer (some (adr k))] 33)) w.heap.size 33 [.pointer (some (adr k))]:=Blk.made w 33 [.pointer (some (adr k))]
 refine g_x (some (adr k)) a l c a' l' c' w _ ⟨trivial,?_⟩
 generalize w.alloc (.cells #[.pointer (some (adr k))] 33)=w4 at *
 have x5:EF w4 (w4.alloc (.cells #[.slice a l c,.slice a' l' c'] 30)):=(Ext.refl w4).alloc _
 refine ⟨trivial,?_⟩
 show True/\_
 generalize w4.alloc (.cells #[.slice a l c,.slice a' l' c'] 30)=w5 at *
 have B6:Blk (w5.alloc (.cells #[.bool false] 4)) w5.heap.size 4 [.bool false]:=Blk.made w5 4 [.bool false]
 have x6:EF w5 (w5.alloc (.cells #[.bool false] 4)):=(Ext.refl w5).alloc _
 refine ⟨trivial,?_⟩
 show (∃ _,_)/\_
 generalize w5.alloc (.cells #[.bool false] 4)=w6 at *
 refine ⟨B6.off (j:=0) (n:=1) (q:=fun T=>(Nat.beq 30 T||false)) (by simp) rfl,trivial,?_⟩
 have B7:Blk (w6.setCell (adr w5.heap.size) (.bool false)) w5.heap.size 4 [.bool false]:=B6.set 0 (.bool false)
 have x7:EF w5 (w6.setCell (adr w5.heap.size) (.bool false)):=Ext.setCell x6 (a:=⟨w5.heap.size,0,none⟩) (.inr (Nat.le_refl _)) _
 generalize w6.setCell (adr w5.heap.size) (.bool false)=w7 at *
 have y7:=(x4.then x5).then x7
 have hz4:=B4.lt
 have hz5:=x5.size
 have hk:=hB.lt
 have hx5:=x4.size
 have B47:Blk w7 w.heap.size 33 [.pointer (some (adr k))]:=(B4.ext x5 id).ext x7 id
 refine ⟨some (adr k),(B47.at (j:=0) rfl).cell,?_⟩
 refine (j_4 (X:=fun b=>b=w5.heap.size) (P:=PLf k A4 L4 C4 A L C A3 L3 C3 types w.heap.size w5.heap.size) (by show ¬ k=w5.heap.size;omega) (o_Y (by omega) (by omega) (by omega)) (hB.ext y7 id) (hT.keep y7.keep) (hR.keep y7.keep) (hl.keep y7.keep) (hl'.keep y7.keep) ok1 ok2 ⟨B47,hB.ext y7 id,hT.keep y7.keep,false,B7,by simp⟩).mono ?_
 rintro _ w10 ⟨rfl,s10,-, -, -, b,B10,hb⟩
 refine ⟨rfl,⟨s10.kt _ (by decide),trivial⟩,b,(B10.at (j:=0) rfl).cell,b,rfl,y7.trans s10.ext fun k' hk' e=>?_,hb⟩
 have e:k'=w5.heap.size:=e
 omega
end
theorem Base.look {c:WCtx}{cx:Option OpD}{co:OA}{vm:Nat}{evs:List Value}{w w':World}(hb:Base c)(hw:Wst c cx co vm evs w)(hx:EF w w'):w'.cell? ⟨c.wb,1,none⟩=some (.pointer (some (adr c.sb)))/\w'.cell? ⟨c.sb,4,none⟩=some (.map (some c.m1))/\
  ∀ u,∃ q,(Instr.lookup 242 (.map (some c.m1)) (.string u) false).run Tryz.prog w'=.ok (.pointer q) w'/\OptQ (PDef c.M c.w0) (lastN Def.name c.types u) q:=by
 obtain ⟨q1,q2,q3,s,hS,-⟩:=hb.sch
 have hwk:=hw.wk.trans (Wk.ofExt hx fun _ _=>id)
 exact ⟨((hw.walker.ext hx id).at (j:=1) rfl).cell,hwk.nd hb.sb hS (j:=4) rfl rfl,fun u=>VC.tlook (hwk.smap hb.m1.1 hb.m1.2.1) hb.m1.2.2 u⟩
theorem ceqn {w0 w1 w2:World}(y:EF w0 w1)(x:EF w1 w2){a:Addr}{v:Value}(h:w0.cell? a=some v):w2.cell? a=w1.cell? a:=x.cell_eq id ((y.cell_eq id h).trans h)
theorem f_1 {s:BA}{A:OA}{L C:Nat}{w:World}:CP 168 #[.string s,.slice A L C] w fun e w'=>∃ v,e=.returned v/\v.oneCell'=true/\EF w w':=
 g_A s A L C w _ ⟨trivial,_,rfl,rfl,(Ext.refl w).alloc _⟩
abbrev Suf (ae:Nat)(X:Addr)(fmt:BA)(A:OA)(L C:Nat)(q:OA)(v53 v70:Value)(w:World)(K:World->Prop):Prop:=
 CP 168 #[.string fmt,.slice A L C] w (fun e w73=>∃ v74:Value,e=.returned v74/\True/\((w73.cell? X=w.cell? X)/\(w73.cell? (adr ae)=w.cell? (adr ae))/\True)/\
  CP 109 #[.pointer q] w73 (fun e w76=>∃ v77:Value,e=.returned v77/\True/\((w76.cell? (adr ae)=w73.cell? (adr ae))/\True)/\(v70.oneCell'=true/\v74.oneCell'=true/\v77.oneCell'=true/\True)/\(let w78:=w76.alloc (.cells #[v70,v74,v77] 174);
   ((w78.cell? (adr ae)=w76.cell? (adr ae))/\True)/\∃ (g:FuncId) (cap:List Value),v53=.func (.func g) #[] cap.toArray/\∃ fn,Tryz.prog.funcs[g]? =some fn/\(fn.name== "runtime.NumGoroutine" ||fn.body.isNone)=false/\
   CP g ([Value.slice (some (adr w76.heap.size)) 3 3]++cap).toArray w78 (fun e w83=>e=.returned (.tuple #[])/\True/\True/\K w83))))
abbrev MSuf (ae:Nat)(X:Addr)(fm:BA)(A':OA)(L' C':Nat)(fmt:BA)(A:OA)(L C:Nat)(q:OA)(v53:Value)(w:World)(K:World->Prop):Prop:=
 CP 108 #[.string fm,.slice A' L' C'] w (fun e w69=>∃ v70:Value,e=.returned v70/\True/\((w69.cell? X=w.cell? X)/\(w69.cell? (adr ae)=w.cell? (adr ae))/\True)/\Suf ae X fmt A L C q v53 v70 w69 K)
theorem suf0 {ae cnt m:Nat}{b:Prop}{w:World}{X:Addr}{xv v53 v70:Value}{q:OA}{fmt:BA}{A:OA}{L C:Nat}{K:World->Prop}(hc:Cnt ae cnt m b w)(hX:w.cell? X=some xv)(hv:v70.oneCell'=true)(hne:ae≠cnt)
  (h53:v53=.func (.func 102) #[] #[.pointer (some (adr cnt))]) (hK:∀ w',Ext (fun k=>k=cnt∨k=ae) w w'->Cnt ae cnt (m+1) True w'->K w'):Suf ae X fmt A L C q v53 v70 w K:=by
 have a0:w.cell? (adr ae)=_:=(hc.1.at (j:=0) rfl).cell
 refine f_1.mono ?_
 rintro _ w73 ⟨v74,rfl,o74,x73⟩
 refine ⟨v74,rfl,trivial,⟨x73.cell_eq id hX,x73.cell_eq id a0,trivial⟩,?_⟩
 refine j_b.mono ?_
 rintro _ w76 ⟨v77,rfl,o77,x76⟩
 have x78:EF w76 (w76.alloc (.cells #[v70,v74,v77] 174)):=(Ext.refl w76).alloc _
 have y:EF w (w76.alloc (.cells #[v70,v74,v77] 174)):=(x73.then x76).then x78
 refine ⟨v77,rfl,trivial,⟨ceqn x73 x76 a0,trivial⟩,⟨hv,o74,o77,trivial⟩,⟨ceqn (x73.then x76) x78 a0,trivial⟩,102,[.pointer (some (adr cnt))],h53,_,Tryz.func102,by kernel_rfl,?_⟩
 refine (n_T (hc.ext y id id) hne).mono ?_
 rintro _ w83 ⟨rfl,x83,c83⟩
 exact ⟨rfl,trivial,trivial,hK w83 ((y.toM _).trans x83 fun _ _ e=>e) c83⟩
theorem msuf0 {ae cnt m:Nat}{b:Prop}{w:World}{X:Addr}{xv v53:Value}{q:OA}{fm fmt:BA}{A' A:OA}{L' C' L C:Nat}{K:World->Prop}(hc:Cnt ae cnt m b w)(hX:w.cell? X=some xv)(hne:ae≠cnt)
  (h53:v53=.func (.func 102) #[] #[.pointer (some (adr cnt))]) (hK:∀ w',Ext (fun k=>k=cnt∨k=ae) w w'->Cnt ae cnt (m+1) True w'->K w'):MSuf ae X fm A' L' C' fmt A L C q v53 w K:=by
 have a0:w.cell? (adr ae)=_:=(hc.1.at (j:=0) rfl).cell
 refine c_x.mono ?_
 rintro _ w69 ⟨v70,rfl,o70,x69⟩
 exact ⟨v70,rfl,trivial,⟨x69.cell_eq id hX,x69.cell_eq id a0,trivial⟩,suf0 (hc.ext x69 id id) ((x69.cell_eq id hX).trans hX) o70 hne h53 fun w' x' c'=>hK w' ((x69.toM _).trans x' fun _ _ e=>e) c'⟩
abbrev leafK (k:BA):Prop:=k=kEnum∨k=d_m
theorem f_e {c:WCtx}{d:Def}{db:Nat}{w:World}(hwk:Wk c c.w0 w)(hp:PDef c.M c.w0 d db):
  CP 167 #[.pointer (some (adr db))] w fun e w'=>∃ b:Bool,e=.returned (.bool b)/\w'=w/\(b=true↔leafK d.kind):=by
 obtain ⟨_,_,_,_,_,_,A3,L3,C3,_,_,_,_,_,_,pos3,hM,hB,-⟩:=hp
 have c0:=hwk.nd hM hB (j:=0) rfl rfl
 refine c_i (some (adr db)) w _ fun K2 hK2=>?_
 have key:∀ z:Bool,(z=true↔leafK d.kind)->K2 z w:=fun z hz=>hK2 z w ⟨z,rfl,rfl,hz⟩
 exact ⟨adr db,rfl,d.kind,c0,fun h1=>⟨adr db,rfl,d.kind,c0,key _ ⟨fun h=>.inr (a_b.1 h),fun h=>a_b.2 (h.resolve_left (a_f.1 h1))⟩⟩,fun h1=>key true ⟨fun _=>.inl (a_b.1 h1),fun _=>rfl⟩⟩
theorem n_t {c:WCtx}{w w':World}{f:Fld}{tb:Nat}(hwk:Wk c c.w0 w)(hx:EF w w')(hok:okTyp f.t)(hty:(PTyp c.M c.w0 f.t tb)∨(f.t=.mk bStr [] false/\¬ c.V tb/\Blk w tb 201 [.string bStr,.pointer none,.bool false,.pointer none])):
  CP 166 #[.pointer (some (adr tb))] w' fun e w''=>e=.returned (.string (a_w f.t))/\w''=w':=by
 rcases hty with h|⟨he,-, hB⟩
 ·exact a_I f.t tb w' (hwk.trans (Wk.ofExt hx fun _ _=>id)) h hok
 ·have c0:=((hB.ext hx id).at (j:=0) rfl).cell
  rw [he]
  exact b_H (some (adr tb)) w' _ ⟨adr tb,rfl,bStr,c0,fun _=>⟨adr tb,rfl,bStr,c0,rfl,rfl⟩,fun h=>absurd (b_2 h) (by decide)⟩
theorem m_j {c:WCtx}{w w':World}{f:Fld}{tb:Nat}(hwk:Wk c c.w0 w)(hx:EF w w')(hok:okTyp f.t)(hw:typW f.t<=2097152)(hty:(PTyp c.M c.w0 f.t tb)∨(f.t=.mk bStr [] false/\¬ c.V tb/\Blk w tb 201 [.string bStr,.pointer none,.bool false,.pointer none])):
  CP 120 #[.pointer (some (adr tb))] w' fun e w''=>∃ s,e=.returned (.string s)/\w''=w':=by
 rcases hty with h|⟨he,-, hB⟩
 ·refine (c_B f.t tb w' (hwk.trans (Wk.ofExt hx fun _ _=>id)) h hok hw).mono ?_
  rintro _ _ ⟨s,rfl,-, rfl⟩
  exact ⟨s,rfl,rfl⟩
 ·have hB':=hB.ext hx id
  have c0:=(hB'.at (j:=0) rfl).cell
  have e0:E0.size=0:=rfl
  have e6:bStr.size=6:=rfl
  exact b_S (some (adr tb)) w' _ fun K2 hK2=>⟨adr tb,rfl,false,(hB'.at (j:=2) rfl).cell,nofun,fun _=>hK2 E0 w' ⟨adr tb,rfl,bStr,c0,fun _=>⟨adr tb,rfl,bStr,c0,_,_,b_E,b_q (by omega) (by omega),trivial,_,rfl,rfl⟩,fun h=>absurd (b_2 h) (by decide)⟩⟩
def g_n (c:WCtx)(pd:Option Def)(n:BA)(m:Nat):Prop:=∃ f d,fldD pd n=some f/\lastN Def.name c.types (a_w f.t)=some d/\((leafK d.kind/\0<m)∨(¬ leafK d.kind/\m=0))
def k_O (c:WCtx):Ev->Prop
 | .fld (.mk _ _ n _ _ _ kids) pd=>g_n c pd n kids.length
 | _=>False
def StL (bad:Ev->Prop)(ae cnt sg:Nat)(l:List Ev)(w:World):Prop:=StB bad ae cnt l w/\Blk w sg 4 [.bool false]
section
variable {c:WCtx} {ae cnt sg:Nat} {bad:Ev->Prop} {l:List Ev} {w:World} {cx:Option OpD} {co:OA} {vm:Nat} {evs:List Value} {node:Value} {ev:Ev}
theorem o_P (hb:Base c)(hVM:∀ b,b=cnt∨b=ae->¬ c.M b)(hbad:∀ e,bad e↔k_O c e)(hne:ae≠cnt)(h1:sg≠cnt)(h2:sg≠ae)(htw:∀ (n:BA) (pd:Option Def) (f:Fld),fldD pd n=some f->(∀ d,pd=some d->d∈c.types)->typW f.t<=2097152)(hc0:StL bad ae cnt sg l w)(hw:Wst c cx co vm evs w)(hk:slot ev=1)(hn:f_i c cx w node ev):
  CP 165 #[.pointer (some (adr c.wb)),node,.pointer (some (adr ae)),.pointer (some (adr sg))] w fun e w'=>e=.returned (.tuple #[])/\Ext (fun b=>b=cnt∨b=ae∨b=sg) w w'/\StL bad ae cnt sg (l++[ev]) w':=by
 cases ev with
 | fld s pd=>
  obtain ⟨hc,hsg⟩:=hc0
  obtain ⟨b,q,q8,rfl,hp,hq,hF,-, -, hpd⟩:=hn
  obtain ⟨k,al,n,on,args,dirs,kids⟩:=s
  simp only [PSel] at hp
  rcases hp with ⟨-, b',A1,L1,C1,A2,L2,C2,A3,L3,C3,pos,he,hM,hB,-, -, hL3,-⟩|⟨-, b',_,_,_,pos,he,-⟩|⟨-, b',_,_,_,_,_,_,pos,he,-⟩
  ·obtain rfl:b=b':=by
    have:=he
    simp only [Value.iface.injEq,Value.pointer.injEq,Option.some.injEq,true_and] at this
    exact congrArg Addr.block this
   have hB1:bad (.fld (.mk k al n on args dirs kids) pd)↔g_n c pd n kids.length:=hbad _
   have hF:FldAt c w (fldD pd n) q:=hF
   have good:∀ w',Ext (fun b=>b=cnt∨b=ae) w w'->StB bad ae cnt (l++[.fld (.mk k al n on args dirs kids) pd]) w'->(.returned (.tuple #[]):Ending)=.returned (.tuple #[])/\Ext (fun b=>b=cnt∨b=ae∨b=sg) w w'/\StL bad ae cnt sg (l++[.fld (.mk k al n on args dirs kids) pd]) w':=fun w' x' s'=>
    ⟨rfl,x'.mono fun _ _ e=>e.elim .inl fun e=>.inr (.inl e),s',hsg.ext x' fun e=>e.elim h1 h2⟩
   refine b_Z (some (adr c.wb)) (some (adr b)) (adr ae) (adr sg) w _ ⟨adr b,rfl,q,hq,fun hq0=>good w (Ext.refl w) (StB.good hc fun hbd=>?_),fun hq0=>fun w7 e7=>?_⟩
   ·obtain ⟨f,d,hf,-⟩:=hB1.1 hbd
    rw [hf] at hF
    obtain ⟨fb,A,L,C,tb,rfl,-⟩:=hF
    cases hq0
   cases hfd:fldD pd n with
   | none=>
    rw [hfd] at hF
    rw [show q=none from hF] at hq0
    cases hq0
   | some f=>
    rw [hfd] at hF
    obtain ⟨fb,A,L,C,tb,rfl,-, -, -, h4,hokt,hty⟩:=hF
    have hws:=htw n pd f hfd hpd
    have x7:EF w w7:=by rw [e7];exact (Ext.refl w).drew
    obtain ⟨z1,z2,z4⟩:=hb.look hw x7
    refine ⟨adr c.wb,rfl,_,z1,adr c.sb,rfl,_,z2,adr b,rfl,_,(x7.cell_eq id hq).trans hq,adr fb,rfl,_,(x7.cell_eq id h4).trans h4,?_⟩
    refine (n_t hw.wk x7 hokt hty).mono ?_
    rintro _ w17 ⟨rfl,rfl⟩
    obtain ⟨q19,r19,o19⟩:=z4 (a_w f.t)
    refine ⟨_,rfl,trivial,⟨rfl,rfl,trivial⟩,q19,r19,trivial,fun hq1=>good w17 (x7.toM _) (StB.good (Cnt.ext hc x7 id id) fun hbd=>?_),fun hq1=>fun K20 hK20=>fun K142 hK142=>?_⟩
    ·obtain ⟨f',d,hf,hd,-⟩:=hB1.1 hbd
     rw [hfd] at hf
     cases hf
     rw [o19.isNone.1 hq1] at hd
     cases hd
    cases hld:lastN Def.name c.types (a_w f.t) with
    | none=>
     rw [o19.isNone.2 hld] at hq1
     cases hq1
    | some d=>
     rw [hld] at o19
     obtain ⟨db,rfl,hdp⟩:=o19
     have hbl:bad (.fld (.mk k al n on args dirs kids) pd)↔(leafK d.kind/\0<kids.length)∨(¬ leafK d.kind/\kids.length=0):=hB1.trans ⟨fun ⟨f',d',h,h',h''⟩=>by
      rw [hfd] at h
      cases h
      rw [hld] at h'
      cases h'
      exact h'',fun h=>⟨f,d,hfd,hld,h⟩⟩
     have sels:∀ w',Ext (fun b=>b=cnt∨b=ae) w w'->w'.cell? ⟨b,4,none⟩=some (.slice A3 L3 C3):=fun w' x'=>(hw.wk.trans (Wk.ofExt x' fun b hb e=>hVM b e hb)).nd hM hB (j:=4) rfl rfl
     have key20:∀ w',Ext (fun b=>b=cnt∨b=ae) w w'->Cnt ae cnt (l.length+1) ((∃ e∈l,bad e)∨(leafK d.kind/\0<kids.length)) w'->(¬ (leafK d.kind/\0<kids.length)->EF w w'/\Cnt ae cnt l.length (∃ e∈l,bad e) w')->K20 w':=by
      intro w' x' c1 c2
      have k':=hw.wk.trans (Wk.ofExt x' fun b hb e=>hVM b e hb)
      refine hK20 w' fun K22 hK22=>?_
      have key22:∀ b:Bool,(b=true↔¬ leafK d.kind/\kids.length=0)->K22 b w':=by
       intro bb hbb
       refine hK22 bb w' ⟨fun h=>?_,fun h=>good w' x' (Cnt.skip c1 (by simp) ?_)⟩
       ·obtain ⟨g1,g2⟩:=hbb.1 h
        obtain ⟨xw,c2'⟩:=c2 fun k=>g1 k.1
        refine ⟨false,((hsg.ext xw id).at (j:=0) rfl).cell,nofun,fun _=>fun w52 e52=>?_⟩
        have x52:EF w' w52:=by rw [e52];exact (Ext.refl w').drew
        have y52:=xw.then x52
        have k52:=hw.wk.trans (Wk.ofExt y52 fun _ _=>id)
        have c52:=Cnt.ext c2' x52 id id
        have cae:w52.cell? (adr ae)=_:=(c52.1.at (j:=0) rfl).cell
        have cn:w52.cell? ⟨b,1,none⟩=some (.string n):=k52.nd hM hB (j:=1) rfl rfl
        have c5:w52.cell? ⟨b,5,none⟩=_:=(k52.at (a:=⟨b,5,none⟩) hM (hB.at (j:=5) rfl) rfl).cell
        have c7:w52.cell? ⟨b,7,none⟩=_:=(y52.cell_eq id hq).trans hq
        have c4:w52.cell? ⟨fb,4,none⟩=_:=(y52.cell_eq id h4).trans h4
        have fin52:∀ w'',Ext (fun b=>b=cnt∨b=ae) w52 w''->Cnt ae cnt (l.length+1) True w''->(.returned (.tuple #[]):Ending)=.returned (.tuple #[])/\Ext (fun b=>b=cnt∨b=ae∨b=sg) w w''/\StL bad ae cnt sg (l++[.fld (.mk k al n on args dirs kids) pd]) w'':=fun w'' x'' c''=>good w'' ((y52.toM _).trans x'' fun _ _ e=>e) (StB.told c'' (hbl.2 (.inr ⟨g1,g2⟩)))
        clear e52
        refine ⟨_,cae,adr b,rfl,n,cn,adr b,rfl,_,c7,adr fb,rfl,_,c4,adr b,rfl,n,cn,adr b,rfl,pos,c5,?_,?_⟩
        ·refine (m_j hw.wk y52 hokt hws hty).mono ?_
         rintro _ _ ⟨s66,rfl,rfl⟩
         refine ⟨s66,rfl,trivial,⟨rfl,rfl,rfl,rfl,trivial⟩,⟨trivial,?_⟩,trivial,?_⟩
         ·intro w67
          have x67:EF _ w67:=(Ext.refl _).alloc _
          clear_value w67
          refine ⟨⟨x67.cell_eq id c5,x67.cell_eq id cn,x67.cell_eq id cae,trivial⟩,?_,trivial,?_⟩
          ·refine c_x.mono ?_
           rintro _ w69 ⟨v70,rfl,o70,x69⟩
           refine ⟨v70,rfl,trivial,⟨ceqn x67 x69 c5,ceqn x67 x69 cn,ceqn x67 x69 cae,trivial⟩,trivial,?_⟩
           intro w71
           have x71:EF _ w71:=(Ext.refl _).alloc _
           clear_value w71
           have y71:=(x67.then x69).then x71
           exact ⟨⟨ceqn (x67.then x69) x71 c5,ceqn (x67.then x69) x71 cae,trivial⟩,suf0 (Cnt.ext c52 y71 id id) ((y71.cell_eq id c5).trans c5) o70 hne rfl fun w' x' c'=>fin52 w' ((y71.toM _).trans x' fun _ _ e=>e) c'⟩
          ·intro w84
           have x84:EF _ w84:=(Ext.refl _).alloc _
           clear_value w84
           have y84:=x67.then x84
           exact ⟨⟨ceqn x67 x84 c5,ceqn x67 x84 cae,trivial⟩,msuf0 (Cnt.ext c52 y84 id id) ((y84.cell_eq id c5).trans c5) hne rfl fun w' x' c'=>fin52 w' ((y84.toM _).trans x' fun _ _ e=>e) c'⟩
         ·intro w100
          have x100:EF _ w100:=(Ext.refl _).alloc _
          clear_value w100
          refine ⟨⟨x100.cell_eq id c5,x100.cell_eq id cn,x100.cell_eq id cae,trivial⟩,trivial,?_⟩
          intro w101
          have x101:EF _ w101:=(Ext.refl _).alloc _
          clear_value w101
          have y101:=x100.then x101
          exact ⟨⟨ceqn x100 x101 c5,ceqn x100 x101 cae,trivial⟩,msuf0 (Cnt.ext c52 y101 id id) ((y101.cell_eq id c5).trans c5) hne rfl fun w' x' c'=>fin52 w' ((y101.toM _).trans x' fun _ _ e=>e) c'⟩
        ·refine ⟨trivial,?_⟩
         intro w117
         have x117:EF _ w117:=(Ext.refl _).alloc _
         clear_value w117
         refine ⟨⟨x117.cell_eq id c5,x117.cell_eq id c4,x117.cell_eq id c7,x117.cell_eq id cn,x117.cell_eq id cae,trivial⟩,?_⟩
         refine (m_j hw.wk (y52.then x117) hokt hws hty).mono ?_
         rintro _ _ ⟨s120,rfl,rfl⟩
         refine ⟨s120,rfl,trivial,⟨rfl,rfl,rfl,trivial⟩,trivial,?_⟩
         intro w121
         have x121:EF _ w121:=(Ext.refl _).alloc _
         clear_value w121
         have y121:=x117.then x121
         exact ⟨⟨ceqn x117 x121 c5,ceqn x117 x121 cae,trivial⟩,msuf0 (Cnt.ext c52 y121 id id) ((y121.cell_eq id c5).trans c5) hne rfl fun w' x' c'=>fin52 w' ((y121.toM _).trans x' fun _ _ e=>e) c'⟩
       ·exact i_p.trans ⟨fun k=>k.imp id fun k=>(hbl.1 k).resolve_right fun k=>(by rw [hbb.2 k] at h;cases h),fun k=>k.imp id fun k=>hbl.2 (.inl k)⟩ |>.symm
      refine (f_e k' hdp).mono ?_
      rintro _ _ ⟨z,rfl,rfl,hz⟩
      refine ⟨z,rfl,trivial,fun hz0=>⟨adr b,rfl,A3,L3,C3,sels _ x',key22 _ ?_⟩,fun hz1=>key22 false ⟨nofun,fun k=>?_⟩⟩
      ·have hnl:¬ leafK d.kind:=fun k=>by rw [hz.2 k] at hz0;cases hz0
       rw [beq_iff_eq]
       exact ⟨fun k=>⟨hnl,by omega⟩,fun k=>by omega⟩
      ·have:z=true:=by simpa using hz1
       exact absurd (hz.1 this) k.1
     have key142:∀ b:Bool,(b=true↔leafK d.kind/\0<kids.length)->K142 b w17:=by
      intro bb hbb
      refine hK142 bb w17 ⟨fun h=>fun w145 e145=>?_,fun h=>?_⟩
      ·have g:=hbb.1 h
       have x145:EF w w145:=by rw [e145];exact x7.drew
       have c145:=Cnt.ext hc x145 id id
       have k145:=hw.wk.trans (Wk.ofExt x145 fun _ _=>id)
       have a145:=k145.at (a:=⟨b,5,none⟩) hM (hB.at (j:=5) rfl) rfl
       obtain ⟨_,_,_,_,_,_,A9,L9,C9,_,_,_,_,_,_,pos9,hM9,hB9,-⟩:=hdp
       refine ⟨_,(c145.1.at (j:=0) rfl).cell,adr b,rfl,n,k145.nd hM hB (j:=1) rfl rfl,adr db,rfl,d.name,k145.nd hM9 hB9 (j:=2) rfl rfl,adr b,rfl,pos,a145.cell,trivial,?_⟩
       refine tell c145 a145 hne ((Ext.refl w145).alloc _) rfl fun w' x' c'=>key20 w' ((x145.toM _).trans x' fun _ _ e=>e) (Cnt.skip c' (by omega) ⟨fun _=>.inr g,fun _=>trivial⟩) fun k=>absurd g k
      ·have g:¬ (leafK d.kind/\0<kids.length):=fun k=>by rw [hbb.2 k] at h;cases h
       have c17:=Cnt.ext hc x7 id id
       exact key20 w17 (x7.toM _) (Cnt.skip c17 (by omega) ⟨.inl,fun k=>k.resolve_right g⟩) fun _=>⟨x7,c17⟩
     refine (f_e (hw.wk.trans (Wk.ofExt x7 fun _ _=>id)) hdp).mono ?_
     rintro _ _ ⟨z,rfl,rfl,hz⟩
     refine ⟨z,rfl,trivial,fun hz1=>⟨adr b,rfl,A3,L3,C3,sels _ (x7.toM _),key142 _ ?_⟩,fun hz0=>key142 false ⟨nofun,fun k=>?_⟩⟩
     ·rw [decide_eq_true_iff]
      exact ⟨fun k=>⟨hz.1 hz1,by omega⟩,fun k=>by omega⟩
     ·rw [hz.2 k.1] at hz0
      cases hz0
  ·simp at he
  ·simp at he
 | _=>cases hk
end
theorem o_d {types:List Def}(hty:∀ x∈types,∀ y∈x.fields,typW y.t<=2097152)(n:BA)(pd:Option Def)(f:Fld)(h:fldD pd n=some f)(hpd:∀ d,pd=some d->d∈a_P++types):typW f.t<=2097152:=by
 unfold fldD at h
 split at h
 ·cases h
  exact Nat.le_of_ble_eq_true rfl
 ·cases pd with
  | none=>cases h
  | some d=>
   have h:a_h Fld.name d.fields n=some f:=h
   have hf:=(a_U h).1
   rcases List.mem_append.1 (hpd d rfl) with hd|hd
   ·obtain ⟨s,-, rfl⟩:=List.mem_map.1 hd
    simp [a_A] at hf
   ·exact hty d hd f hf
mutual
def flS (tys:List Def):Option Def->Sel->List (Sel × Option Def)
 | pd,.mk k al n on args dirs kids=>if k=0 then (.mk k al n on args dirs kids,pd)::flL tys (nextD tys pd n) kids else if k=1 then [] else flL tys (inlD tys pd on) kids
def flL (tys:List Def):Option Def->List Sel->List (Sel × Option Def)
 | _,[]=>[]
 | pd,s::l=>flS tys pd s++flL tys pd l
end
section
variable {tys:List Def} {fs:List Frag} {cx:Option OpD}
theorem m_i {s:Sel}{pd':Option Def}:∀ (ks:List Sel) (pd:Option Def),Ev.fld s pd'∈evL tys fs cx pd ks↔(s,pd')∈flL tys pd ks
 | [],pd=>by simp [evL,flL]
 | .mk k al n on args dirs kids::l,pd=>by
  have ihl:=m_i (s:=s) (pd':=pd') l pd
  have hA:Ev.fld s pd'∉b_B cx args:=fun h=>by have:=d_8 _ h;cases this
  have hD:∀ loc,Ev.fld s pd'∉evDs cx loc dirs:=fun loc h=>by have:=b_C _ h;simp [slot] at this
  have key:Ev.fld s pd'∈evS tys fs cx pd (.mk k al n on args dirs kids)↔(s,pd')∈flS tys pd (.mk k al n on args dirs kids):=by
   simp only [evS,flS]
   by_cases hk0:k=0
   ·have ih:=m_i (s:=s) (pd':=pd') kids (nextD tys pd n)
    rw [if_pos hk0,if_pos hk0,List.mem_append,List.mem_append,List.mem_append,ih]
    simp [hA,hD,or_comm]
   ·by_cases hk1:k=1
    ·rw [if_neg hk0,if_pos hk1,if_neg hk0,if_pos hk1,List.mem_append]
     simp [hD]
    ·have ih:=m_i (s:=s) (pd':=pd') kids (inlD tys pd on)
     rw [if_neg hk0,if_neg hk1,if_neg hk0,if_neg hk1,List.mem_append,List.mem_append,ih]
     simp [hD]
  simp only [evL,flL,List.mem_append]
  rw [key,ihl]
theorem n_s {s:Sel}{pd':Option Def}{f:Frag}:Ev.fld s pd'∈evFr tys fs cx f↔(s,pd')∈flL tys (lastN Def.name tys f.on) f.kids:=by
 have hD:Ev.fld s pd'∉evDs cx d_z f.dirs:=fun h=>by have:=b_C _ h;simp [slot] at this
 unfold evFr
 rw [List.mem_append,m_i]
 simp [hD]
end
theorem o_T {c:WCtx}{x:OpD}{s:Sel}{pd':Option Def}:Ev.fld s pd'∈evOp c x↔(s,pd')∈flL c.types (rootT c x.kind) x.kids:=by
 have hV:Ev.fld s pd'∉f_j (some x) x.vars:=fun h=>by have:=g_e _ h;simp [slot] at this
 have hD:Ev.fld s pd'∉evDs (some x) (opLoc x.kind) x.dirs:=fun h=>by have:=b_C _ h;simp [slot] at this
 unfold evOp
 rw [List.mem_append,List.mem_append,List.mem_append,m_i]
 simp [hV,hD]
theorem k_j {c:WCtx}{s:Sel}{pd:Option Def}:DocEv c (.fld s pd)↔(∃ x∈c.ops,(s,pd)∈flL c.types (rootT c x.kind) x.kids)∨∃ f∈c.frags,(s,pd)∈flL c.types (lastN Def.name c.types f.on) f.kids:=by
 constructor
 ·rintro (⟨x,hx,h|⟨n,f,-, h1,h2⟩⟩|⟨f,hf,(h|⟨n,g,-, h1,h2⟩)|h⟩)
  ·exact .inl ⟨x,hx,o_T.1 h⟩
  ·exact .inr ⟨f,(a_U h1).1,n_s.1 h2⟩
  ·exact .inr ⟨f,hf,n_s.1 h⟩
  ·exact .inr ⟨g,(a_U h1).1,n_s.1 h2⟩
  ·cases h
 ·rintro (⟨x,hx,h⟩|⟨f,hf,h⟩)
  ·exact .inl ⟨x,hx,.inl (o_T.2 h)⟩
  ·exact .inr ⟨f,hf,.inl (.inl (n_s.2 h))⟩
theorem e_z {types:List Def}{u:BA}(h:(findD types u).2=false):(findD types u).1=noDef:=by
 unfold findD at h ⊢
 split
 ·rename_i d hd
  simp [hd] at h
 ·split
  ·rename_i h1 h2
   simp [h1,h2] at h
  ·rfl
theorem k_Y {types:List Def}{u:BA}(h:(findD types u).2=true):(findD types u).1∈a_P++types:=by
 unfold findD at h ⊢
 split
 ·rename_i d hd
  exact List.mem_append.2 (.inr (List.mem_of_find?_eq_some hd))
 ·split
  ·rename_i h2
   exact List.mem_append.2 (.inl (List.mem_map.2 ⟨u,d_x.1 h2,rfl⟩))
  ·rename_i h1 h2
   simp [h1,h2] at h
theorem baseName_eq':∀ t:Typ,a_n t=a_w t
 | .mk n [] nn=>rfl
 | .mk n (t::l) nn=>baseName_eq' t
def Rel (types:List Def)(u:BA)(pd:Option Def):Prop:=∀ n,n≠bTn->fldD pd n=b_e types u n/\∀ f,b_e types u n=some f->(findD types (a_n f.t)).1.kind≠E0/\(findD types (a_n f.t)).1.kind≠b_f
theorem o_U {pd:Option Def}{n:BA}(hn:n≠bTn):fldD pd n=pd.bind fun d=>a_h Fld.name d.fields n:=by rw [fldD,if_neg hn]
theorem o_I {types:List Def}{u:BA}{pd:Option Def}(h1:∀ d,pd=some d->d.fields=[])(h2:(findD types u).1=noDef):Rel types u pd:=fun n hn=>by
 have hS:b_e types u n=none:=by
  rw [b_e,if_neg fun k=>hn k.1,h2,if_neg]
  rintro (h|h)<;>exact absurd h (by decide)
 refine ⟨?_,fun f h=>by rw [hS] at h;cases h⟩
 rw [hS,o_U hn]
 cases pd with
 | none=>rfl
 | some d=>
  show a_h Fld.name d.fields n=none
  rw [h1 d rfl];rfl
section
variable {types:List Def} {dirs:List DirDef} {defs:List SchemaDef}
theorem e_A (hO:OkSchema types dirs defs){s:BA}(h:s∈scal):findD types s=(a_A s,true):=by
 have:types.find? (fun d=>d.name.toList==s.toList)=none:=by
  rw [List.find?_eq_none]
  intro x hx he
  have he:x.name=s:=a_b.1 (by simpa using he)
  exact (hO.names.2 x.name (List.mem_map.2 ⟨x,hx,rfl⟩)).2 (he▸h)
 unfold findD
 rw [this]
 simp only []
 rw [if_pos (d_x.2 h)]
theorem f_M:bStr∈scal:=.tail _ (.tail _ (.head _))
theorem j_O (hO:OkSchema types dirs defs){u:BA}(h:(findD types u).1.kind≠b_f):Rel types u (lastN Def.name (a_P++types) u):=by
 rw [c_N hO]
 cases hf:(findD types u).2 with
 | false=>exact o_I (fun d hd=>by simp at hd) (e_z hf)
 | true=>
  intro n hn
  have hd:b_e types u n=if (findD types u).1.kind=a_V∨(findD types u).1.kind=b_i then a_h Fld.name (findD types u).1.fields n else none:=by rw [b_e,if_neg fun k=>hn k.1]
  rw [if_pos rfl,o_U hn]
  have hm:=k_Y hf
  generalize (findD types u).1=d at *
  show a_h Fld.name d.fields n=_/\_
  by_cases hk:d.kind=a_V∨d.kind=b_i
  ·rw [if_pos hk] at hd
   refine ⟨hd.symm,fun f hf=>?_⟩
   rw [hd] at hf
   have hfm:=(a_U hf).1
   rcases List.mem_append.1 hm with hm|hm
   ·obtain ⟨s,-, rfl⟩:=List.mem_map.1 hm
    simp [a_A] at hfm
   ·exact ((hO.simple d hm).2.1 f hfm).2.2.2.2.2 h
  ·rw [if_neg hk] at hd
   have hfl:d.fields=[]:=by
    rcases ((k_I (roots:=[]) hO).2.1 d hm).2.2.2.2 with k|k|k|k
    ·exact k
    ·exact (hk (.inl k)).elim
    ·exact (hk (.inr k)).elim
    ·exact absurd k h
   refine ⟨by rw [hd,hfl];rfl,fun f hf=>by rw [hd] at hf;cases hf⟩
theorem o_q (hO:OkSchema types dirs defs){c:WCtx}(ht:c.types=a_P++types){u:BA}{pd:Option Def}(hR:Rel types u pd)(n:BA)(m:Nat):g_n c pd n m↔bad1 types 0 n m u∨(n=bTn/\0<m):=by
 by_cases hn:n=bTn
 ·subst hn
  have hs:=e_A hO f_M
  have hno:¬ compK d_m:=by rintro (h|h|h)<;>exact absurd h (by decide)
  constructor
  ·rintro ⟨f,d,hf,hd,h⟩
   refine .inr ⟨rfl,?_⟩
   rw [fldD,if_pos rfl] at hf
   cases hf
   have hd:lastN Def.name c.types bStr=some d:=hd
   rw [ht,c_N hO,hs,if_pos rfl] at hd
   cases hd
   rcases h with h|h
   ·exact h.2
   ·exact (h.1 (.inr rfl)).elim
  ·intro h
   have hm:0<m:=by
    rcases h with ⟨-, h2,h3⟩|⟨-, h⟩
    ·by_cases hc:compK (findD types u).1.kind
     ·have hS:b_e types u bTn=some (tnFld bTn):=by rw [b_e,if_pos ⟨rfl,hc⟩]
      rw [b_P hS] at h3
      have h3:¬ (compK (findD types bStr).1.kind↔0<m):=h3
      rw [hs] at h3
      exact Classical.byContradiction fun k=>h3 ⟨fun k'=>absurd k' hno,fun k'=>absurd k' k⟩
     ·have hS:b_e types u bTn=none:=by
       rw [b_e,if_neg fun k=>hc k.2,if_neg]
       rintro (k|k)
       ·exact hc (.inl k)
       ·exact hc (.inr (.inl k))
      rw [c_f hS] at h2
      cases h2
    ·exact h
   refine ⟨_,a_A bStr,by rw [fldD,if_pos rfl],?_,.inl ⟨.inr rfl,hm⟩⟩
   show lastN Def.name c.types bStr=_
   rw [ht,c_N hO,hs,if_pos rfl]
 ·obtain ⟨hE,hK⟩:=hR n hn
  cases hS:b_e types u n with
  | none=>
   rw [hS] at hE
   constructor
   ·rintro ⟨f,d,hf,-⟩
    rw [hE] at hf
    cases hf
   ·rintro (⟨-, h,-⟩|⟨h,-⟩)
    ·rw [c_f hS] at h
     cases h
    ·exact absurd h hn
  | some f=>
   rw [hS] at hE
   obtain ⟨k1,k2⟩:=hK f hS
   have hfound:(findD types (a_n f.t)).2=true:=by
    cases h:(findD types (a_n f.t)).2 with
    | true=>rfl
    | false=>rw [e_z h] at k1;exact absurd rfl k1
   have hl:lastN Def.name c.types (a_w f.t)=some (findD types (a_n f.t)).1:=by rw [ht,c_N hO,<- baseName_eq',if_pos hfound]
   have hdk:=((k_I (roots:=[]) hO).2.1 _ (k_Y hfound)).1
   unfold bad1
   rw [b_P hS]
   dsimp only
   generalize (findD types (a_n f.t)).1=d at *
   have hlc:leafK d.kind↔¬ compK d.kind:=by
    rcases hdk with h|h|h|h|h|h
    ·rw [h];exact ⟨fun _=>by rintro (h|h|h)<;>exact absurd h (by decide),fun _=>.inr rfl⟩
    ·rw [h];exact ⟨by rintro (h|h)<;>exact absurd h (by decide),fun k=>(k (.inl rfl)).elim⟩
    ·rw [h];exact ⟨by rintro (h|h)<;>exact absurd h (by decide),fun k=>(k (.inr (.inl rfl))).elim⟩
    ·exact absurd h k2
    ·rw [h];exact ⟨by rintro (h|h)<;>exact absurd h (by decide),fun k=>(k (.inr (.inr rfl))).elim⟩
    ·rw [h];exact ⟨fun _=>by rintro (h|h|h)<;>exact absurd h (by decide),fun _=>.inl rfl⟩
   have h1:g_n c pd n m↔(leafK d.kind/\0<m)∨(¬ leafK d.kind/\m=0):=⟨fun ⟨f',d',h,h',h''⟩=>by
    rw [hE] at h
    cases h
    rw [hl] at h'
    cases h'
    exact h'',fun h=>⟨f,d,hE,hl,h⟩⟩
   rw [h1,hlc]
   by_cases hc:compK d.kind<;>by_cases hm:0<m
   ·simp [hc,hm,hn];omega
   ·simp [hc,hm,hn];omega
   ·simp [hc,hm,hn]
   ·simp [hc,hm,hn]
theorem p_i {tys:List Def}{pd:Option Def}{al n on:BA}{args:List Argm}{ds:List Dir}{kids:List Sel}:flS tys pd (.mk 0 al n on args ds kids)=(.mk 0 al n on args ds kids,pd)::flL tys (nextD tys pd n) kids:=by
 rw [flS,if_pos rfl]
theorem p_j {tys:List Def}{pd:Option Def}{k:Int}{al n on:BA}{args:List Argm}{ds:List Dir}{kids:List Sel}(h:k=1):flS tys pd (.mk k al n on args ds kids)=[]:=by
 rw [flS,if_neg (by omega),if_pos h]
theorem p_k {tys:List Def}{pd:Option Def}{k:Int}{al n on:BA}{args:List Argm}{ds:List Dir}{kids:List Sel}(h:k≠0)(h1:k≠1):flS tys pd (.mk k al n on args ds kids)=flL tys (inlD tys pd on) kids:=by
 rw [flS,if_neg h,if_neg h1]
theorem o_N {types:List Def}{u:BA}{k:Int}{al n on:BA}{args:List Argm}{ds:List Dir}{kids:List Sel}:atS types u (.mk k al n on args ds kids)=(.mk k al n on args ds kids,u)::atL types (downS types u k n on) kids:=by rw [atS]
def walkB (c:WCtx)(x:Sel × Option Def):Prop:=k_O c (.fld x.1 x.2)
theorem j_t (hO:OkSchema types dirs defs){c:WCtx}(ht:c.types=a_P++types):∀ (ks:List Sel) (u:BA) (pd:Option Def),a_z ks->Rel types u pd->(∀ n∈condL ks,(findD types n).1.kind≠b_f)->((∃ x∈flL c.types pd ks,walkB c x)↔∃ x∈atL types u ks,badLf types x)
 | [],u,pd,_,_,_=>by simp [flL,atL]
 | .mk k al n on args dirs' kids::l,u,pd,ok,hR,hC=>by
  simp only [a_z,okSel] at ok
  have hCl:∀ n∈condL l,(findD types n).1.kind≠b_f:=fun m hm=>hC m (by simp only [condL,List.mem_append];exact .inr hm)
  have ihl:=j_t hO ht l u pd ok.2 hR hCl
  have hCk:∀ n∈condL kids,(findD types n).1.kind≠b_f:=fun m hm=>hC m (by
   simp only [condL,condS,List.mem_append]
   exact .inl (.inr hm))
  have key:(∃ x∈flS c.types pd (.mk k al n on args dirs' kids),walkB c x)↔∃ x∈atS types u (.mk k al n on args dirs' kids),badLf types x:=by
   rw [o_N]
   by_cases hk0:k=0
   ·subst hk0
    have hnext:Rel types (downS types u 0 n on) (nextD c.types pd n):=by
     rw [downS,if_pos rfl]
     by_cases hn:n=bTn
     ·subst hn
      have hnx:nextD c.types pd bTn=some (a_A bStr):=by
       rw [nextD,fldD,if_pos rfl]
       show lastN Def.name c.types bStr=_
       rw [ht,c_N hO,e_A hO f_M,if_pos rfl]
      rw [hnx]
      cases hS:b_e types u bTn with
      | none=>
       rw [c_f hS]
       exact o_I (fun d hd=>by cases hd;rfl) (e_z (m_h hO))
      | some f=>
       have hf:f=tnFld bTn:=by
        rw [b_e] at hS
        split at hS
        ·cases hS;rfl
        ·split at hS
         ·rename_i h1 h2
          exact absurd ⟨rfl,h2.elim .inl fun k=>.inr (.inl k)⟩ h1
         ·cases hS
       rw [b_P hS,hf]
       have:=j_O hO (u:=bStr) (by rw [e_A hO f_M];exact fun h=>absurd h (by decide))
       rw [c_N hO,e_A hO f_M,if_pos rfl] at this
       exact this
     ·obtain ⟨hE,hK⟩:=hR n hn
      rw [nextD,hE]
      cases hS:b_e types u n with
      | none=>
       rw [c_f hS]
       exact o_I (fun d hd=>by cases hd) (e_z (m_h hO))
      | some f=>
       rw [b_P hS]
       show Rel types (a_n f.t) (lastN Def.name c.types (a_w f.t))
       rw [ht,<- baseName_eq']
       exact j_O hO (hK f hS).2
    have ihk:=j_t hO ht kids _ _ ok.1.2.2.2.1 hnext hCk
    rw [p_i]
    simp only [List.mem_cons,exists_eq_or_imp]
    rw [ihk]
    refine or_congr_left ?_
    show g_n c pd n kids.length↔bad1 types 0 n kids.length u∨(0=(0:Int)/\n=bTn/\0<kids.length)
    rw [o_q hO ht hR]
    simp
   ·have hno:¬ badLf types (.mk k al n on args dirs' kids,u):=by
     rintro (⟨h,-⟩|⟨h,-⟩)<;>exact hk0 h
    simp only [List.mem_cons,exists_eq_or_imp,hno,false_or]
    by_cases hk1:k=1
    ·have hkk:=(ok.1.2.2.2.2.1 hk1).2
     subst hkk
     rw [p_j hk1]
     simp [atL]
    ·rw [p_k hk0 hk1]
     have hk2:k=2:=by omega
     refine j_t hO ht kids _ _ ok.1.2.2.2.1 ?_ hCk
     rw [downS,if_neg hk0,inlD]
     by_cases ho:on=E0
     ·rw [if_pos ho,if_pos ho];exact hR
     ·rw [if_neg ho,if_neg ho,ht]
      refine j_O hO (hC on ?_)
      simp only [condL,condS,List.mem_append]
      exact .inl (.inl (by rw [if_pos ⟨hk2,ho⟩];simp))
  simp only [flL,atL,List.mem_append]
  constructor
  ·rintro ⟨x,hx|hx,h⟩
   ·obtain ⟨y,hy,h⟩:=key.1 ⟨x,hx,h⟩
    exact ⟨y,.inl hy,h⟩
   ·obtain ⟨y,hy,h⟩:=ihl.1 ⟨x,hx,h⟩
    exact ⟨y,.inr hy,h⟩
  ·rintro ⟨x,hx|hx,h⟩
   ·obtain ⟨y,hy,h⟩:=key.2 ⟨x,hx,h⟩
    exact ⟨y,.inl hy,h⟩
   ·obtain ⟨y,hy,h⟩:=ihl.2 ⟨x,hx,h⟩
    exact ⟨y,.inr hy,h⟩
end
abbrev leafD (types:List Def)(roots:List RootD)(ops:List OpD)(frags:List Frag):Prop:=∃ x∈atAll types roots ops frags,badLf types x
theorem o_X (types:List Def)(dirs:List DirDef)(defs:List SchemaDef)(ops:List OpD)(frags:List Frag)(hO:OkSchema types dirs defs)(h12:ops.length<=12)(h12':frags.length<=12)(ok1:∀ x∈ops,okOp x)(ok2:∀ x∈frags,b_j x)(hs:docW ops frags<=2097152)(hS:SoundD types (a_F types defs) ops frags)(hty:∀ x∈types,∀ y∈x.fields,typW y.t<=2097152):
  RuleOK 58 (wideD types dirs (a_F types defs)) ops frags fun n=>0<=n/\(n>0↔leafD types (a_F types defs) ops frags):=by
 refine ⟨⟨_,Tryz.func58,by kernel_rfl⟩,?_⟩
 intro c cnt hops hfrags hwd hb hB hcnt hne hMc hMe
 subst hops
 subst hfrags
 obtain ⟨rf,hrf⟩:=l_q hS.ac
 have ht:c.types=a_P++types:=hwd.1
 have x3:EF c.w0 (c.w0.alloc (.cells #[.func (.func 102) #[] #[.pointer (some (adr cnt))]] 152)):=(Ext.refl c.w0).alloc _
 have Bae:=Blk.made c.w0 152 [.func (.func 102) #[] #[.pointer (some (adr cnt))]]
 refine c_Y (some (adr c.eb)) _ c.w0 _ ?_
 refine c_k (some (adr c.eb)) _ false c.w0 _ ⟨⟨rfl,trivial⟩,?_⟩
 have hlc:=hcnt.lt
 have hle:=hB.lt
 replace Bae:Blk (c.w0.alloc (.cells #[.func (.func 102) #[] #[.pointer (some (adr cnt))]] 152)) c.w0.heap.size 152 [.func (.func 102) #[] #[.pointer (some (adr cnt))]]:=Bae
 intro w3
 replace x3:EF c.w0 w3:=x3
 replace Bae:Blk w3 c.w0.heap.size 152 [.func (.func 102) #[] #[.pointer (some (adr cnt))]]:=Bae
 clear_value w3
 have hla:=Bae.lt
 refine ⟨trivial,?_⟩
 have x4:EF w3 (w3.alloc (.cells #[.bool false] 4)):=(Ext.refl w3).alloc _
 have Bsg:Blk (w3.alloc (.cells #[.bool false] 4)) w3.heap.size 4 [.bool false]:=Blk.made w3 4 [.bool false]
 intro w4
 replace x4:EF w3 w4:=x4
 replace Bsg:Blk w4 w3.heap.size 4 [.bool false]:=Bsg
 clear_value w4
 have y4:=x3.then x4
 have hls:=Bsg.lt
 refine (c_9 (f:=.func (.func 165) #[] #[.pointer (some (adr c.w0.heap.size)),.pointer (some (adr w3.heap.size))]) rfl (hB.ext y4 id) rfl).mono ?_
 rintro _ w5 ⟨rfl,p,C,B5,ap,hpb,x5⟩
 have y5:Ext (fun b=>b=c.eb) c.w0 w5:=(y4.toM _).trans x5 fun _ _ e=>e
 have hz5:=x5.size
 have hae:c.w0.heap.size≠cnt:=by omega
 have Bae5:=(Bae.ext x4 id).ext x5 (by show ¬ c.w0.heap.size=c.eb;omega)
 have Bsg5:=Bsg.ext x5 (by show ¬ w3.heap.size=c.eb;omega)
 have Bc5:=hcnt.ext y5 hne
 obtain ⟨ae,hae'⟩:∃ ae,ae=c.w0.heap.size:=⟨_,rfl⟩
 obtain ⟨sg,hsg'⟩:∃ sg,sg=w3.heap.size:=⟨_,rfl⟩
 rw [<- hae'] at Bae5 hae ap
 rw [<- hsg'] at Bsg5 ap
 have hVM:∀ b,b=cnt∨b=ae->¬ c.M b:=fun b hV hM=>by
  have:=hb.m b hM
  rcases hV with rfl|rfl
  ·exact hMc hM
  ·omega
 have htw:∀ (n:BA) (pd:Option Def) (f:Fld),fldD pd n=some f->(∀ d,pd=some d->d∈c.types)->typW f.t<=2097152:=fun n pd f h1 h2=>o_d hty n pd f h1 fun d hd=>ht▸h2 d hd
 refine ⟨rfl,trivial,rfl,trivial,rfl,y5,fun b=>b=cnt∨b=ae∨b=sg,StL (k_O c) ae cnt sg,obL [(1,p,C)],rf,?_,fun b hb'=>?_,fun b hb' T cs fr ho=>?_,fun l w'' hl ht'=>?_⟩
 ·refine n_H hb hrf hMe y5 (fun b hb'=>?_) hlc hne hMc hle (fun l w w'' h hx=>⟨Cnt.ext h.1 hx (fun e=>e (.inr (.inl rfl))) fun e=>e (.inl rfl),h.2.ext hx fun e=>e (.inr (.inr rfl))⟩) ⟨Cnt.zero Bae5 Bc5 (by simp),Bsg5⟩ B5 fun b5 wb fm fl j=>o_M (fun x hx=>?_) j
  ·rcases hb' with rfl|hb'
   ·exact .inl rfl
   ·exact .inr (by omega)
  simp only [List.mem_cons,List.not_mem_nil,or_false] at hx
  subst hx
  refine ⟨_,_,[.pointer (some (adr ae)),.pointer (some (adr sg))],_,ap,fun h=>?_,fun h=>?_,Tryz.func165,by kernel_rfl,fun l w1 cx co vm evs node ev hl hw hk hn=>o_P (b5.at3 wb fm fl) hVM (fun e=>Iff.rfl) hae (by omega) (by omega) htw hl hw hk hn⟩
  ·have:p.block<c.w0.heap.size:=hb.m _ h
   omega
  ·have:p.block=cnt∨p.block=ae∨p.block=sg:=h
   omega
 ·rcases hb' with rfl|hb'
  ·exact .inr (Nat.le_refl _)
  ·exact .inr (by omega)
 ·rcases hb' with rfl|rfl|rfl
  ·rw [Bc5.type ho];decide
  ·rw [Bae5.type ho];decide
  ·rw [Bsg5.type ho];decide
 ·obtain ⟨⟨-, n,hn,hk⟩,-⟩:=hl
  have hsm:=o_K (c:={ c with V:=fun b=>b=cnt∨b=ae∨b=sg,St:=StL (k_O c) ae cnt sg,w0:=w5,rf:=rf}) (ob:=obL [(1,p,C)]) h12 h12' hs
  obtain ⟨k1,k2,k3⟩:=hk (Nat.le_trans (Nat.le_trans ht'.few hsm) (by decide))
  refine ⟨n,hn,k1,k3.trans ((ht'.bad fun e hbad=>?_).trans ?_)⟩
  ·cases e with
   | fld s=>rfl
   | _=>cases hbad
  ·have hin:∀ n∈c_H c.ops c.frags,(findD types n).1.kind≠b_f:=fun n hn h=>by
    rcases hS.co n hn with k|k|k<;>rw [k] at h<;>exact absurd h (by decide)
   have hroot:∀ x∈c.ops,rootT c x.kind=lastN Def.name (a_P++types) (rootD (a_F types defs) x.kind):=fun x hx=>by
    obtain ⟨-, -, e1,e2,e3⟩:=hwd
    rcases (ok1 x hx).1 with h|h|h
    ·rw [m_9 (.inl h),e1,ht,h];rfl
    ·rw [m_8 (by rw [h];rintro (k|k)<;>exact absurd k (by decide)) h,e2,ht,h];rfl
    ·rw [n_a (by rw [h];rintro (k|k)<;>exact absurd k (by decide)) (by rw [h];decide) h,e3,ht,h];rfl
   have hrk:∀ x∈c.ops,(findD types (rootD (a_F types defs) x.kind)).1.kind≠b_f:=fun x hx=>by
    have hne:=hS.rt x hx
    unfold rootD at hne ⊢
    split at hne
    ·rename_i r hr
     show (findD types r.t).1.kind≠b_f
     rw [hO.roots.2.2.2 r (List.mem_of_find?_eq_some hr)]
     decide
    ·exact absurd rfl hne
   have hop:∀ x∈c.ops,((∃ y∈flL c.types (rootT c x.kind) x.kids,walkB c y)↔∃ y∈atL types (rootD (a_F types defs) x.kind) x.kids,badLf types y):=fun x hx=>
    j_t hO ht x.kids _ _ (ok1 x hx).2.2.2 (by rw [hroot x hx];exact j_O hO (hrk x hx)) fun n hn=>hin n (List.mem_append.2 (.inr (List.mem_flatMap.2 ⟨x,hx,hn⟩)))
   have hfr:∀ f∈c.frags,((∃ y∈flL c.types (lastN Def.name c.types f.on) f.kids,walkB c y)↔∃ y∈atL types f.on f.kids,badLf types y):=fun f hf=>
    j_t hO ht f.kids _ _ (ok2 f hf).2.1 (by rw [ht];exact j_O hO (hin f.on (List.mem_append.2 (.inl (List.mem_flatMap.2 ⟨f,hf,by simp⟩))))) fun n hn=>hin n (List.mem_append.2 (.inl (List.mem_flatMap.2 ⟨f,hf,by simp [hn]⟩)))
   constructor
   ·rintro ⟨e,hdoc,hbad⟩
    cases e with
    | fld s pd=>
     rcases k_j.1 hdoc with ⟨x,hx,h⟩|⟨f,hf,h⟩
     ·obtain ⟨y,hy,hyb⟩:=(hop x hx).1 ⟨_,h,hbad⟩
      exact ⟨y,List.mem_append.2 (.inl (List.mem_flatMap.2 ⟨x,hx,hy⟩)),hyb⟩
     ·obtain ⟨y,hy,hyb⟩:=(hfr f hf).1 ⟨_,h,hbad⟩
      exact ⟨y,List.mem_append.2 (.inr (List.mem_flatMap.2 ⟨f,hf,hy⟩)),hyb⟩
    | _=>cases hbad
   ·rintro ⟨y,hy,hyb⟩
    rcases List.mem_append.1 hy with hy|hy
    ·obtain ⟨x,hx,hy⟩:=List.mem_flatMap.1 hy
     obtain ⟨⟨s,pd⟩,h,hb'⟩:=(hop x hx).2 ⟨y,hy,hyb⟩
     exact ⟨.fld s pd,k_j.2 (.inl ⟨x,hx,h⟩),hb'⟩
    ·obtain ⟨f,hf,hy⟩:=List.mem_flatMap.1 hy
     obtain ⟨⟨s,pd⟩,h,hb'⟩:=(hfr f hf).2 ⟨y,hy,hyb⟩
     exact ⟨.fld s pd,k_j.2 (.inr ⟨f,hf,h⟩),hb'⟩
theorem d_2 {P:Int->Prop}{wd:WorldD}{a1:OA}{l1 c1:Nat}{a2:OA}{l2 c2:Nat}{a6:OA}{l6 c6:Nat}{a7:OA}{l7 c7:Nat}{q8:OA}{q8l q8c:Nat}{q9:OA}{q9l q9c:Nat}{ops:List OpD}{frags:List Frag}{w:World}
  (hw:c_6 w wd [.slice a1 l1 c1,.slice a2 l2 c2,.string wd.query,.string wd.mutation,.string wd.subscription,.slice a6 l6 c6,.slice a7 l7 c7]) (ok3:∀ x∈wd.dirs,∀ y∈x.args,a_s y) (ok4:∀ x∈wd.types,okDef x)
  (few6:(pushD wd.types wd.possible).length<=4194304) (few7:(pushD wd.types wd.implements).length<=4194304) (hl1:ROps w q8 q8l q8c ops) (hl2:a_X w q9 q9l q9c frags) (ok1:∀ x∈ops,okOp x) (ok2:∀ x∈frags,b_j x) (hr:RuleOK 58 wd ops frags P) (hB0:DB.B<=w.heap.size):
  CP 20 #[.agg #[.slice a1 l1 c1,.slice a2 l2 c2,.string wd.query,.string wd.mutation,.string wd.subscription,.slice a6 l6 c6,.slice a7 l7 c7],.agg #[.slice q8 q8l q8c,.slice q9 q9l q9c]] w fun e w'=>
   ∃ n,e=.returned (.tuple #[.int .i64 n,.bool true])/\P n/\EF w w':=by
 have x11:EF w (w.alloc (.cells #[.slice a1 l1 c1,.slice a2 l2 c2,.string wd.query,.string wd.mutation,.string wd.subscription,.slice a6 l6 c6,.slice a7 l7 c7] 40)):=(Ext.refl w).alloc _
 have x12:=x11.alloc (.cells #[.slice q8 q8l q8c,.slice q9 q9l q9c] 30)
 refine e_e a1 l1 c1 a2 l2 c2 wd.query wd.mutation wd.subscription a6 l6 c6 a7 l7 c7 q8 q8l q8c q9 q9l q9c w _ ⟨trivial,trivial,?_⟩
 refine (j_d (c_6.keep x12.keep hw) ok3 ok4 few6 few7 (hl1.keep x12.keep) (hl2.keep x12.keep) ok1 ok2 hr (Nat.le_trans hB0 x12.size)).mono ?_
 rintro _ w' ⟨n,rfl,hp,hx⟩
 exact ⟨n,true,rfl,⟨hx.keepT _,hx.keepT _,trivial⟩,n,rfl,hp,x12.then hx⟩
theorem i_b
  {d1:OA} {d1l d1c:Nat} {d2:OA} {d2l d2c:Nat} {d3:OA} {d3l d3c:Nat} {d4:OA} {d4l d4c:Nat} {d5:OA} {d5l d5c:Nat} {q6:OA} {q6l q6c:Nat} {q7:OA} {q7l q7c:Nat} {defs exts:List SchemaDef} {dirs:List DirDef} {types texts:List Def} {ops:List OpD} {frags:List Frag} {w:World}
  (h1:a_p w d1 d1l d1c defs) (h2:a_p w d2 d2l d2c exts) (h3:a_Y w d3 d3l d3c dirs) (h4:RDefs w d4 d4l d4c types) (h5:RDefs w d5 d5l d5c texts) (hs:d1l+d2l<=4194304) (hsp:docW ops frags<=2097152) (hty:∀ x∈types,∀ y∈x.fields,typW y.t<=2097152) (h6:ROps w q6 q6l q6c ops) (h7:a_X w q7 q7l q7c frags) (hB0:DB.B<=w.heap.size):
  CP 4 #[.agg #[.slice d1 d1l d1c,.slice d2 d2l d2c,.slice d3 d3l d3c,.slice d4 d4l d4c,.slice d5 d5l d5c],.agg #[.slice q6 q6l q6c,.slice q7 q7l q7c]] w fun e w'=>e=.returned (.bool true)/\EF w w':=by
 have x8:EF w (w.alloc (.cells #[.slice d1 d1l d1c,.slice d2 d2l d2c,.slice d3 d3l d3c,.slice d4 d4l d4c,.slice d5 d5l d5c] 26)):=(Ext.refl w).alloc _
 have x9:=x8.alloc (.cells #[.slice q6 q6l q6c,.slice q7 q7l q7c] 30)
 refine e_L d1 d1l d1c d2 d2l d2c d3 d3l d3c d4 d4l d4c d5 d5l d5c q6 q6l q6c q7 q7l q7c w _ ⟨trivial,trivial,fun K10 hK10=>?_⟩
 have key10:∀ b w',EF w w'->K10 b w':=by
  intro b w' xw
  refine hK10 b w' ⟨fun _=>⟨rfl,xw⟩,fun _=>?_⟩
  refine (n_5 (h1.keep xw.keep) (h2.keep xw.keep) (h3.keep xw.keep) (h4.keep xw.keep) (h5.keep xw.keep) hs (Nat.le_trans hB0 xw.size)).mono ?_
  rintro _ w14 ⟨q15,b16,rfl,x14,hok⟩
  refine ⟨q15,b16,rfl,⟨x14.keepT _,x14.keepT _,trivial⟩,fun K17 hK17=>?_⟩
  have y14:=xw.then x14
  have key17:∀ b w',EF w14 w'->(b=false->b16=true/\ops.length<=12/\frags.length<=12/\(∀ x∈ops,okOp x)/\(∀ x∈frags,b_j x)/\SoundD types (a_F types defs) ops frags)->K17 b w':=by
   intro b w19 x19 hb
   have y19:=y14.then x19
   refine hK17 b w19 ⟨fun _=>⟨rfl,y19⟩,fun hbf=>?_⟩
   obtain ⟨hb16,n1,n2,ok1,ok2,hS⟩:=hb hbf
   obtain ⟨k,rfl,A,L,C,hB,hR,hO⟩:=hok hb16
   intro w20 e20
   have x20:EF w19 w20:=by rw [e20];exact (Ext.refl w19).drew
   have y20:=y19.then x20
   have z20:=x19.then x20
   refine (i_8 (hB.ext z20 id) (h4.keep y20.keep) (hR.keep z20.keep) (h3.keep y20.keep) hO.few.1 (fun t ht=>by have:=hO.small t ht;omega) hO.few.2 (Nat.le_trans hB0 y20.size)).mono ?_
   rintro _ w22 ⟨cs,rfl,hW,x22⟩
   obtain ⟨ok3,ok4,few6,few7⟩:=k_I hO
   have hW':=hW
   obtain ⟨a1,l1,c1,a2,l2,c2,a6,l6,c6,a7,l7,c7,rfl,-⟩:=hW'
   have y22:=y20.then x22
   refine ⟨a1,l1,c1,a2,l2,c2,_,_,_,a6,l6,c6,a7,l7,c7,rfl,⟨x22.keepT _,x22.keepT _,trivial⟩,⟨rfl,trivial⟩,?_⟩
   refine (d_2 hW ok3 ok4 few6 few7 (h6.keep y22.keep) (h7.keep y22.keep) ok1 ok2 (o_X types dirs defs ops frags hO n1 n2 ok1 ok2 hsp hS hty) (Nat.le_trans hB0 y22.size)).mono ?_
   rintro _ w31 ⟨n,rfl,⟨hn0,hn⟩,x31⟩
   have y31:=y22.then x31
   refine ⟨n,true,rfl,⟨x31.keepT _,x31.keepT _,trivial⟩,trivial,trivial,trivial,?_⟩
   have z31:=(z20.then x22).then x31
   refine (f_W (Nat.le_trans hB0 y31.size) (hB.ext z31 id) (h4.keep y31.keep) (hR.keep z31.keep) (h6.keep y31.keep) (h7.keep y31.keep) ok1 ok2).mono ?_
   rintro _ w35 ⟨b36,rfl,x35,hb36⟩
   have y35:=y31.then x35
   refine ⟨b36,rfl,⟨x35.keepT _,x35.keepT _,trivial⟩,?_⟩
   refine (j_9 n true b36 w35).mono ?_
   rintro _ w38 ⟨rfl,rfl⟩
   refine ⟨_,rfl,⟨(Ext.refl _).keepT _,(Ext.refl _).keepT _,trivial⟩,?_,y35⟩
   rw [n_f hn0 (hn.trans hb36.symm)]
  refine ⟨fun hb=>?_,fun hb=>key17 true w14 (Ext.refl w14) nofun⟩
  refine (n_7 (h6.keep y14.keep) (h7.keep y14.keep)).mono ?_
  rintro _ w41 ⟨b42,rfl,x41,hsm⟩
  have y41:=y14.then x41
  refine ⟨b42,rfl,⟨x41.keepT _,x41.keepT _,trivial⟩,fun h42=>?_,fun _=>key17 true w41 x41 nofun⟩
  obtain ⟨n1,n2,ok1,ok2⟩:=hsm (by simpa using h42)
  obtain ⟨k,rfl,A,L,C,hB,hR,hO⟩:=hok (by simpa using hb)
  refine (i_c (hB.ext x41 id) (h4.keep y41.keep) (hR.keep x41.keep) (h6.keep y41.keep) (h7.keep y41.keep) ok1 ok2 n2 hsp).mono ?_
  rintro _ w53 ⟨b54,rfl,x53,hS⟩
  have z53:=x41.then x53
  have y53:=y41.then x53
  exact ⟨b54,rfl,⟨x53.keepT _,x53.keepT _,trivial⟩,key17 _ w53 z53 fun h=>⟨by simpa using hb,n1,n2,ok1,ok2,hS (by simpa using h)⟩⟩
 refine (f_4 d1 d1l d1c d2 d2l d2c d3 d3l d3c d4 d4l d4c d5 d5l d5c _).mono ?_
 rintro _ w44 ⟨b45,rfl,x44,-⟩
 have y44:=x9.then x44
 refine ⟨b45,rfl,⟨x44.keepT _,x44.keepT _,trivial⟩,fun _=>?_,fun _=>key10 true w44 y44⟩
 refine (f_5 q6 q6l q6c q7 q7l q7c _).mono ?_
 rintro _ w47 ⟨b48,rfl,x47,-⟩
 exact ⟨b48,rfl,⟨x47.keepT _,x47.keepT _,trivial⟩,key10 _ w47 (y44.then x47)⟩
end Go.VC
