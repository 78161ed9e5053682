/- Part of the proof of a law of a rule over documents (SuA), where what the arguments hold is of bulk at most 1048576. -/
import Derived.Test.YtmnhdjhlcgfpkaaGreatBaseB
import Derived.Test.YtmnhdjhlcgfpkaaGreatWalkD
import Derived.Test.YtmnhdjhlcgfpkaaGreatMakeC
import Derived.Test.YtmnhdjhlcgfpkaaGreatSpecD
import Derived.Test.YtmnhdjhlcgfpkaaGreatSpecA
import Derived.Test.YtmnhdjhlcgfpkaaGreatWalkC
import Derived.Laws.MakeOwn
import Derived.Test.YtmnhdjhlcgfpkaaGreatLawA
import Derived.Test.YtmnhdjhlcgfpkaaGreatSpecE
set_option linter.unusedVariables false
set_option linter.unusedSimpArgs false
set_option linter.unusedSectionVars false
namespace Go.VC
open Go Go.Proofs
set_option maxRecDepth 100000
theorem u_Y (a:OA)(b:Value)(w:World)(R:EW)(h:
 (b.oneCell'=true/\True)/\(let c:=w.alloc (.cells #[b] 223);
 C0 120 #[P9 a,(.func (.func 121) #[] #[(P9 (some (adr w.heap.size)))])] c (fun d=>True/\R (R9 (.tuple #[])) d))):CP 55 #[P9 a,b] w R:=
 vcq Tryz.func55 [] [] [.l (.optr a),.l (.val b)] h
theorem u_X (a:OA)(b:OA)(c:Addr)(w:World)(R:EW)(h:
 ∀ d:Bool->World->Prop,(∀ e:Bool,∀ f:World,
 ((Br e (R (R9 (.tuple #[])) f) (Pt b fun g=>Ll f (g.add 5) fun i j k=>Cl 122 #[S9 i j k] f (fun l m n o=>True/\∀ p:BA->World->Prop,(∀ q:BA,∀ r:World,
 (∀ s:World->Prop,(∀ t:World,
 (∃ (u:Int->World->Prop) (v:Int->World->Nat),u 0 t/\
 (∀ x:Int,∀ y:World,u x y->
 (Br (decide (x<(m:Int))) (∀ z:World->Prop,(∀ A:World,
 ((u (wr (x+1)) A/\v (wr (x+1)) A<v x y))->
 z A)->
 Ix l x m fun B=>Lp y (B.add (x.toNat*1)) fun C=>Pt C fun D=>Ls y D fun E=>Cb 125 #[T9 E,(T9 (⟨#[95,95]⟩:BA))] y (fun F G=>True/\(Br F (∀ H,H=G.drew->Lv H c fun I=>Pt C fun J=>Lp H (J.add 1) fun K=>True/\(let L:=H.alloc (.cells #[(ifcV (some (9,(T9 q))))] 20);
 ((L.cell? (J.add 1)=H.cell? (J.add 1))/\(L.cell? c=H.cell? c)/\True)/\CP 123 #[(T9 (⟨#[37,115,32,109,117,115,116,32,110,111,116,32,115,101,108,101,99,116,32,97,110,32,105,110,116,114,111,115,112,101,99,116,105,111,110,32,116,111,112,32,108,101,118,101,108,32,102,105,101,108,100,46]⟩:BA)),(S9 (some (adr H.heap.size)) 1 1)] L (fun M N=>∃ O:Value,M=R9 O/\True/\((N.cell? (J.add 1)=L.cell? (J.add 1))/\(N.cell? c=L.cell? c)/\True)/\CP 124 #[P9 K] N (fun P Q=>∃ S:Value,P=R9 S/\True/\((Q.cell? c=N.cell? c)/\True)/\(O.oneCell'=true/\S.oneCell'=true/\True)/\(let U:=Q.alloc (.cells #[O,S] 241);
 ((U.cell? c=Q.cell? c)/\True)/\∃ V W,I=.func (.func V) #[] W.toArray/\∃ X,Tryz.prog.funcs[V]? =some X/\(X.name== "runtime.NumGoroutine" ||X.body.isNone)=false/\CP V ([(S9 (some (adr Q.heap.size)) 2 2)]++W).toArray U (fun Y Z=>Y=R9 (.tuple #[])/\True/\True/\z Z)))))) (z G)))) (R (R9 (.tuple #[])) y))))->
 s t)->
 (Br (decide ((m:Int)>1)) (∀ aa,aa=r.drew->Lv aa c fun ab=>Ix l 1 m fun ac=>Lp aa (ac.add ((1:Int).toNat*1)) fun ad=>Pt ad fun ae=>Lp aa (ae.add 1) fun af=>True/\(let ag:=aa.alloc (.cells #[(ifcV (some (9,(T9 q))))] 20);
 ((ag.cell? (ae.add 1)=aa.cell? (ae.add 1))/\(ag.cell? (ac.add ((1:Int).toNat*1))=aa.cell? (ac.add ((1:Int).toNat*1)))/\(ag.cell? c=aa.cell? c)/\True)/\CP 123 #[(T9 (⟨#[37,115,32,109,117,115,116,32,115,101,108,101,99,116,32,111,110,108,121,32,111,110,101,32,116,111,112,32,108,101,118,101,108,32,102,105,101,108,100,46]⟩:BA)),(S9 (some (adr aa.heap.size)) 1 1)] ag (fun ah ai=>∃ aj:Value,ah=R9 aj/\True/\((ai.cell? (ae.add 1)=ag.cell? (ae.add 1))/\(ai.cell? (ac.add ((1:Int).toNat*1))=ag.cell? (ac.add ((1:Int).toNat*1)))/\(ai.cell? c=ag.cell? c)/\True)/\CP 124 #[P9 af] ai (fun ak al=>∃ am:Value,ak=R9 am/\True/\((al.cell? c=ai.cell? c)/\True)/\(aj.oneCell'=true/\am.oneCell'=true/\True)/\(let an:=al.alloc (.cells #[aj,am] 241);
 ((an.cell? c=al.cell? c)/\True)/\∃ ao ap,ab=.func (.func ao) #[] ap.toArray/\∃ aq,Tryz.prog.funcs[ao]? =some aq/\(aq.name== "runtime.NumGoroutine" ||aq.body.isNone)=false/\CP ao ([(S9 (some (adr al.heap.size)) 2 2)]++ap).toArray an (fun ar au=>ar=R9 (.tuple #[])/\True/\True/\s au)))))) (s r)))->
 p q r)->
 Pt b fun av=>Ls o (av.add 2) fun ax=>(Br (!(ax.toList==(⟨#[]⟩:BA).toList)) (p (⟨#[83,117,98,115,99,114,105,112,116,105,111,110]⟩:BA) o) (p (⟨#[65,110,111,110,121,109,111,117,115,32,83,117,98,115,99,114,105,112,116,105,111,110]⟩:BA) o))))))->
 d e f)->
 Pt a fun ay=>Lp w (ay.add 1) fun az=>Pt az fun aA=>Lp w (aA.add 2) fun aB=>(Nr (aB.isNone) (Pt b fun aC=>Ls w (aC.add 1) fun aD=>d (!(aD.toList==(⟨#[115,117,98,115,99,114,105,112,116,105,111,110]⟩:BA).toList)) w) (d true w))):CP 121 #[P9 a,P9 b,(P9 (some c))] w R:=
 vcq Tryz.func121 [] [(1,⟨[(23,.bool)],[]⟩),(10,⟨[(6,.str)],[]⟩),(16,⟨[],[]⟩),(25,⟨[(53,.int .i64)],[]⟩),(32,⟨[],[]⟩)] [.l (.optr a),.l (.optr b),.l (.ptr c)] h
theorem u_4 (a:OA)(b c:Nat)(w:World)(R:EW)(h:
 (let d:=w.alloc (.cells #[] 246);
 True/\(let e:=d.alloc (.cells #[S9 none 0 0] 238);
 Off e (adr d.heap.size) 1 []/\True/\(let f:=(e.setCell (adr d.heap.size) (S9 (some (adr w.heap.size)) 0 0));
 let g:=f.alloc (.map #[] 0);
 True/\(let i:=g.alloc (.cells #[.map none] 231);
 Off i (adr g.heap.size) 1 []/\True/\(let j:=(i.setCell (adr g.heap.size) (.map (some f.heap.size)));
 (Value.nilFunc.oneCell'=true/\True)/\(let k:=j.alloc (.cells #[Value.nilFunc] 332);
 Off k (adr j.heap.size) 1 []/\True/\(let l:=(k.setCell (adr j.heap.size) (.func (.func 172) #[] #[(P9 (some (adr d.heap.size))),(P9 (some (adr j.heap.size))),(P9 (some (adr g.heap.size)))]));
 Lv l (adr j.heap.size) fun m=>∃ n o,m=.func (.func n) #[] o.toArray/\∃ p,Tryz.prog.funcs[n]? =some p/\(p.name== "runtime.NumGoroutine" ||p.body.isNone)=false/\CP n ([S9 a b c]++o).toArray l (fun q r=>q=R9 (.tuple #[])/\True/\Ll r (adr d.heap.size) fun s t u=>let v:=r.alloc (.map #[] 0);
 Ll v (adr d.heap.size) fun x y z=>∃ A B C,∃ D,(Instr.makeSlice 238 (N9 0) (N9 (y:Int))).run Tryz.prog v=.ok (S9 A B C) D/\True/\Ll D (adr d.heap.size) fun E F G=>∃ (H:OA->Nat->Nat->Int->World->Prop) (I:OA->Nat->Nat->Int->World->Nat),H A B C 0 D/\
 (∀ (J:OA) (K L:Nat),∀ M:Int,∀ N:World,H J K L M N->
 (Br (decide (M<(F:Int))) (Ix E M F fun O=>Lp N (O.add (M.toNat*1)) fun P=>∀ Q:OA->Nat->Nat->World->Prop,(∀ (S:OA) (U V:Nat),∀ W:World,
 (Pt P fun X=>Ls W X fun Y=>∃ Z,(Instr.mapUpdate 231 (.map (some r.heap.size)) (T9 Y) (.bool true)).run Tryz.prog W=.ok () Z/\True/\(H S U V (wr (M+1)) Z/\I S U V (wr (M+1)) Z<I J K L M N))->
 Q S U V W)->
 Pt P fun aa=>Ls N aa fun ab=>∃ ac,(Instr.lookup 231 (.map (some r.heap.size)) (T9 ab) false).run Tryz.prog N=.ok (.bool ac) N/\(Br (!ac) (True/\(let ad:=N.alloc (.cells #[P9 P] 246);
 ∃ ae af ag,∃ ah,(Go.builtin .append #[238,238] 238 #[false,false] #[S9 J K L,(S9 (some (adr N.heap.size)) 1 1)]).run Tryz.prog ad=.ok (.value (S9 ae af ag)) ah/\True/\Q ae af ag ah)) (Q J K L N))) (R (R9 (S9 J K L)) N)))))))))))):CP 122 #[S9 a b c] w R:=
 vcq Tryz.func122 [] [(20,⟨[(7,.slice),(24,.int .i64)],[]⟩),(31,⟨[(7,.slice)],[]⟩)] [.l (.slice a b c)] h
theorem u_2 (a:OA)(b c:Nat)(d:Addr)(e:Addr)(f:Addr)(w:World)(R:EW)(h:
 ∃ (g:Int->World->Prop) (i:Int->World->Nat),g 0 w/\
 (∀ j:Int,∀ k:World,g j k->
 (Br (decide (j<(b:Int))) (∀ l:World->Prop,(∀ m:World,
 ((g (wr (j+1)) m/\i (wr (j+1)) m<i j k))->
 l m)->
 Ix a j b fun n=>Lo k (n.add (j.toNat*1)) fun o=>∀ p:Bool->OA->World->Prop,(∀ q:Bool,∀ r:OA,∀ s:World,
 ((Br q (∀ t,t=s.drew->Ll t d fun u v x=>Pt r fun y=>Ls t (y.add 1) fun z=>Cp 173 #[P9 r] t (fun A B=>True/\((B.cell? (y.add 1)=t.cell? (y.add 1))/\(B.cell? d=t.cell? d)/\True)/\True/\True/\(let C:=B.alloc (.cells #[T9 z,P9 A] 245);
 ((C.cell? d=B.cell? d)/\True)/\True/\(let D:=C.alloc (.cells #[(P9 (some (adr B.heap.size)))] 246);
 ((D.cell? d=C.cell? d)/\True)/\∃ E F G,∃ H,(Go.builtin .append #[238,238] 238 #[false,false] #[S9 u v x,(S9 (some (adr C.heap.size)) 1 1)]).run Tryz.prog D=.ok (.value (S9 E F G)) H/\True/\True/\Off H d 1 []/\True/\(let I:=(H.setCell d (S9 E F G));
 True/\l I))))) (∀ J:Bool->OA->World->Prop,(∀ K:Bool,∀ L:OA,∀ M:World,
 ((Br K (∀ N,N=M.drew->Lv N e fun O=>Pt L fun P=>Ll N (P.add 2) fun Q S U=>∃ V W,O=.func (.func V) #[] W.toArray/\∃ X,Tryz.prog.funcs[V]? =some X/\(X.name== "runtime.NumGoroutine" ||X.body.isNone)=false/\CP V ([S9 Q S U]++W).toArray N (fun Y Z=>Y=R9 (.tuple #[])/\True/\True/\l Z)) (∀ aa:Bool->OA->World->Prop,(∀ ab:Bool,∀ ac:OA,∀ ad:World,
 ((Br ab (Pt ac fun ae=>Lp ad (ae.add 3) fun af=>(Br (af.isNone) (R (R9 (.tuple #[])) ad) (Pt ac fun ag=>Lp ad (ag.add 3) fun ah=>Pt ah fun ai=>Ls ad (ai.add 1) fun aj=>Lm ad f fun ak=>∃ al,(Instr.lookup 231 (.map ak) (T9 aj) false).run Tryz.prog ad=.ok (.bool al) ad/\(Br (!al) (Lm ad f fun am=>∃ an,(Instr.mapUpdate 231 (.map am) (T9 aj) (.bool true)).run Tryz.prog ad=.ok () an/\True/\∀ ao,ao=an.drew->Lv ao e fun ap=>Pt ac fun aq=>Lp ao (aq.add 3) fun ar=>Pt ar fun au=>Ll ao (au.add 5) fun av ax ay=>∃ az aA,ap=.func (.func az) #[] aA.toArray/\∃ aB,Tryz.prog.funcs[az]? =some aB/\(aB.name== "runtime.NumGoroutine" ||aB.body.isNone)=false/\CP az ([S9 av ax ay]++aA).toArray ao (fun aC aD=>aC=R9 (.tuple #[])/\True/\True/\l aD)) (l ad))))) (l ad)))->
 aa ab ac ad)->
 ((∀ aE,o=some (180,aE)->∃ aG,aE=(P9 aG)/\aa true aG M)/\((∀ aF,o≠some (180,aF))->aa false none M)))))->
 J K L M)->
 ((∀ aH,o=some (190,aH)->∃ aJ,aH=(P9 aJ)/\J true aJ s)/\((∀ aI,o≠some (190,aI))->J false none s)))))->
 p q r s)->
 ((∀ aK,o=some (155,aK)->∃ aM,aK=(P9 aM)/\p true aM k)/\((∀ aL,o≠some (155,aL))->p false none k))) (R (R9 (.tuple #[])) k)))):CP 172 #[S9 a b c,(P9 (some d)),(P9 (some e)),(P9 (some f))] w R:=
 vcq Tryz.func172 [] [(3,⟨[(13,.int .i64)],[]⟩),(10,⟨[],[]⟩),(17,⟨[(19,.bool),(20,.ptr)],[]⟩),(23,⟨[(33,.bool),(34,.ptr)],[]⟩),(29,⟨[(42,.bool),(43,.ptr)],[]⟩)] [.l (.slice a b c),.l (.ptr d),.l (.ptr e),.l (.ptr f)] h
theorem u_5 (a:OA)(w:World)(R:EW)(h:
 Pt a fun b=>Lp w (b.add 5) fun c=>R (R9 (P9 c)) w):CP 173 #[P9 a] w R:=
 vcq Tryz.func173 [] [] [.l (.optr a)] h
theorem u_8 (a:BA)(b:BA)(w:World)(R:EW)(h:
 Cb 177 #[T9 a,T9 b] w (fun c d=>True/\R (R9 (.bool c)) d)):CP 125 #[T9 a,T9 b] w R:=
 vcq Tryz.func125 [] [] [.l (.str a),.l (.str b)] h
theorem u_1 (a:BA)(b:BA)(w:World)(R:EW)(h:
 ∀ c:Bool->World->Prop,(∀ d:Bool,∀ e:World,
 (R (R9 (.bool d)) e)->
 c d e)->
 (Br (decide ((a.size:Int)≥(b.size:Int))) ((0<=(0:Int)/\0<=(b.size:Int)/\(b.size:Int)<=(a.size:Int))/\c ((a.extract (0:Int).toNat (b.size:Int).toNat).toList==b.toList) w) (c false w))):CP 177 #[T9 a,T9 b] w R:=
 vcq Tryz.func177 [] [(2,⟨[(4,.bool)],[]⟩)] [.l (.str a),.l (.str b)] h
theorem u_0 (a:OA)(b c:Nat)(d:OA)(e f:Nat)(g:BA)(i:BA)(j:BA)(k:OA)(l m:Nat)(n:OA)(o p:Nat)(q:OA)(r s:Nat)(t:OA)(u v:Nat)(w:World)(R:EW)(h:
 True/\(let x:=w.alloc (.cells #[S9 a b c,S9 d e f,T9 g,T9 i,T9 j,S9 k l m,S9 n o p] 40);
 True/\(let y:=x.alloc (.cells #[S9 q r s,S9 t u v] 30);
 CP 54 #[(.agg #[S9 a b c,S9 d e f,T9 g,T9 i,T9 j,S9 k l m,S9 n o p]),(.agg #[S9 q r s,S9 t u v]),(.func (.func 55) #[] #[])] y (fun z A=>∃ B,∃ C,z=R9 (.tuple #[N9 B,.bool C])/\(KeepT 40 y A/\KeepT 30 y A/\True)/\R (R9 (.tuple #[N9 B,.bool C])) A)))):CP 14 #[(.agg #[S9 a b c,S9 d e f,T9 g,T9 i,T9 j,S9 k l m,S9 n o p]),(.agg #[S9 q r s,S9 t u v])] w R:=
 vcq Tryz.func14 [2,3] [] [.agg [.slice a b c,.slice d e f,.str g,.str i,.str j,.slice k l m,.slice n o p],.agg [.slice q r s,.slice t u v]] h
theorem v_a (a:OA)(b c:Nat)(d:OA)(e f:Nat)(g:OA)(i j:Nat)(k:OA)(l m:Nat)(n:OA)(o p:Nat)(q:OA)(r s:Nat)(t:OA)(u v:Nat)(w:World)(R:EW)(h:
 True/\(let x:=w.alloc (.cells #[S9 a b c,S9 d e f,S9 g i j,S9 k l m,S9 n o p] 26);
 True/\(let y:=x.alloc (.cells #[S9 q r s,S9 t u v] 30);
 ∀ z:Bool->World->Prop,(∀ A:Bool,∀ B:World,
 ((Br A (R (R9 (.bool true)) B) (CP 10 #[(.agg #[S9 a b c,S9 d e f,S9 g i j,S9 k l m,S9 n o p])] B (fun C D=>∃ E,∃ F,C=R9 (.tuple #[P9 E,.bool F])/\(KeepT 26 B D/\KeepT 30 B D/\True)/\∀ G:Bool->World->Prop,(∀ H:Bool,∀ I:World,
 ((Br H (R (R9 (.bool true)) I) (∀ J,J=I.drew->CP 15 #[P9 E] J (fun K L=>∃ M N O,∃ P Q S,∃ U,∃ V,∃ W,∃ X Y Z,∃ aa ab ac,K=R9 (.agg #[S9 M N O,S9 P Q S,T9 U,T9 V,T9 W,S9 X Y Z,S9 aa ab ac])/\(KeepT 26 J L/\KeepT 30 J L/\True)/\((0=0)/\True)/\CP 14 #[(.agg #[S9 M N O,S9 P Q S,T9 U,T9 V,T9 W,S9 X Y Z,S9 aa ab ac]),(.agg #[S9 q r s,S9 t u v])] L (fun ad ae=>∃ af,∃ ag,ad=R9 (.tuple #[N9 af,.bool ag])/\(KeepT 26 L ae/\KeepT 30 L ae/\True)/\True/\True/\True/\Cb 17 #[P9 E,(.agg #[S9 q r s,S9 t u v])] ae (fun ah ai=>(KeepT 26 ae ai/\KeepT 30 ae ai/\True)/\Cb 16 #[N9 af,.bool ag,.bool ah] ai (fun aj ak=>(KeepT 26 ai ak/\KeepT 30 ai ak/\True)/\R (R9 (.bool aj)) ak)))))))->
 G H I)->
 (Nr (!F) (Cb 11 #[(.agg #[S9 q r s,S9 t u v])] D (fun al am=>(KeepT 26 D am/\KeepT 30 D am/\True)/\(Nr (!al) (Cb 12 #[P9 E,(.agg #[S9 q r s,S9 t u v])] am (fun an ao=>(KeepT 26 am ao/\KeepT 30 am ao/\True)/\(Nr (!an) (Cb 13 #[P9 E,(.agg #[S9 q r s,S9 t u v])] ao (fun ap aq=>(KeepT 26 ao aq/\KeepT 30 ao aq/\True)/\G (!ap) aq)) (G true ao)))) (G true am)))) (G true D))))))->
 z A B)->
 Cb 8 #[(.agg #[S9 a b c,S9 d e f,S9 g i j,S9 k l m,S9 n o p])] y (fun ar au=>(KeepT 26 y au/\KeepT 30 y au/\True)/\(Nr (!ar) (Cb 9 #[(.agg #[S9 q r s,S9 t u v])] au (fun av ax=>(KeepT 26 au ax/\KeepT 30 au ax/\True)/\z (!av) ax)) (z true au)))))):CP 3 #[(.agg #[S9 a b c,S9 d e f,S9 g i j,S9 k l m,S9 n o p]),(.agg #[S9 q r s,S9 t u v])] w R:=
 vcq Tryz.func3 [2,3] [(3,⟨[(16,.bool)],[]⟩),(13,⟨[(40,.bool)],[]⟩)] [.agg [.slice a b c,.slice d e f,.slice g i j,.slice k l m,.slice n o p],.agg [.slice q r s,.slice t u v]] h
set_option maxRecDepth 100000
theorem u_f (a:OA)(b:Value)(w:World)(R:EW)(h:
 Pt a fun c=>Ll w c fun d e f=>(b.oneCell'=true/\True)/\(let g:=w.alloc (.cells #[b] 248);
 ∃ i j k,∃ l,(Go.builtin .append #[142,142] 142 #[false,false] #[S9 d e f,(S9 (some (adr w.heap.size)) 1 1)]).run Tryz.prog g=.ok (.value (S9 i j k)) l/\True/\Pt a fun m=>Off l m 1 []/\True/\(let n:=(l.setCell m (S9 i j k));
 R (R9 (.tuple #[])) n))):CP 120 #[P9 a,b] w R:=
 vcq Tryz.func120 [] [] [.l (.optr a),.l (.val b)] h
variable [DB]
theorem u_d {eb:Nat}{f:Value}{evs:List Value}{w:World}(hf:a_v f)(hB:Blk w eb 152 evs)(hj:evs[0]? =some (.slice none 0 0)):
  CP 120 #[.pointer (some (adr eb)),f] w fun e w'=>e=.returned (.tuple #[])/\∃ (p:Addr) (C:Nat),Blk w' eb 152 (evs.set 0 (.slice (some p) 1 C))/\At w' 248 p f/\w.heap.size<=p.block/\Ext (fun b=>b=eb) w w':=by
 obtain ⟨p,C,w7,r7,ha,hp,hx,-⟩:=m_z 142 248 Tryz.t248 _ _ (by kernel_rfl) (by kernel_rfl) rfl (by kernel_rfl) rfl (by kernel_rfl) (by decide) (w:=w) hf 142 #[false,false];have hB7:=hB.ext hx id;have hlt:=hB.lt;have hl:0+1<=evs.length:=(List.getElem?_eq_some_iff.1 hj).1;have hs:Ext (fun b=>b=eb) w7 (w7.setCell ⟨eb,0,none⟩ (.slice (some p) 1 C)):=Ext.setCell (X:=fun b=>b=eb) (Ext.refl _) (a:=⟨eb,0,none⟩) (.inl rfl) _;refine u_f (some (adr eb)) f w _ ⟨adr eb,rfl,none,0,0,(hB.at (j:=0) hj).cell,⟨hf.one,trivial⟩,some p,1,C,w7,r7,trivial,adr eb,rfl,hB7.off (j:=0) (n:=1) (q:=fun _=>false) hl rfl,trivial,rfl,p,C,hB7.set 0 _,hs.at (by show ¬ p.block=eb;omega) ha,hp,(hx.toM _).trans hs fun _ _ e=>e⟩
abbrev StK (bad:Ev->Prop)(ae cnt:Nat)(l:List Ev)(w:World):Prop:=Cnt ae cnt (l.length*4194304) (∃ e∈l,bad e) w
abbrev InK (bad:Ev->Prop)(ae cnt:Nat)(l:List Ev)(k:Nat)(b:Prop)(w:World):Prop:=Cnt ae cnt (l.length*4194304+k) ((∃ e∈l,bad e)∨b) w
theorem InK.start {bad:Ev->Prop}{ae cnt:Nat}{l:List Ev}{w:World}{b:Prop}(h:StK bad ae cnt l w)(hb:¬ b):InK bad ae cnt l 0 b w:=Cnt.skip h (by omega) ⟨.inl,fun k=>k.elim id fun k=>absurd k hb⟩
theorem InK.good {bad:Ev->Prop}{ae cnt:Nat}{l:List Ev}{w:World}{k k':Nat}{b b':Prop}(h:InK bad ae cnt l k b w)(hk:k<=k')(hb:b↔b'):InK bad ae cnt l k' b' w:=Cnt.skip h (by omega) ⟨fun k=>k.imp id hb.1,fun k=>k.imp id hb.2⟩
theorem InK.told {bad:Ev->Prop}{ae cnt:Nat}{l:List Ev}{w:World}{k k':Nat}{b':Prop}(h:Cnt ae cnt (l.length*4194304+k+1) True w)(hk:k+1<=k')(hb:b'):InK bad ae cnt l k' b' w:=Cnt.skip h (by omega) ⟨fun _=>.inr hb,fun _=>trivial⟩
theorem InK.stop {bad:Ev->Prop}{ae cnt:Nat}{l:List Ev}{w:World}{k:Nat}{b:Prop}{ev:Ev}(h:InK bad ae cnt l k b w)(hk:k<=4194304)(hb:b↔bad ev):StK bad ae cnt (l++[ev]) w:=
 Cnt.skip h (by rw [la_,List.length_cons,List.length_nil];omega) (Iff.trans ⟨fun k=>k.imp id hb.1,fun k=>k.imp id hb.2⟩ i_p.symm)
end Go.VC
namespace Go.VC
open Go Go.Proofs
set_option maxRecDepth 100000
theorem v_g (a:OA)(b:OA)(c d:Nat)(e:OA)(f g:Nat)(i:OA)(j k:Nat)(l:BA)(m:OA)(w:World)(R:EW)(h:
 True/\(let n:=w.alloc (.cells #[S9 b c d,S9 e f g] 30);
 ∃ (o:OA->Nat->Nat->Int->World->Prop) (p:OA->Nat->Nat->Int->World->Nat),o none 0 0 0 n/\
 (∀ (q:OA) (r s:Nat),∀ t:Int,∀ u:World,o q r s t u->
 (Br (decide (t<(j:Int))) (∀ v:OA->Nat->Nat->World->Prop,(∀ (x:OA) (y z:Nat),∀ A:World,
 ((o x y z (wr (t+1)) A/\p x y z (wr (t+1)) A<p q r s t u))->
 v x y z A)->
 Ix i t j fun B=>L_issslll u (B.add (t.toNat*7)) fun C D E F G H I J K L M N O=>True/\True/\(let Q:=u.alloc (.cells #[N9 C,T9 D,T9 E,T9 F,S9 G H I,S9 J K L,S9 M N O] 78);
 (Br (C==0) (True/\True/\(let S:=Q.alloc (.cells #[N9 C,T9 D,T9 E,T9 F,S9 G H I,S9 J K L,S9 M N O,T9 l] 80);
 ∃ U V W,∃ X,(Go.builtin .append #[72,72] 72 #[false,false] #[S9 q r s,(S9 (some (adr Q.heap.size)) 1 1)]).run Tryz.prog S=.ok (.value (S9 U V W)) X/\(KeepT 30 S X/\KeepT 78 S X/\True)/\v U V W X)) ((Br (C==1) (CP 95 #[(.agg #[S9 b c d,S9 e f g]),T9 E] Q (fun Y Z=>∃ aa,∃ ab,∃ ac ad ae,∃ af ag ah,∃ ai,Y=R9 (.tuple #[(.agg #[T9 aa,T9 ab,S9 ac ad ae,S9 af ag ah]),.bool ai])/\(KeepT 30 Q Z/\KeepT 78 Q Z/\True)/\True/\True/\(let ak:=Z.alloc (.cells #[T9 aa,T9 ab,S9 ac ad ae,S9 af ag ah] 70);
 ∀ al:Bool->World->Prop,(∀ am:Bool,∀ an:World,
 ((Br am (∀ ao,ao=an.drew->Pt m fun ap=>Ll ao ap fun aq ar au=>True/\(let av:=ao.alloc (.cells #[T9 E] 9);
 ((av.cell? ap=ao.cell? ap)/\True)/\∃ ax ay az,∃ aA,(Go.builtin .append #[71,71] 71 #[false,false] #[S9 aq ar au,(S9 (some (adr ao.heap.size)) 1 1)]).run Tryz.prog av=.ok (.value (S9 ax ay az)) aA/\(KeepT 30 av aA/\KeepT 78 av aA/\KeepT 70 av aA/\True)/\True/\Pt m fun aB=>Off aA aB 1 [30,78,70]/\True/\(let aC:=(aA.setCell aB (S9 ax ay az));
 True/\Cl 50 #[P9 a,(.agg #[S9 b c d,S9 e f g]),S9 af ag ah,T9 ab,P9 m] aC (fun aD aE aF aG=>(KeepT 30 aC aG/\KeepT 78 aC aG/\KeepT 70 aC aG/\True)/\∃ aH aI aJ,∃ aK,(Go.builtin .append #[72,72] 72 #[false,false] #[S9 q r s,S9 aD aE aF]).run Tryz.prog aG=.ok (.value (S9 aH aI aJ)) aK/\(KeepT 30 aG aK/\KeepT 78 aG aK/\KeepT 70 aG aK/\True)/\v aH aI aJ aK)))) (v q r s an)))->
 al am an)->
 ∀ aL,aL=ak.drew->(Br ai (Pt m fun aM=>Ll aL aM fun aN aO aP=>Cb 60 #[T9 E,S9 aN aO aP] aL (fun aQ aS=>(KeepT 30 aL aS/\KeepT 78 aL aS/\KeepT 70 aL aS/\True)/\True/\al (!aQ) aS)) (al false aL))))) ((Br (C==2) (∀ aU:BA->World->Prop,(∀ aV:BA,∀ aW:World,
 (Cl 50 #[P9 a,(.agg #[S9 b c d,S9 e f g]),S9 M N O,T9 aV,P9 m] aW (fun aX aY aZ ba=>(KeepT 30 aW ba/\KeepT 78 aW ba/\True)/\∃ bb bc bd,∃ be,(Go.builtin .append #[72,72] 72 #[false,false] #[S9 q r s,S9 aX aY aZ]).run Tryz.prog ba=.ok (.value (S9 bb bc bd)) be/\(KeepT 30 ba be/\KeepT 78 ba be/\True)/\v bb bc bd be))->
 aU aV aW)->
 (Br (F.toList==(⟨#[]⟩:BA).toList) (aU l Q) (aU F Q))) (v q r s Q)))))))) (R (R9 (S9 q r s)) u))))):CP 50 #[P9 a,(.agg #[S9 b c d,S9 e f g]),S9 i j k,T9 l,P9 m] w R:=
 vcq Tryz.func50 [6,13,14] [(8,⟨[(11,.slice),(19,.int .i64)],[]⟩),(15,⟨[(11,.slice)],[]⟩),(31,⟨[(51,.bool)],[]⟩),(43,⟨[(16,.str)],[]⟩)] [.l (.optr a),.agg [.slice b c d,.slice e f g],.l (.slice i j k),.l (.str l),.l (.optr m)] h
theorem v_Q (a:Int)(b:BA)(c:BA)(d:BA)(e:OA)(f g:Nat)(i:OA)(j k:Nat)(l:OA)(m n:Nat)(w:World)(R:EW)(h:
 True/\(let o:=w.alloc (.cells #[N9 a,T9 b,T9 c,T9 d,S9 e f g,S9 i j k,S9 l m n] 78);
 (Br (b.toList==(⟨#[]⟩:BA).toList) (R (R9 (T9 c)) o) (R (R9 (T9 b)) o)))):CP 52 #[(.agg #[N9 a,T9 b,T9 c,T9 d,S9 e f g,S9 i j k,S9 l m n])] w R:=
 vcq Tryz.func52 [1] [] [.agg [.int .i64 a,.str b,.str c,.str d,.slice e f g,.slice i j k,.slice l m n]] h
theorem v_x (a:OA)(b:OA)(c d:Nat)(e:OA)(f g:Nat)(w:World)(R:EW)(h:
 True/\(let i:=w.alloc (.cells #[S9 b c d,S9 e f g] 30);
 ∃ (j:Int->World->Prop) (k:Int->World->Nat),j 0 i/\
 (∀ l:Int,∀ m:World,j l m->
 (Br (decide (l<(c:Int))) (∀ n:World->Prop,(∀ o:World,
 ((j (wr (l+1)) o/\k (wr (l+1)) o<k l m))->
 n o)->
 Ix b l c fun p=>L_sslll m (p.add (l.toNat*5)) fun q r s t u v x y z A B=>True/\True/\(let D:=m.alloc (.cells #[T9 q,T9 r,S9 s t u,S9 v x y,S9 z A B] 58);
 (Br (!(q.toList==(⟨#[115,117,98,115,99,114,105,112,116,105,111,110]⟩:BA).toList)) (n D) (True/\(let E:=D.alloc (.cells #[S9 none 0 0] 71);
 ∀ F,F=E.drew->Cs 51 #[P9 a,T9 q] F (fun G H=>(KeepT 30 F H/\KeepT 58 F H/\True)/\((1=1)/\(0=0)/\True)/\Cl 50 #[P9 a,(.agg #[S9 b c d,S9 e f g]),S9 z A B,T9 G,(P9 (some (adr D.heap.size)))] H (fun I J K L=>(KeepT 30 H L/\KeepT 58 H L/\True)/\True/\∃ (M:Int->World->Prop) (N:Int->World->Nat),M 0 L/\
 (∀ O:Int,∀ P:World,M O P->
 (Br (decide (O<(J:Int))) (Ix I O J fun Q=>Li P (Q.add (O.toNat*8)) fun S=>Ls P ((Q.add (O.toNat*8)).add 1) fun U=>Ls P ((Q.add (O.toNat*8)).add 2) fun V=>Ls P ((Q.add (O.toNat*8)).add 3) fun W=>Ll P ((Q.add (O.toNat*8)).add 4) fun X Y Z=>Ll P ((Q.add (O.toNat*8)).add 5) fun aa ab ac=>Ll P ((Q.add (O.toNat*8)).add 6) fun ad ae af=>Ls P ((Q.add (O.toNat*8)).add 7) fun ag=>True/\True/\(let ai:=P.alloc (.cells #[N9 S,T9 U,T9 V,T9 W,S9 X Y Z,S9 aa ab ac,S9 ad ae af,T9 ag] 80);
 ∀ aj:Bool->World->Prop,(∀ ak:Bool,∀ al:World,
 ((Br ak (R (R9 (.bool false)) al) ((M (wr (O+1)) al/\N (wr (O+1)) al<N O P))))->
 aj ak al)->
 ∀ am,am=ai.drew->(Br (V.toList==(⟨#[95,95,116,121,112,101,110,97,109,101]⟩:BA).toList) (aj true am) (Cs 52 #[(.agg #[N9 S,T9 U,T9 V,T9 W,S9 X Y Z,S9 aa ab ac,S9 ad ae af])] am (fun an ao=>(KeepT 30 am ao/\KeepT 58 am ao/\KeepT 80 am ao/\True)/\((1=1)/\True)/\aj (!(an.toList==V.toList)) ao))))) (Cl 53 #[(.agg #[S9 b c d,S9 e f g])] P (fun ap aq ar au=>(KeepT 30 P au/\KeepT 58 P au/\True)/\∃ (av:Int->World->Prop) (ax:Int->World->Nat),av 0 au/\
 (∀ ay:Int,∀ az:World,av ay az->
 (Br (decide (ay<(aq:Int))) (Ix ap ay aq fun aA=>Ll az (aA.add (ay.toNat*2)) fun aB aC aD=>Ls az ((aA.add (ay.toNat*2)).add 1) fun aE=>True/\True/\(let aG:=az.alloc (.cells #[S9 aB aC aD,T9 aE] 85);
 ∃ (aH:Int->World->Prop) (aI:Int->World->Nat),aH 0 aG/\
 (∀ aJ:Int,∀ aK:World,aH aJ aK->
 (Br (decide (aJ<(aC:Int))) (Ix aB aJ aC fun aL=>L_sl aK (aL.add (aJ.toNat*2)) fun aM aN aO aP=>True/\True/\(let aS:=aK.alloc (.cells #[T9 aM,S9 aN aO aP] 87);
 ∀ aU:Bool->World->Prop,(∀ aV:Bool,∀ aW:World,
 ((Br aV (R (R9 (.bool false)) aW) ((aH (wr (aJ+1)) aW/\aI (wr (aJ+1)) aW<aI aJ aK))))->
 aU aV aW)->
 (Nr (aM.toList==(⟨#[115,107,105,112]⟩:BA).toList) (aU (aM.toList==(⟨#[105,110,99,108,117,100,101]⟩:BA).toList) aS) (aU true aS)))) ((av (wr (ay+1)) aK/\ax (wr (ay+1)) aK<ax ay az)))))) (n az)))))))))))))) (R (R9 (.bool true)) m))))):CP 13 #[P9 a,(.agg #[S9 b c d,S9 e f g])] w R:=
 vcq Tryz.func13 [3,6,9,11,13] [(6,⟨[(17,.int .i64)],[]⟩),(13,⟨[],[]⟩),(29,⟨[(34,.int .i64)],[]⟩),(40,⟨[(50,.bool)],[]⟩),(51,⟨[(55,.int .i64)],[]⟩),(65,⟨[(62,.int .i64)],[]⟩),(76,⟨[(73,.bool)],[]⟩)] [.l (.optr a),.agg [.slice b c d,.slice e f g]] h
theorem v_f (a:OA)(b:OA)(c d:Nat)(e:OA)(f g:Nat)(w:World)(R:EW)(h:
 True/\(let i:=w.alloc (.cells #[S9 b c d,S9 e f g] 30);
 ∃ (j:Int->World->Prop) (k:Int->World->Nat),j 0 i/\
 (∀ l:Int,∀ m:World,j l m->
 (Br (decide (l<(c:Int))) (∀ n:World->Prop,(∀ o:World,
 ((j (wr (l+1)) o/\k (wr (l+1)) o<k l m))->
 n o)->
 Ix b l c fun p=>L_sslll m (p.add (l.toNat*5)) fun q r s t u v x y z A B=>True/\True/\(let D:=m.alloc (.cells #[T9 q,T9 r,S9 s t u,S9 v x y,S9 z A B] 58);
 (Br (!(q.toList==(⟨#[115,117,98,115,99,114,105,112,116,105,111,110]⟩:BA).toList)) (n D) (True/\(let E:=D.alloc (.cells #[S9 none 0 0] 71);
 ∀ F,F=E.drew->Cs 51 #[P9 a,T9 q] F (fun G H=>(KeepT 30 F H/\KeepT 58 F H/\True)/\((1=1)/\(0=0)/\True)/\Cl 50 #[P9 a,(.agg #[S9 b c d,S9 e f g]),S9 z A B,T9 G,(P9 (some (adr D.heap.size)))] H (fun I J K L=>(KeepT 30 H L/\KeepT 58 H L/\True)/\True/\∃ (M:OA->Nat->Nat->Int->World->Prop) (N:OA->Nat->Nat->Int->World->Nat),M none 0 0 0 L/\
 (∀ (O:OA) (P Q:Nat),∀ S:Int,∀ U:World,M O P Q S U->
 (Br (decide (S<(J:Int))) (∀ V:OA->Nat->Nat->World->Prop,(∀ (W:OA) (X Y:Nat),∀ Z:World,
 ((M W X Y (wr (S+1)) Z/\N W X Y (wr (S+1)) Z<N O P Q S U))->
 V W X Y Z)->
 Ix I S J fun aa=>Li U (aa.add (S.toNat*8)) fun ab=>Ls U ((aa.add (S.toNat*8)).add 1) fun ac=>Ls U ((aa.add (S.toNat*8)).add 2) fun ad=>Ls U ((aa.add (S.toNat*8)).add 3) fun ae=>Ll U ((aa.add (S.toNat*8)).add 4) fun af ag ah=>Ll U ((aa.add (S.toNat*8)).add 5) fun ai aj ak=>Ll U ((aa.add (S.toNat*8)).add 6) fun al am an=>Ls U ((aa.add (S.toNat*8)).add 7) fun ao=>True/\True/\(let aq:=U.alloc (.cells #[N9 ab,T9 ac,T9 ad,T9 ae,S9 af ag ah,S9 ai aj ak,S9 al am an,T9 ao] 80);
 Cs 52 #[(.agg #[N9 ab,T9 ac,T9 ad,T9 ae,S9 af ag ah,S9 ai aj ak,S9 al am an])] aq (fun ar au=>(KeepT 30 aq au/\KeepT 58 aq au/\KeepT 80 aq au/\True)/\Cb 60 #[T9 ar,S9 O P Q] au (fun av ax=>(KeepT 30 au ax/\KeepT 58 au ax/\KeepT 80 au ax/\True)/\(Br (!av) (True/\(let ay:=ax.alloc (.cells #[T9 ar] 9);
 ∃ az aA aB,∃ aC,(Go.builtin .append #[71,71] 71 #[false,false] #[S9 O P Q,(S9 (some (adr ax.heap.size)) 1 1)]).run Tryz.prog ay=.ok (.value (S9 az aA aB)) aC/\(KeepT 30 ay aC/\KeepT 58 ay aC/\KeepT 80 ay aC/\True)/\V az aA aB aC)) (V O P Q ax)))))) ((Br (decide ((P:Int)>1)) (R (R9 (.bool true)) U) (n U)))))))))))) (R (R9 (.bool false)) m))))):CP 17 #[P9 a,(.agg #[S9 b c d,S9 e f g])] w R:=
 vcq Tryz.func17 [3,6,10] [(6,⟨[(15,.int .i64)],[]⟩),(13,⟨[],[]⟩),(29,⟨[(8,.slice),(32,.int .i64)],[]⟩),(36,⟨[(8,.slice)],[]⟩)] [.l (.optr a),.agg [.slice b c d,.slice e f g]] h
variable [DB]
open Classical in
 noncomputable def topS (fr:List Frag) (rec:List Sel->List BA->List Sel × List BA) (b:List BA):Sel->List Sel × List BA
 | .mk k al n on args dirs kids=>if k=0 then ([.mk k al n on args dirs kids],b) else if k=1 then (match a_h Frag.name fr n with
   | some f=>if n∈b then ([],b) else rec f.kids (b++[n])
   | none=>([],b)) else rec kids b
 noncomputable def topL (fr:List Frag) (rec:List Sel->List BA->List Sel × List BA):List Sel->List BA->List Sel × List BA
 | [],b=>([],b)
 | s::l,b=>((topS fr rec b s).1++(topL fr rec l (topS fr rec b s).2).1,(topL fr rec l (topS fr rec b s).2).2)
 noncomputable def topD (fr:List Frag):Nat->List Sel->List BA->List Sel × List BA
 | 0=>fun _ b=>([],b)
 | d+1=>topL fr (topD fr d)
theorem v_o {fr:List Frag}{rec:List Sel->List BA->List Sel × List BA}:∀ (l m:List Sel) (b:List BA),topL fr rec (l++m) b=((topL fr rec l b).1++(topL fr rec m (topL fr rec l b).2).1,(topL fr rec m (topL fr rec l b).2).2)
 | [],m,b=>by simp [topL]
 | s::l,m,b=>by simp only [List.cons_append,topL,v_o l m,List.append_assoc]
theorem v_A {fr:List Frag}{rec:List Sel->List BA->List Sel × List BA}{xs:List Sel}{b:List BA}{i:Int}{x:Sel}(h0:0<=i)(hx:xs[i.toNat]? =some x):
  topL fr rec (xs.take (i+1).toNat) b=((topL fr rec (xs.take i.toNat) b).1++(topS fr rec (topL fr rec (xs.take i.toNat) b).2 x).1,(topS fr rec (topL fr rec (xs.take i.toNat) b).2 x).2):=by
 rw [show (i+1).toNat=i.toNat+1 by omega,List.take_add_one,hx,v_o];simp [topL]
theorem v_j {fr:List Frag}{rec:List Sel->List BA->List Sel × List BA}(hr:∀ ks b,∀ n∈b,n∈(rec ks b).2):∀ (l:List Sel) (b:List BA),∀ n∈b,n∈(topL fr rec l b).2
 | [],b,n,hn=>hn
 | s::l,b,n,hn=>by
  refine v_j hr l _ n ?_;obtain ⟨k,al,m,on,args,dirs,kids⟩:=s;rw [topS];by_cases hk:k=0
  ·rw [if_pos hk];exact hn
  ·rw [if_neg hk];by_cases hk1:k=1
   ·rw [if_pos hk1];cases a_h Frag.name fr m with
    | none=>exact hn
    | some f=>
     dsimp only;split
     ·exact hn
     ·exact hr _ _ n (ma_.2 (.inl hn))
   ·rw [if_neg hk1];exact hr _ _ n hn
theorem v_s {fr:List Frag}:∀ (d:Nat) (l:List Sel) (b:List BA),∀ n∈b,n∈(topD fr d l b).2
 | 0,_,_,n,hn=>hn
 | d+1,l,b,n,hn=>v_j (fun ks b n hn=>v_s d ks b n hn) l b n hn
open Classical in
 noncomputable def leftF1 (b:List BA) (f:Frag):Nat:=if f.name∈b then 0 else 1
 noncomputable def leftF (fr:List Frag) (b:List BA):Nat:=(fr.map (leftF1 b)).sum
theorem v_h {fr:List Frag}{b b':List BA}(h:∀ n∈b,n∈b'):leftF fr b'<=leftF fr b:=k_F fun f _=>by
 unfold leftF1;by_cases h1:f.name∈b
 ·simp [h1,h _ h1]
 ·rw [if_neg h1];split<;>omega
theorem v_O {fr:List Frag}{b:List BA}{n:BA}{f:Frag}(hf:a_h Frag.name fr n=some f)(hn:n∉b):leftF fr (b++[n])<leftF fr b:=by
 obtain ⟨hm,he⟩:=a_U hf;clear hf;have hle:∀ fr,leftF fr (b++[n])<=leftF fr b:=fun fr=>v_h fun m hm=>ma_.2 (.inl hm);induction fr with
 | nil=>cases hm
 | cons g fr ih=>
  have h2:=hle fr;have h3:=hle [g];simp only [leftF,List.map_cons,List.sum_cons,List.map_nil,List.sum_nil] at h2 h3 ih ⊢;rcases mc_.1 hm with rfl|hm
  ·have h4:leftF1 (b++[n]) f=0:=by simp [leftF1,he]
   have h5:leftF1 b f=1:=by simp [leftF1,he,hn]
   omega
  ·have:=ih hm;omega
 noncomputable def topW (fr:List Frag):Nat:=(fr.map fun f=>SizeOf.sizeOf f.kids+1).sum
theorem v_R {fr:List Frag}{f:Frag}(h:f∈fr):SizeOf.sizeOf f.kids<topW fr:=by
 induction fr with
 | nil=>cases h
 | cons g fr ih=>
  simp only [topW,List.map_cons,List.sum_cons] at ih ⊢;rcases mc_.1 h with rfl|h
  ·omega
  ·have:=ih h;omega
 noncomputable def topM (fr:List Frag) (ks:List Sel) (b:List BA):Nat:=leftF fr b*topW fr+SizeOf.sizeOf ks
theorem v_B {fr:List Frag}{ks:List Sel}{b:List BA}{n:BA}{f:Frag}(hf:a_h Frag.name fr n=some f)(hn:n∉b):topM fr f.kids (b++[n])<topM fr ks b:=by
 have h1:=v_O hf hn;have h2:=v_R (a_U hf).1;have h3:(leftF fr (b++[n])+1)*topW fr<=leftF fr b*topW fr:=Nat.mul_le_mul_right _ h1;rw [Nat.add_mul,Nat.one_mul] at h3;unfold topM;omega
theorem v_E {fr:List Frag}{ks ks':List Sel}{b b':List BA}(h:∀ n∈b,n∈b')(hk:SizeOf.sizeOf ks'<SizeOf.sizeOf ks):topM fr ks' b'<topM fr ks b:=by
 have:=Nat.mul_le_mul_right (topW fr) (v_h (fr:=fr) h);unfold topM;omega
open Classical in
 noncomputable def topP1 (b:List BA) (f:Frag):Nat:=if f.name∈b then 0 else 1+selL f.kids
 noncomputable def topP (fr:List Frag) (b:List BA):Nat:=(fr.map (topP1 b)).sum
theorem v_F (b:List BA)(n:BA)(f:Frag):topP1 (b++[n]) f<=topP1 b f:=by
 unfold topP1;by_cases h:f.name∈b
 ·simp [h]
 ·simp only [ma_,h,List.mem_singleton,false_or,if_false];split<;>omega
theorem v_u {fr:List Frag}{f:Frag}{b:List BA}{n:BA}(hf:f∈fr)(he:f.name=n)(hn:n∉b):topP fr (b++[n])+1+selL f.kids<=topP fr b:=by
 have h1:∀ xs:List Frag,(xs.map (topP1 (b++[n]))).sum<=(xs.map (topP1 b)).sum:=fun xs=>k_F fun x _=>v_F b n x;unfold topP;induction fr with
 | nil=>cases hf
 | cons g fr ih=>
  simp only [List.map_cons,List.sum_cons];rcases mc_.1 hf with rfl|hf
  ·have h2:topP1 (b++[n]) f=0:=by simp [topP1,he]
   have h3:topP1 b f=1+selL f.kids:=by simp [topP1,he,hn]
   have:=h1 fr;omega
  ·have:=ih hf;have:=v_F b n g;omega
theorem v_U (ops:List OpD)(frags:List Frag):topP frags []<=(frags.map fragW).sum:=k_F fun x _=>by
 have:=l_h x.kids;simp only [topP1,nn_,if_false,fragW];omega
theorem v_i {fr:List Frag}{rec:List Sel->List BA->List Sel × List BA}(hr:∀ ks b,(rec ks b).1.length+(rec ks b).2.length+topP fr (rec ks b).2<=selL ks+b.length+topP fr b):∀ (l:List Sel) (b:List BA),(topL fr rec l b).1.length+(topL fr rec l b).2.length+topP fr (topL fr rec l b).2<=selL l+b.length+topP fr b
 | [],b=>by simp [topL,selL]
 | s::l,b=>by
  have ih:=v_i hr l (topS fr rec b s).2;have hs:(topS fr rec b s).1.length+(topS fr rec b s).2.length+topP fr (topS fr rec b s).2<=selS s+b.length+topP fr b:=by
   obtain ⟨k,al,m,on,args,dirs,kids⟩:=s;rw [topS];simp only [selS];by_cases hk:k=0
   ·rw [if_pos hk];simp only [List.length_cons,List.length_nil];omega
   ·rw [if_neg hk];by_cases hk1:k=1
    ·rw [if_pos hk1];cases hf:a_h Frag.name fr m with
     | none=>simp only [List.length_nil];omega
     | some f=>
      obtain ⟨hm,he⟩:=a_U hf;dsimp only;split
      ·simp only [List.length_nil];omega
      ·rename_i hn;have h1:=hr f.kids (b++[m]);have h2:=v_u hm he hn;simp only [la_,List.length_cons,List.length_nil] at h1;omega
    ·rw [if_neg hk1];have:=hr kids b;omega
  simp only [topL,selL,la_];omega
theorem u_6 {fr:List Frag}:∀ (d:Nat) (ks:List Sel) (b:List BA),(topD fr d ks b).1.length+(topD fr d ks b).2.length+topP fr (topD fr d ks b).2<=selL ks+b.length+topP fr b
 | 0,ks,b=>by simp [topD]
 | d+1,ks,b=>v_i (fun ks b=>u_6 d ks b) ks b
theorem v_y {l:List Sel}{i:Int}{x:Sel}(h0:0<=i)(hx:l[i.toNat]? =some x):selL (l.take (i+1).toNat)=selL (l.take i.toNat)+selS x:=by
 rw [t_L,t_L,show (i+1).toNat=i.toNat+1 by omega,List.take_add_one,hx];simp
theorem v_c (l:List Sel)(i:Nat):selL (l.take i)<=selL l:=by
 have:selL l=selL (l.take i)+selL (l.drop i):=by
  rw [t_L,t_L,t_L,<- List.sum_append,<- List.map_append,List.take_append_drop]
 omega
def RPk:Sel->List Value->Prop
 | .mk k al n on _ _ _,cs=>∃ (A1:OA) (L1 C1:Nat) (A2:OA) (L2 C2:Nat) (A3:OA) (L3 C3:Nat) (u:BA),cs=[.int .i64 k,.string al,.string n,.string on,.slice A1 L1 C1,.slice A2 L2 C2,.slice A3 L3 C3,.string u]
theorem RPk.len {x:Sel}{cs:List Value}(h:RPk x cs):cs.length=8:=by
 cases x;obtain ⟨A1,L1,C1,A2,L2,C2,A3,L3,C3,u,rfl⟩:=h;rfl
theorem v_D {base:Nat}{w:World}{T n:Nat}{a:OA}{l c:Nat}{xs:List Value}(h:Own base w T n a l c xs){b:Nat}(hb:blkOf a b):∃ cur,objAt w b=some (.cells cur T (0,0)):=by
 obtain ⟨p,rfl,rfl⟩:=hb;obtain ⟨h1,h2|⟨g,cap,cur,e1,e2,e3,e4⟩⟩:=h
 ·simp at h2
 ·simp only [Value.slice.injEq,Option.some.injEq] at e1;obtain ⟨rfl,-⟩:=e1;exact ⟨cur,e3⟩
theorem v_n {bb base:Nat}{A:OA}{L C:Nat}{b:List BA}{cs:List Value}{w w':World}(hB:Blk w bb 71 cs)(hA:OwnR 9 1 RS base w A L C b)(hx:Ext (fun k=>k=bb∨blkOf A k) w w'){T:TypeId}(h1:T≠71)(h2:T≠9):KeepT T w w':=fun k c fr hk=>hx.old k _ (fun e=>by
 rcases e with rfl|e
 ·rw [show objAt w k=_ from hB] at hk;simp only [Option.some.injEq,Obj.cells.injEq] at hk;exact h1 hk.2.1.symm
 ·obtain ⟨cells,o,f⟩:=hA;obtain ⟨cur,hc⟩:=v_D o e;rw [hc] at hk;simp only [Option.some.injEq,Obj.cells.injEq] at hk;exact h2 hk.2.1.symm) hk
theorem r_D {w:World}{a:OA}{l c:Nat}{frags:List Frag}(h:a_X w a l c frags){f:Frag}(hf:f∈frags):f.on.size<=4194304:=by
 obtain ⟨i,hi⟩:=List.mem_iff_getElem?.1 hf;obtain ⟨p,hp,cs,hc,a2,l2,c2,a3,l3,c3,rfl,-⟩:=h.2.2.2 i f hi;exact (hc.get 1 _ rfl).2
abbrev FoOf (w0:World)(q2:OA)(q2l q2c:Nat)(q3:OA)(q3l q3c:Nat)(wv:OA)(bb:Nat)(frags:List Frag)(d:Nat):Prop:=∀ (ks:List Sel) (b:List BA) (a:OA) (l c:Nat) (at':BA) (w:World) (A:OA) (L C:Nat),topM frags ks b<d->RSels w0 a l c ks->a_z ks->at'.size<=4194304->EF w0 w->w0.heap.size<=bb->Blk w bb 71 [.slice A L C]->OwnR 9 1 RS w0.heap.size w A L C b->selL ks+b.length+topP frags b<=4194304->
 CP 50 #[.pointer wv,.agg #[.slice q2 q2l q2c,.slice q3 q3l q3c],.slice a l c,.string at',.pointer (some (adr bb))] w fun e w'=>∃ o ol oc A' L' C',e=.returned (.slice o ol oc)/\Ext (fun k=>k=bb∨blkOf A k) w w'/\OwnR 80 8 RPk w.heap.size w' o ol oc (topD frags d ks b).1/\Blk w' bb 71 [.slice A' L' C']/\OwnR 9 1 RS w0.heap.size w' A' L' C' (topD frags d ks b).2/\∀ x,blkOf A' x->blkOf A x∨w.heap.size<=x
theorem v_m {w0:World}{q2:OA}{q2l q2c:Nat}{q3:OA}{q3l q3c:Nat}{wv:OA}{bb:Nat}{frags:List Frag}(hF:a_X w0 q3 q3l q3c frags)(ok2:∀ x∈frags,b_j x)(d:Nat)(IH:FoOf w0 q2 q2l q2c q3 q3l q3c wv bb frags d):FoOf w0 q2 q2l q2c q3 q3l q3c wv bb frags (d+1):=by
 intro ks b a l c at' w A L C hM hl hok hat hx0 hbb hB hA hfew;obtain ⟨e1,e3⟩:=hl.len;have hkeep:∀ {w1:World},Ext (fun k=>k=bb∨blkOf A k) w w1->EF w0 w1:=fun hx=>hx0.trans hx fun k hk e=>by
  rcases e with rfl|e
  ·omega
  ·have:=hA.ge k e;omega
 have hbw:=hB.lt;have hsub:∀ ks b,∀ n∈b,n∈(topD frags d ks b).2:=fun ks b n hn=>v_s d ks b n hn;refine v_g wv q2 q2l q2c q3 q3l q3c a l c at' (some (adr bb)) w _ ⟨trivial,?_⟩;have x7:EF w (w.alloc (.cells #[.slice q2 q2l q2c,.slice q3 q3l q3c] 30)):=(Ext.refl w).alloc _;refine ⟨fun o ol oc i w1=>0<=i/\i<=l/\∃ A1 L1 C1,Ext (fun k=>k=bb∨blkOf A k) w w1/\OwnR 80 8 RPk w.heap.size w1 o ol oc (topL frags (topD frags d) (ks.take i.toNat) b).1/\Blk w1 bb 71 [.slice A1 L1 C1]/\OwnR 9 1 RS w0.heap.size w1 A1 L1 C1 (topL frags (topD frags d) (ks.take i.toNat) b).2/\∀ x,blkOf A1 x->blkOf A x∨w.heap.size<=x,fun _ _ _ i _=>((l:Int)-i).toNat,⟨by omega,by omega,A,L,C,x7.toM _,by simpa [topL] using OwnR.nil,hB.ext x7 id,by simpa [topL] using hA.keep0 x7,fun x hx=>.inl hx⟩,?_⟩;rintro o ol oc i w1 ⟨h0,hi,A1,L1,C1,hx,hO,hB1,hA1,hb1⟩;refine ⟨fun hlt=>?_,fun hge=>?_⟩
 ·have hlt:=odt hlt;have y1:=hkeep hx;obtain ⟨p,x,hp,hxs,cs,hc,hv⟩:=hl.get h0 hlt;have hmem:=mg_ hxs;have hokx:=b_9.1 hok x hmem;have hsn:=v_A (fr:=frags) (rec:=topD frags d) (b:=b) h0 hxs;have hfi:=v_i (fr:=frags) (rec:=topD frags d) (fun ks b=>u_6 d ks b) (ks.take i.toNat) b;have hst:=v_y h0 hxs;have hsl:=v_c ks (i+1).toNat;have hbi:∀ n∈b,n∈(topL frags (topD frags d) (ks.take i.toNat) b).2:=v_j hsub _ _;have hszx:=List.sizeOf_lt_of_mem hmem;generalize hT:topL frags (topD frags d) (ks.take i.toNat) b=T at hO hA1 hsn hfi hbi;obtain ⟨out,bi⟩:=T;simp only at hO hA1 hsn hfi hbi;have eO:=hO.len (by omega);have eA:=hA1.len (by omega);obtain ⟨k,al,n,on,args,dirs,kids⟩:=x;simp only [okSel] at hokx;obtain ⟨hk,-, -, hkids,-⟩:=hokx;simp only [selS] at hst;simp only [Sel.mk.sizeOf_spec] at hszx;obtain ⟨a1,l1,c1,a2,l2,c2,a3,l3,c3,rfl,hv1,hv2,hv3⟩:=c_w.1 hv;obtain ⟨⟨_,_,hc0⟩,hs0,⟨_,_,hc1⟩,hs1,⟨_,_,hc2⟩,hs2,⟨_,_,hc3⟩,hs3,⟨_,_,hc4⟩,hs4,⟨_,_,hc5⟩,hs5,⟨_,_,hc6⟩,hs6,-⟩:=hc;intro K13 hK13;have key:∀ (o':OA) (ol' oc':Nat) (A':OA) (L' C':Nat) (new:List Sel) (b':List BA) (w':World),Ext (fun k=>k=bb∨blkOf A k) w w'->OwnR 80 8 RPk w.heap.size w' o' ol' oc' (out++new)->Blk w' bb 71 [.slice A' L' C']->OwnR 9 1 RS w0.heap.size w' A' L' C' b'->(∀ x,blkOf A' x->blkOf A x∨w.heap.size<=x)->topS frags (topD frags d) bi (.mk k al n on args dirs kids)=(new,b')->K13 o' ol' oc' w':=by
   intro o' ol' oc' A' L' C' new b' w' hx' hO' hB' hA' hb' hS;rw [hS] at hsn;refine hK13 o' ol' oc' w' ?_;rw [a_a h0 (by omega)];refine next h0 hlt ⟨A',L',C',hx',?_,hB',?_,hb'⟩
   ·rw [hsn];exact hO'
   ·rw [hsn];exact hA'
  have x25:EF w1 (w1.alloc (.cells #[.int .i64 k,.string al,.string n,.string on,.slice a1 l1 c1,.slice a2 l2 c2,.slice a3 l3 c3] 78)):=(Ext.refl w1).alloc _;refine ⟨p,hp,⟨h0,hlt⟩,_,y1.cell hc0 id,_,y1.cell hc1 id,_,y1.cell hc2 id,_,y1.cell hc3 id,_,_,_,y1.cell hc4 id,_,_,_,y1.cell hc5 id,_,_,_,y1.cell hc6 id,trivial,trivial,?_⟩;generalize w1.alloc (.cells #[.int .i64 k,.string al,.string n,.string on,.slice a1 l1 c1,.slice a2 l2 c2,.slice a3 l3 c3] 78)=w25 at x25 ⊢;have z25:=hx.then x25;have O25:=hO.keep0 x25;have B25:=hB1.ext x25 id;have S25:=hA1.keep0 x25;have hMi:topM frags ks bi<=topM frags ks b:=Nat.add_le_add_right (Nat.mul_le_mul_right _ (v_h hbi)) _;refine ⟨fun hk0=>?_,fun hk0=>⟨fun hk1=>?_,fun hk1=>⟨fun hk2=>?_,fun hk2=>?_⟩⟩⟩
  ·
   have hk0:k=0:=by simpa using hk0
   obtain ⟨o',oc',w28,r28,O28,x28,k28,b28⟩:=O25.one 72 Tryz.t80 _ _ (by kernel_rfl) (by kernel_rfl) rfl (by kernel_rfl) rfl (by kernel_rfl) (by omega) (by decide) z25.size (x:=.mk k al n on args dirs kids) (cs:=[.int .i64 k,.string al,.string n,.string on,.slice a1 l1 c1,.slice a2 l2 c2,.slice a3 l3 c3,.string at']) rfl (fun v hv=>by
    simp only [mc_,nn_,or_false] at hv;rcases hv with rfl|rfl|rfl|rfl|rfl|rfl|rfl|rfl
    ·rfl
    ·exact hs1
    ·exact hs2
    ·exact hs3
    ·rfl
    ·rfl
    ·rfl
    ·exact hat) ⟨a1,l1,c1,a2,l2,c2,a3,l3,c3,at',rfl⟩ (by omega) 72 #[false,false]
   have hno:∀ x,x<w.heap.size->¬ blkOf o x:=fun x hx e=>by
    have:=hO.ge x e;omega
   refine ⟨trivial,trivial,o',ol+1,oc',w28,r28,⟨k28 _ (by decide),k28 _ (by decide),trivial⟩,key o' (ol+1) oc' A1 L1 C1 _ bi w28 (z25.trans x28 fun x hx e=>absurd e (hno x hx)) O28 (B25.ext x28 (hno bb hbw)) (S25.keep x28 (S25.ne_own O25 (by decide))) hb1 ?_⟩;rw [topS,if_pos hk0]
  ·
   have hk0:k≠0:=fun e=>by simp [e] at hk0
   have hk1:k=1:=by simpa using hk1
   refine (n_R n (y1.then x25) hF).mono ?_;rintro _ w30 ⟨s1,s2,a4,l4,c4,a5,l5,c5,b35,rfl,x30,-, hfd,hnf⟩;have x37:=x30.alloc (.cells #[.string s1,.string s2,.slice a4 l4 c4,.slice a5 l5 c5] 70);refine ⟨s1,s2,a4,l4,c4,a5,l5,c5,b35,rfl,⟨x30.keepT _,x30.keepT _,trivial⟩,trivial,trivial,fun K38 hK38 w54 e54=>?_⟩;have x54:EF w25 w54:=by rw [e54];exact x37.drew
   clear e54;have none':∀ w',EF w25 w'->topS frags (topD frags d) bi (.mk k al n on args dirs kids)=([],bi)->K38 false w':=fun w' x' hS=>hK38 false w' ⟨nofun,fun _=>key o ol oc A1 L1 C1 [] bi w' (z25.then x') (by simpa using O25.keep0 x') (B25.ext x' id) (S25.keep0 x') hb1 hS⟩;have B54:=B25.ext x54 id;have S54:=S25.keep0 x54;refine ⟨fun hb35=>⟨adr bb,rfl,A1,L1,C1,(B54.at (j:=0) rfl).cell,?_⟩,fun hb35=>none' w54 x54 ?_⟩
   ·obtain ⟨f,hf,rfl,rfl,-, hvk⟩:=hfd hb35;obtain ⟨hfm,hfn⟩:=a_U hf;refine (c_in n (S54.sl (by omega) (by omega))).mono ?_;rintro _ w58 ⟨b59,rfl,x58,h59⟩;have x58':=x54.then x58;refine ⟨b59,rfl,⟨x58.keepT _,x58.keepT _,x58.keepT _,trivial⟩,trivial,?_⟩;cases b59 with
    | true=>exact none' w58 x58' (by rw [topS,if_neg hk0,if_pos hk1,hf];simp only [h59.1 rfl,if_true])
    | false=>
     have hnb:n∉bi:=fun h=>by cases h59.2 h
     refine hK38 true w58 ⟨fun _=>fun w41 e41=>?_,nofun⟩;have x41:EF w25 w41:=by rw [e41];exact x58'.drew
     clear e41;have z41:=z25.then x41;have B41:=B25.ext x41 id;have S41:=S25.keep0 x41;have x44:EF w41 (w41.alloc (.cells #[.string n] 9)):=(Ext.refl w41).alloc _;have hput:=v_u hfm hfn hnb;obtain ⟨A2,C2,w46,r46,S46,x46,k46,b46⟩:=S41.one 71 Tryz.t9 _ _ (by kernel_rfl) (by kernel_rfl) rfl (by kernel_rfl) rfl (by kernel_rfl) (by omega) (by decide) (hkeep z41).size (x:=n) (cs:=[.string n]) rfl (i_Q hs2) rfl (by omega) 71 #[false,false];have hbbA:¬ blkOf A1 bb:=S41.ne_blk B41 (by decide);have B46:=B41.ext x46 hbbA;have B48:=B46.set 0 (.slice A2 (L1+1) C2);have x48:Ext (fun k=>k=bb) w46 (w46.setCell ⟨bb,0,none⟩ (.slice A2 (L1+1) C2)):=Ext.setCell (X:=fun k=>k=bb) (Ext.refl w46) (a:=⟨bb,0,none⟩) (.inl rfl) _;have hbb2:¬ blkOf A2 bb:=S46.ne_blk B46 (by decide);have S48:=S46.keep x48 fun x hx e=>hbb2 (by rw [<- show x=bb from e];exact hx);have hb2:∀ x,blkOf A2 x->blkOf A x∨w.heap.size<=x:=fun x hx=>(b46 x hx).elim (hb1 x) fun h=>.inr (by have:=z41.size;omega);have z46:Ext (fun k=>k=bb∨blkOf A k) w w46:=z41.trans x46 fun x hx e=>(hb1 x e).elim .inr fun h=>by omega
     have z48:Ext (fun k=>k=bb∨blkOf A k) w (w46.setCell ⟨bb,0,none⟩ (.slice A2 (L1+1) C2)):=z46.trans x48 fun x hx e=>.inl e;have O41:=O25.keep0 x41;have O46:=O41.keep x46 (O41.ne_own S41 (by decide));have O48:=O46.keep x48 fun x hx e=>by
      have:=hO.ge x hx;have e:x=bb:=e;omega
     refine ⟨adr bb,rfl,A1,L1,C1,(B41.at (j:=0) rfl).cell,trivial,⟨x44.cell_eq id (B41.at (j:=0) rfl).cell,trivial⟩,A2,L1+1,C2,w46,r46,⟨k46 _ (by decide),k46 _ (by decide),k46 _ (by decide),trivial⟩,trivial,adr bb,rfl,B46.off (j:=0) (n:=1) (by simp) rfl,trivial,trivial,?_⟩;generalize hw48:w46.setCell (adr bb) (.slice A2 (L1+1) C2)=w48;replace B48:Blk w48 bb 71 [.slice A2 (L1+1) C2]:=by rw [<- hw48];exact B48
     replace S48:OwnR 9 1 RS w0.heap.size w48 A2 (L1+1) C2 (bi++[n]):=by rw [<- hw48];exact S48
     replace z48:Ext (fun k=>k=bb∨blkOf A k) w w48:=by rw [<- hw48];exact z48
     replace O48:OwnR 80 8 RPk w.heap.size w48 o ol oc out:=by rw [<- hw48];exact O48
     clear hw48 x48;have hMf:topM frags f.kids (bi++[n])<topM frags ks bi:=v_B hf hnb;have hlen1:(bi++[n]).length=bi.length+1:=by simp
     refine (IH f.kids (bi++[n]) a5 l5 c5 f.on w48 A2 (L1+1) C2 (by omega) hvk (ok2 f hfm).2.1 (r_D hF hfm) (hkeep z48) hbb B48 S48 (by omega)).mono ?_;rintro _ w50 ⟨o2,ol2,oc2,A3,L3,C3,rfl,x50,O50,B50,S50,b50⟩;have hf2:=u_6 (fr:=frags) d f.kids (bi++[n]);have eO2:=O50.len (by omega);have O48':=O48.keep x50 fun x hx e=>by
      rcases e with e|e
      ·have:=O48.ge x hx;omega
      ·exact O48.ne_own S48 (by decide) x hx e
     obtain ⟨o',oc',w53,r53,O53,x53,k53,b53⟩:=O48'.app 72 Tryz.t80 _ _ (by kernel_rfl) (by kernel_rfl) rfl (by kernel_rfl) rfl (by kernel_rfl) (by omega) (by decide) (lt_ z48.size x50.size) (O50.sl (by omega) (by omega)) (fun x cs h=>h.len) (by omega) 72 #[false,false];have hno:∀ x,x<w.heap.size->¬ blkOf o x:=fun x hx e=>by
      have:=hO.ge x e;omega
     have z50:Ext (fun k=>k=bb∨blkOf A k) w w50:=z48.trans x50 fun x hx e=>e.elim .inl fun e=>(hb2 x e).elim .inr fun h=>by omega
     refine ⟨o2,ol2,oc2,rfl,⟨v_n B48 S48 x50 (by decide) (by decide),v_n B48 S48 x50 (by decide) (by decide),v_n B48 S48 x50 (by decide) (by decide),trivial⟩,o',ol+ol2,oc',w53,r53,⟨k53 _ (by decide),k53 _ (by decide),k53 _ (by decide),trivial⟩,key o' (ol+ol2) oc' A3 L3 C3 _ _ w53 (z50.trans x53 fun x hx e=>absurd e (hno x hx)) O53 (B50.ext x53 (hno bb hbw)) (S50.keep x53 (S50.ne_own O48' (by decide))) (fun x hx=>(b50 x hx).elim (hb2 x) fun h=>.inr (by have:=z48.size;omega)) ?_⟩;rw [topS,if_neg hk0,if_pos hk1,hf];simp only [hnb,if_false]
   ·rw [topS,if_neg hk0,if_pos hk1,(hnf hb35).1]
  ·
   have hk0:k≠0:=fun e=>by simp [e] at hk0
   have hk1:k≠1:=fun e=>by simp [e] at hk1
   intro K60 hK60;have key60:∀ on':BA,on'.size<=4194304->K60 on' w25:=by
    intro on' hon;refine hK60 on' w25 ?_;have hMk:topM frags kids bi<topM frags ks b:=v_E hbi (by omega);refine (IH kids bi a3 l3 c3 on' w25 A1 L1 C1 (by omega) hv3 hkids hon (hkeep z25) hbb B25 S25 (by omega)).mono ?_;rintro _ w64 ⟨o2,ol2,oc2,A3,L3,C3,rfl,x50,O50,B50,S50,b50⟩;have hf2:=u_6 (fr:=frags) d kids bi;have eO2:=O50.len (by omega);have O25':=O25.keep x50 fun x hx e=>by
     rcases e with e|e
     ·have:=O25.ge x hx;omega
     ·exact O25.ne_own S25 (by decide) x hx e
    obtain ⟨o',oc',w53,r53,O53,x53,k53,b53⟩:=O25'.app 72 Tryz.t80 _ _ (by kernel_rfl) (by kernel_rfl) rfl (by kernel_rfl) rfl (by kernel_rfl) (by omega) (by decide) (lt_ z25.size x50.size) (O50.sl (by omega) (by omega)) (fun x cs h=>h.len) (by omega) 72 #[false,false];have hno:∀ x,x<w.heap.size->¬ blkOf o x:=fun x hx e=>by
     have:=hO.ge x e;omega
    have z50:Ext (fun k=>k=bb∨blkOf A k) w w64:=z25.trans x50 fun x hx e=>e.elim .inl fun e=>(hb1 x e).elim .inr fun h=>by omega
    refine ⟨o2,ol2,oc2,rfl,⟨v_n B25 S25 x50 (by decide) (by decide),v_n B25 S25 x50 (by decide) (by decide),trivial⟩,o',ol+ol2,oc',w53,r53,⟨k53 _ (by decide),k53 _ (by decide),trivial⟩,key o' (ol+ol2) oc' A3 L3 C3 _ _ w53 (z50.trans x53 fun x hx e=>absurd e (hno x hx)) O53 (B50.ext x53 (hno bb hbw)) (S50.keep x53 (S50.ne_own O25' (by decide))) (fun x hx=>(b50 x hx).elim (hb1 x) fun h=>.inr (by have:=z25.size;omega)) ?_⟩;rw [topS,if_neg hk0,if_neg hk1]
   exact ⟨fun _=>key60 at' hat,fun _=>key60 on hs3⟩
  ·exfalso;rcases hk with rfl|rfl|rfl
   ·simp at hk0
   ·simp at hk1
   ·simp at hk2
 ·have hle:=odf hge;rw [tl_ (by omega)] at hO hA1;exact ⟨o,ol,oc,A1,L1,C1,rfl,hx,hO,hB1,hA1,hb1⟩
theorem u_9 {w0:World}{q2:OA}{q2l q2c:Nat}{q3:OA}{q3l q3c:Nat}{wv:OA}{bb:Nat}{frags:List Frag}(hF:a_X w0 q3 q3l q3c frags)(ok2:∀ x∈frags,b_j x):∀ d,FoOf w0 q2 q2l q2c q3 q3l q3c wv bb frags d
 | 0=>fun ks b a l c at' w A L C hM=>absurd hM (by omega)
 | d+1=>v_m hF ok2 d (u_9 hF ok2 d)
end Go.VC
namespace Go.VC
open Go Go.Proofs
set_option maxRecDepth 100000
theorem q_1 (a:OA)(b c:Nat)(d:OA)(e f:Nat)(w:World)(R:EW)(h:
 True/\(let g:=w.alloc (.cells #[S9 a b c,S9 d e f] 30);
 ∃ (i:OA->Nat->Nat->Int->World->Prop) (j:OA->Nat->Nat->Int->World->Nat),i none 0 0 0 g/\
 (∀ (k:OA) (l m:Nat),∀ n:Int,∀ o:World,i k l m n o->
 (Br (decide (n<(b:Int))) (Ix a n b fun p=>L_sslll o (p.add (n.toNat*5)) fun q r s t u v x y z A B=>True/\True/\(let D:=o.alloc (.cells #[T9 q,T9 r,S9 s t u,S9 v x y,S9 z A B] 58);
 ∀ E,E=D.drew->Cs 117 #[T9 q] E (fun F G=>(KeepT 30 E G/\KeepT 58 E G/\True)/\((1=1)/\True)/\True/\True/\(let H:=G.alloc (.cells #[S9 v x y,T9 F] 85);
 True/\∃ I J K,∃ L,(Go.builtin .append #[82,82] 82 #[false,false] #[S9 k l m,(S9 (some (adr G.heap.size)) 1 1)]).run Tryz.prog H=.ok (.value (S9 I J K)) L/\(KeepT 30 H L/\KeepT 58 H L/\True)/\True/\True/\∃ (M:OA->Nat->Nat->Int->World->Prop) (N:OA->Nat->Nat->Int->World->Nat),M I J K 0 L/\
 (∀ (O:OA) (P Q:Nat),∀ S:Int,∀ U:World,M O P Q S U->
 (Br (decide (S<(t:Int))) (Ix s S t fun V=>Ls U (V.add (S.toNat*6)) fun W=>Ls U ((V.add (S.toNat*6)).add 1) fun X=>Ll U ((V.add (S.toNat*6)).add 2) fun Y Z aa=>Lb U ((V.add (S.toNat*6)).add 3) fun ab=>Ll U ((V.add (S.toNat*6)).add 4) fun ac ad ae=>Ll U ((V.add (S.toNat*6)).add 5) fun af ag ah=>True/\True/\(let aj:=U.alloc (.cells #[T9 W,T9 X,S9 Y Z aa,.bool ab,S9 ac ad ae,S9 af ag ah] 66);
 True/\True/\(let ak:=aj.alloc (.cells #[S9 af ag ah,(T9 (⟨#[86,65,82,73,65,66,76,69,95,68,69,70,73,78,73,84,73,79,78]⟩:BA))] 85);
 ∃ al am an,∃ ao,(Go.builtin .append #[82,82] 82 #[false,false] #[S9 O P Q,(S9 (some (adr aj.heap.size)) 1 1)]).run Tryz.prog ak=.ok (.value (S9 al am an)) ao/\(KeepT 30 ak ao/\KeepT 58 ak ao/\KeepT 66 ak ao/\True)/\(M al am an (wr (S+1)) ao/\N al am an (wr (S+1)) ao<N O P Q S U)))) (Cl 118 #[S9 z A B] U (fun ap aq ar au=>(KeepT 30 U au/\KeepT 58 U au/\True)/\∃ av ax ay,∃ az,(Go.builtin .append #[82,82] 82 #[false,false] #[S9 O P Q,S9 ap aq ar]).run Tryz.prog au=.ok (.value (S9 av ax ay)) az/\(KeepT 30 au az/\KeepT 58 au az/\True)/\(i av ax ay (wr (n+1)) az/\j av ax ay (wr (n+1)) az<j k l m n o))))))))) (∃ (aA:OA->Nat->Nat->Int->World->Prop) (aB:OA->Nat->Nat->Int->World->Nat),aA k l m 0 o/\
 (∀ (aC:OA) (aD aE:Nat),∀ aF:Int,∀ aG:World,aA aC aD aE aF aG->
 (Br (decide (aF<(e:Int))) (Ix d aF e fun aH=>L_ssll aG (aH.add (aF.toNat*4)) fun aI aJ aK aL aM aN aO aP=>True/\True/\(let aS:=aG.alloc (.cells #[T9 aI,T9 aJ,S9 aK aL aM,S9 aN aO aP] 70);
 True/\True/\(let aU:=aS.alloc (.cells #[S9 aK aL aM,(T9 (⟨#[70,82,65,71,77,69,78,84,95,68,69,70,73,78,73,84,73,79,78]⟩:BA))] 85);
 ∃ aV aW aX,∃ aY,(Go.builtin .append #[82,82] 82 #[false,false] #[S9 aC aD aE,(S9 (some (adr aS.heap.size)) 1 1)]).run Tryz.prog aU=.ok (.value (S9 aV aW aX)) aY/\(KeepT 30 aU aY/\KeepT 70 aU aY/\True)/\Cl 118 #[S9 aN aO aP] aY (fun aZ ba bb bc=>(KeepT 30 aY bc/\KeepT 70 aY bc/\True)/\∃ bd be bf,∃ bg,(Go.builtin .append #[82,82] 82 #[false,false] #[S9 aV aW aX,S9 aZ ba bb]).run Tryz.prog bc=.ok (.value (S9 bd be bf)) bg/\(KeepT 30 bc bg/\KeepT 70 bc bg/\True)/\(aA bd be bf (wr (aF+1)) bg/\aB bd be bf (wr (aF+1)) bg<aB aC aD aE aF aG))))) (R (R9 (S9 aC aD aE)) aG)))))))):CP 53 #[(.agg #[S9 a b c,S9 d e f])] w R:=
 vcq Tryz.func53 [1,5,7,9] [(8,⟨[(3,.slice),(13,.int .i64)],[]⟩),(25,⟨[(3,.slice),(29,.int .i64)],[]⟩),(44,⟨[(3,.slice),(49,.int .i64)],[]⟩)] [.agg [.slice a b c,.slice d e f]] h
theorem q_J (a:OA)(b c:Nat)(w:World)(R:EW)(h:
 ∃ (d:OA->Nat->Nat->Int->World->Prop) (e:OA->Nat->Nat->Int->World->Nat),d none 0 0 0 w/\
 (∀ (f:OA) (g i:Nat),∀ j:Int,∀ k:World,d f g i j k->
 (Br (decide (j<(b:Int))) (Ix a j b fun l=>L_issslll k (l.add (j.toNat*7)) fun m n o p q r s t u v x y z=>True/\True/\(let B:=k.alloc (.cells #[N9 m,T9 n,T9 o,T9 p,S9 q r s,S9 t u v,S9 x y z] 78);
 ∀ C,C=B.drew->True/\(let D:=C.alloc (.cells #[(T9 (⟨#[70,73,69,76,68]⟩:BA)),(T9 (⟨#[70,82,65,71,77,69,78,84,95,83,80,82,69,65,68]⟩:BA)),(T9 (⟨#[73,78,76,73,78,69,95,70,82,65,71,77,69,78,84]⟩:BA))] 9);
 ((1=1)/\(1=1)/\True)/\Ix (some (adr C.heap.size)) m 3 fun E=>Ls D (E.add (m.toNat*1)) fun F=>True/\True/\(let G:=D.alloc (.cells #[S9 t u v,T9 F] 85);
 True/\∃ H I J,∃ K,(Go.builtin .append #[82,82] 82 #[false,false] #[S9 f g i,(S9 (some (adr D.heap.size)) 1 1)]).run Tryz.prog G=.ok (.value (S9 H I J)) K/\(KeepT 78 G K/\True)/\True/\True/\Cl 118 #[S9 x y z] K (fun L M N O=>(KeepT 78 K O/\True)/\∃ P Q S,∃ U,(Go.builtin .append #[82,82] 82 #[false,false] #[S9 H I J,S9 L M N]).run Tryz.prog O=.ok (.value (S9 P Q S)) U/\(KeepT 78 O U/\True)/\(d P Q S (wr (j+1)) U/\e P Q S (wr (j+1)) U<e f g i j k)))))) (R (R9 (S9 f g i)) k)))):CP 118 #[S9 a b c] w R:=
 vcq Tryz.func118 [5] [(8,⟨[(3,.slice),(8,.int .i64)],[]⟩)] [.l (.slice a b c)] h
theorem q_C (a:BA)(w:World)(R:EW)(h:
 (Br (a.toList==(⟨#[109,117,116,97,116,105,111,110]⟩:BA).toList) (R (R9 (T9 (⟨#[77,85,84,65,84,73,79,78]⟩:BA))) w) ((Br (a.toList==(⟨#[115,117,98,115,99,114,105,112,116,105,111,110]⟩:BA).toList) (R (R9 (T9 (⟨#[83,85,66,83,67,82,73,80,84,73,79,78]⟩:BA))) w) (R (R9 (T9 (⟨#[81,85,69,82,89]⟩:BA))) w))))):CP 117 #[T9 a] w R:=
 vcq Tryz.func117 [] [] [.l (.str a)] h
variable [DB]
def AppT (t T n:Nat):Prop:=∃ (i:TypeInfo) (z:Value) (bytes:Nat),Tryz.prog.underlying t=some (.slice T)/\Tryz.prog.info? T=some i/\i.zero=some z/\i.size=n/\i.bytes=bytes/\z.cells.size=n/\0<n/\bytes<=4096
def Acc {α:Type}(wb w:World)(T n:Nat)(R:α->List Value->Prop)(A:OA)(L C:Nat)(xs:List α):Prop:=
 EF wb w/\L=xs.length/\∃ cells,Own wb.heap.size w T n A L C cells/\Flat n R xs cells
section
variable {α:Type} {wb w w':World} {t T n:Nat} {R:α->List Value->Prop} {A:OA} {L C:Nat} {xs ys:List α} {x:α}
theorem Acc.nil (h:EF wb w):Acc wb w T n R none 0 0 ([]:List α):=⟨h,rfl,[],Own.nil ..,.nil⟩
theorem Acc.step (h:Acc wb w T n R A L C xs)(hx:EF w w'):Acc wb w' T n R A L C xs:=by
 obtain ⟨h1,h2,cells,h3,h4⟩:=h;exact ⟨h1.then hx,h2,cells,h3.keep hx fun _ _=>id,h4⟩
theorem Acc.sl (h:Acc wb w T n R A L C xs)(hn:0<n)(hl:xs.length<=4194304):SlL w T n R A L C xs:=by
 obtain ⟨h1,h2,cells,h3,h4⟩:=h;exact h3.sl h4 hn (by omega)
theorem Acc.one (ha:AppT t T n)(hlen:∀ x cs,R x cs->cs.length=n)(h:Acc wb w T n R A L C xs){cs:List Value}(hr:R x cs)(hsm:∀ v∈cs,a_v v)(h2:xs.length<16777216):
  ∃ (A':OA) (C':Nat) (w':World),(Go.builtin .append #[t,t] t #[false,false] #[.slice A L C,.slice (some (adr w.heap.size)) 1 1]).run Tryz.prog (w.alloc (.cells cs.toArray T))=.ok (.value (.slice A' (L+1) C')) w'/\
   Acc wb w' T n R A' (L+1) C' (xs++[x])/\∀ T',T'≠T->KeepT T' (w.alloc (.cells cs.toArray T)) w':=by
 obtain ⟨i,z,bytes,a1,a2,a3,a4,a5,a6,a7,a8⟩:=ha;obtain ⟨h1,hL,cells,h3,h4⟩:=h;obtain ⟨A',C',w',r,⟨cells',o',f'⟩,hx,hk⟩:=d_y t T i z n bytes a1 a2 a3 a4 a5 a6 a7 a8 h3 h1.size h4 (hlen _ _ hr) hsm hr hlen (by omega) t #[false,false];refine ⟨A',C',w',r,⟨h1.trans hx fun b hb hbl=>?_,by rw [la_,hL];rfl,cells',o',f'⟩,hk⟩;have:=(h3.base b hbl).1;omega
theorem Acc.more (ha:AppT t T n)(hlen:∀ x cs,R x cs->cs.length=n)(h:Acc wb w T n R A L C xs){a:OA}{l c:Nat}(hr:SlL w T n R a l c ys)(h2:xs.length+ys.length<=16777216):
  ∃ (A':OA) (C':Nat) (w':World),(Go.builtin .append #[t,t] t #[false,false] #[.slice A L C,.slice a l c]).run Tryz.prog w=.ok (.value (.slice A' (L+l) C')) w'/\
   Acc wb w' T n R A' (L+l) C' (xs++ys)/\∀ T',T'≠T->KeepT T' w w':=by
 obtain ⟨i,z,bytes,a1,a2,a3,a4,a5,a6,a7,a8⟩:=ha;obtain ⟨h1,hL,cells,h3,h4⟩:=h;have hl:=hr.len.1;obtain ⟨A',C',w',r,⟨cells',o',f'⟩,hx,-⟩:=c_7 t T i z n bytes a1 a2 a3 a4 a5 a6 a7 a8 h3 h1.size h4 hr hlen (by omega) t #[false,false];refine ⟨A',C',w',r,⟨h1.trans hx fun b hb hbl=>?_,by rw [la_,hL,hl],cells',o',f'⟩,fun T' hT=>h3.keepT hx hT⟩;have:=(h3.base b hbl).1;omega
theorem Acc.get (h:Acc wb w T n R A L C xs){i:Int}(h0:0<=i)(hi:i<(L:Int)):∃ (p:Addr) (x:α) (cs:List Value),A=some p/\xs[i.toNat]? =some x/\R x cs/\∀ k u,cs[k]? =some u->At w T ((p.add (i.toNat*n)).add k) u:=by
 obtain ⟨h1,h2,cells,h3,h4⟩:=h;obtain ⟨x,hx⟩:∃ x,xs[i.toNat]? =some x:=⟨_,List.getElem?_eq_getElem (by omega)⟩;obtain ⟨cs,g1,g2,g3,g4⟩:=h4.get _ x hx;have hp:∃ p,A=some p:=by
  obtain ⟨-, h|⟨g,cap,cur,e1,-⟩⟩:=h3
  ·obtain ⟨h,-⟩:=h;simp only [Value.slice.injEq] at h;omega
  ·simp only [Value.slice.injEq] at e1;exact ⟨_,e1.1⟩
 obtain ⟨p,rfl⟩:=hp;refine ⟨p,x,cs,rfl,hx,g3,fun k u hu=>?_⟩;obtain ⟨p',hp',ha⟩:=h3.at (g4 k u hu);obtain rfl:p=p':=Option.some.inj hp';rw [add_add'];exact ha
theorem KeepT.at {w w':World}{T:TypeId}(h:KeepT T w w'){a:Addr}{v:Value}(ha:At w T a v):At w' T a v:=by
 obtain ⟨cs,fr,h1,h2⟩:=ha;exact ⟨cs,fr,h _ _ _ h1,h2⟩
theorem KeepT.then {w w' w'':World}{T:TypeId}(h:KeepT T w w')(h':KeepT T w' w''):KeepT T w w'':=fun b c fr hb=>h' b c fr (h b c fr hb)
end
def RUse (w0:World)(x:List Dir × BA)(cs:List Value):Prop:=∃ (a:OA) (l c:Nat),cs=[.slice a l c,.string x.2]/\RDirs w0 a l c x.1
theorem appU:AppT 82 85 2:=⟨Tryz.t85,_,_,by kernel_rfl,by kernel_rfl,rfl,by kernel_rfl,rfl,by kernel_rfl,by omega,by decide⟩
theorem RUse.len {w0:World}(x:List Dir × BA)(cs:List Value):RUse w0 x cs->cs.length=2:=fun ⟨_,_,_,h,_⟩=>by rw [h];rfl
def p_W (k:Int):BA:=if k=0 then l_1 else if k=1 then h_9 else j_0
def spLoc (k:BA):BA:=if k=bMut then bMLoc else if k=bSub then bSLoc else bQLoc
mutual
def usS:Sel->List (List Dir × BA)
 | .mk k _ _ _ _ dirs kids=>(dirs,p_W k)::usL kids
def usL:List Sel->List (List Dir × BA)
 | []=>[]
 | s::l=>usS s++usL l
end
theorem p_3:∀ l:List Sel,usL l=l.flatMap usS
 | []=>rfl
 | s::l=>by simp [usL,p_3 l]
theorem p_N:∀ l:List Sel,(usL l).length=selL l
 | []=>rfl
 | .mk k al n on args dirs kids::l=>by
  simp only [usL,usS,selL,selS,la_,List.length_cons,p_N kids,p_N l];omega
theorem take_snoc' {α:Type}{xs:List α}{i:Int}{x:α}(h0:0<=i)(hx:xs[i.toNat]? =some x):xs.take (i+1).toNat=xs.take i.toNat++[x]:=by
 rw [show (i+1).toNat=i.toNat+1 by omega,List.take_add_one,hx];rfl
theorem q_p {α β:Type}(f:α->List β){xs:List α}{i:Int}{x:α}(h0:0<=i)(hx:xs[i.toNat]? =some x):(xs.take (i+1).toNat).flatMap f=(xs.take i.toNat).flatMap f++f x:=by
 rw [take_snoc' h0 hx,List.flatMap_append];simp
theorem q_q {α β:Type}(f:α->List β)(xs:List α)(j:Nat):((xs.take j).flatMap f).length<=(xs.flatMap f).length:=by
 have:xs.flatMap f=(xs.take j).flatMap f++(xs.drop j).flatMap f:=by rw [<- List.flatMap_append,List.take_append_drop]
 rw [this,la_];omega
theorem q_E {s:Sel}:∀ {l:List Sel},s∈l->selS s<=selL l
 | t::l,h=>by
  simp only [selL];rcases mc_.1 h with rfl|h
  ·omega
  ·have:=q_E h;omega
abbrev USof (w0:World)(xs:List Sel):Prop:=∀ (a:OA) (l c:Nat) (w:World),EF w0 w->RSels w0 a l c xs->a_z xs->selL xs<=2097152->
 CP 118 #[.slice a l c] w fun e w'=>∃ A L C,e=.returned (.slice A L C)/\Acc w w' 85 2 (RUse w0) A L C (usL xs)
theorem p_Y {a:OA}{l c:Nat}{s:BA}(h:s.size<=4194304):∀ v∈[Value.slice a l c,.string s],a_v v:=fun v hv=>by
 simp only [mc_,nn_,or_false] at hv;rcases hv with rfl|rfl
 ·rfl
 ·exact h
theorem q_n {w0:World}{xs:List Sel}(IH:∀ k al n on args dirs kids,Sel.mk k al n on args dirs kids∈xs->USof w0 kids):USof w0 xs:=by
 intro a l c w hw0 hl hok hfew;obtain ⟨e1,e3⟩:=hl.len;rw [<- p_N,p_3] at hfew;rw [p_3];refine q_J a l c w _ ⟨fun A L C i w1=>0<=i/\i<=l/\Acc w w1 85 2 (RUse w0) A L C ((xs.take i.toNat).flatMap usS),fun _ _ _ i _=>((l:Int)-i).toNat,⟨by omega,by omega,Acc.nil (Ext.refl w)⟩,?_⟩;rintro A L C i w1 ⟨h0,hi,ac⟩;refine ⟨fun hlt=>?_,fun hge=>?_⟩
 ·have hlt:=odt hlt;have x1:=hw0.then ac.1;obtain ⟨p,x,hp,hxs,cs,hc,hv⟩:=hl.get h0 hlt;have hmem:=mg_ hxs;have hokx:=b_9.1 hok x hmem;have hsn:=q_p usS h0 hxs;have hle:=q_q usS xs (i+1).toNat;have hsel:=q_E hmem;rw [<- p_N xs,p_3] at hsel;obtain ⟨k,al,n,on,args,dirs,kids⟩:=x;have IHk:=IH k al n on args dirs kids hmem;obtain ⟨a1,l1,c1,a2,l2,c2,a3,l3,c3,rfl,hv1,hv2,hv3⟩:=c_w.1 hv;obtain ⟨⟨_,_,hc0⟩,hs0,⟨_,_,hc1⟩,hs1,⟨_,_,hc2⟩,hs2,⟨_,_,hc3⟩,hs3,⟨_,_,hc4⟩,hs4,⟨_,_,hc5⟩,hs5,⟨_,_,hc6⟩,-⟩:=hc;simp only [okSel] at hokx;obtain ⟨hk,-, -, hkids,-⟩:=hokx;simp only [selS] at hsel;rw [hsn,show usS (.mk k al n on args dirs kids)=(dirs,p_W k)::usL kids by simp only [usS],la_,List.length_cons,p_N] at hle;refine ⟨p,hp,⟨h0,hlt⟩,_,x1.cell hc0 id,_,x1.cell hc1 id,_,x1.cell hc2 id,_,x1.cell hc3 id,_,_,_,x1.cell hc4 id,_,_,_,x1.cell hc5 id,_,_,_,x1.cell hc6 id,trivial,trivial,fun w17 e17=>⟨trivial,?_⟩⟩;have hx17:EF w1 w17:=by rw [e17];exact ((Ext.refl w1).alloc _).drew
  have B18:=Blk.made w17 9 [.string l_1,.string h_9,.string j_0];have hx18:EF w17 (w17.alloc (.cells #[.string l_1,.string h_9,.string j_0] 9)):=(Ext.refl w17).alloc _;have hs:(p_W k).size<=4194304:=by rcases hk with rfl|rfl|rfl<;>exact Nat.le_of_ble_eq_true rfl
  have hsc:(w17.alloc (.cells #[.string l_1,.string h_9,.string j_0] 9)).cell? ((adr w17.heap.size).add (k.toNat*1))=some (.string (p_W k)):=by
   rcases hk with rfl|rfl|rfl
   ·exact (B18.at (j:=0) rfl).cell
   ·exact (B18.at (j:=1) rfl).cell
   ·exact (B18.at (j:=2) rfl).cell
  refine ⟨⟨rfl,rfl,trivial⟩,_,rfl,⟨by omega,by omega⟩,p_W k,hsc,trivial,trivial,trivial,?_⟩;obtain ⟨A2,C2,w23,r23,ac23,k23⟩:=((ac.step hx17).step hx18).one appU RUse.len (x:=(dirs,p_W k)) (cs:=[.slice a2 l2 c2,.string (p_W k)]) ⟨a2,l2,c2,rfl,hv2⟩ (p_Y hs) (by omega);refine ⟨A2,L+1,C2,w23,r23,⟨k23 _ (by decide),trivial⟩,trivial,trivial,?_⟩;refine (IHk a3 l3 c3 w23 (hw0.then ac23.1) hv3 hkids (by omega)).mono ?_;rintro _ w25 ⟨A3,L3,C3,rfl,ac25⟩;have hlk:=p_N kids;obtain ⟨A4,C4,w28,r28,ac28,k28⟩:=(ac23.step ac25.1).more appU RUse.len (ac25.sl (by omega) (by omega)) (by rw [la_,List.length_cons,List.length_nil];omega);refine ⟨A3,L3,C3,rfl,⟨ac25.1.keepT _,trivial⟩,A4,L+1+L3,C4,w28,r28,⟨k28 _ (by decide),trivial⟩,?_⟩;rw [a_a h0 (by omega)];refine next h0 hlt ?_
  rw [hsn,show usS (.mk k al n on args dirs kids)=[(dirs,p_W k)]++usL kids by simp only [usS];rfl,<- List.append_assoc];exact ac28
 ·have hle:=odf hge;rw [tl_ (by omega)] at ac;exact ⟨A,L,C,rfl,ac⟩
theorem p_1 {w0:World}:∀ (d:Nat) (xs:List Sel),SizeOf.sizeOf xs<d->USof w0 xs
 | 0,_,h=>by omega
 | d+1,xs,h=>q_n fun k al n on args dirs kids hm=>p_1 d kids (by
   have:=List.sizeOf_lt_of_mem hm;simp only [Sel.mk.sizeOf_spec] at this;omega)
theorem q_v (w0:World)(xs:List Sel):USof w0 xs:=p_1 _ xs (Nat.lt_succ_self _)
theorem q_A (s:BA)(w:World):CP 117 #[.string s] w fun e w'=>e=.returned (.string (spLoc s))/\w'=w:=by
 refine q_C s w _ ⟨fun h=>⟨?_,rfl⟩,fun h=>⟨fun h'=>⟨?_,rfl⟩,fun h'=>⟨?_,rfl⟩⟩⟩
 ·rw [spLoc,if_pos (a_b.1 h)]
 ·rw [spLoc,if_neg (a_f.1 h),if_pos (a_b.1 h')]
 ·rw [spLoc,if_neg (a_f.1 h),if_neg (a_f.1 h')]
theorem q_t (s:BA):(spLoc s).size<=4194304:=by
 unfold spLoc;split
 ·exact Nat.le_of_ble_eq_true rfl
 ·split<;>exact Nat.le_of_ble_eq_true rfl
def usO (x:OpD):List (List Dir × BA):=[(x.dirs,spLoc x.kind)]++(x.vars.map fun v=>(v.dirs,d_Y))++usL x.kids
def usF (x:Frag):List (List Dir × BA):=[(x.dirs,d_z)]++usL x.kids
def usesD (ops:List OpD)(frags:List Frag):List (List Dir × BA):=ops.flatMap usO++frags.flatMap usF
theorem q_O {α β:Type}{f:α->List β}{g:α->Nat}:∀ {l:List α},(∀ x∈l,(f x).length<=g x)->(l.flatMap f).length<=(l.map g).sum
 | [],_=>by simp
 | x::l,h=>by
  have h1:=h x (by simp);have h2:=q_O (l:=l) (f:=f) (g:=g) fun y hy=>h y (by simp [hy]);simp only [List.flatMap_cons,la_,List.map_cons,List.sum_cons];omega
theorem q_R (x:OpD):(usO x).length<=opW x:=by
 have h1:=l_h x.kids;have h2:x.vars.length<=varsW x.vars:=f_I fun y _=>by simp only [varW];omega
 simp only [usO,opW,la_,List.length_cons,List.length_nil,List.length_map,p_N];omega
theorem q_Q (x:Frag):(usF x).length<=fragW x:=by
 have h1:=l_h x.kids;simp only [usF,fragW,la_,List.length_cons,List.length_nil,p_N];omega
theorem q_z (ops:List OpD)(frags:List Frag):(usesD ops frags).length<=docW ops frags:=by
 have h1:=q_O (l:=ops) fun x _=>q_R x;have h2:=q_O (l:=frags) fun x _=>q_Q x;simp only [usesD,docW,la_];omega
theorem q_Z {w0 w:World}{a:OA}{l c:Nat}{a':OA}{l' c':Nat}{ops:List OpD}{frags:List Frag}(hw0:EF w0 w)(hl:ROps w0 a l c ops)(hl':a_X w0 a' l' c' frags)(ok1:∀ x∈ops,okOp x)(ok2:∀ x∈frags,b_j x)(hs:docW ops frags<=2097152):
  CP 53 #[.agg #[.slice a l c,.slice a' l' c']] w fun e w'=>∃ A L C,e=.returned (.slice A L C)/\Acc w w' 85 2 (RUse w0) A L C (usesD ops frags):=by
 obtain ⟨e1,e3⟩:=hl.len;obtain ⟨e1',e3'⟩:=hl'.len;have hul:=lt_ (q_z ops frags) hs;have hsel:=lt_ (q_K ops frags) hs;unfold e_O at hsel;have hs1:∀ x∈ops,selL x.kids<=2097152:=fun x hx=>by
  have:=q_e (fun x:OpD=>selL x.kids) hx;omega
 have hs2:∀ x∈frags,selL x.kids<=2097152:=fun x hx=>by
  have:=q_e (fun x:Frag=>selL x.kids) hx;omega
 simp only [usesD,la_] at hul;have hx0:=(Ext.refl (X:=fun _=>False) w).alloc (.cells #[.slice a l c,.slice a' l' c'] 30);refine q_1 a l c a' l' c' w _ ⟨trivial,?_⟩;refine ⟨fun A L C i w1=>0<=i/\i<=l/\Acc w w1 85 2 (RUse w0) A L C ((ops.take i.toNat).flatMap usO),fun _ _ _ i _=>((l:Int)-i).toNat,⟨by omega,by omega,Acc.nil hx0⟩,?_⟩;rintro A L C i w1 ⟨h0,hi,ac⟩;refine ⟨fun hlt=>?_,fun hge=>?_⟩
 ·have hlt:=odt hlt;have x1:=hw0.then ac.1;obtain ⟨p,x,hp,hxs,cs,hc,a1,l1,c1,a2,l2,c2,a3,l3,c3,rfl,hv1,hv2,hv3⟩:=hl.get h0 hlt;obtain ⟨⟨_,_,hc0⟩,hs0,⟨_,_,hc1⟩,hs1',⟨_,_,hc2⟩,hs2',⟨_,_,hc3⟩,hs3,⟨_,_,hc4⟩,-⟩:=hc;have hmem:=mg_ hxs;have hsn:=q_p usO h0 hxs;have hle:=q_q usO ops (i+1).toNat;have hkl:=hs1 x hmem;obtain ⟨d1,d3⟩:=hv1.len;rw [hsn] at hle;simp only [usO,la_,List.length_cons,List.length_nil,List.length_map,p_N] at hle;refine ⟨p,hp,⟨h0,hlt⟩,_,x1.cell hc0 id,_,x1.cell hc1 id,_,_,_,x1.cell hc2 id,_,_,_,x1.cell hc3 id,_,_,_,x1.cell hc4 id,trivial,trivial,fun w17 e17=>?_⟩;have hx17:EF w1 w17:=by rw [e17];exact ((Ext.refl w1).alloc _).drew
  refine (q_A x.kind w17).mono ?_;rintro _ w19 ⟨rfl,rfl⟩;obtain ⟨A2,C2,w23,r23,ac23,k23⟩:=(ac.step hx17).one appU RUse.len (x:=(x.dirs,spLoc x.kind)) (cs:=[.slice a2 l2 c2,.string (spLoc x.kind)]) ⟨a2,l2,c2,rfl,hv2⟩ (p_Y (q_t _)) (by omega);refine ⟨_,rfl,⟨(Ext.refl _).keepT _,(Ext.refl _).keepT _,trivial⟩,⟨rfl,trivial⟩,trivial,trivial,trivial,A2,L+1,C2,w23,r23,⟨k23 _ (by decide),k23 _ (by decide),trivial⟩,trivial,trivial,?_⟩;refine ⟨fun A L C j w2=>0<=j/\j<=l1/\Acc w w2 85 2 (RUse w0) A L C ((ops.take i.toNat).flatMap usO++[(x.dirs,spLoc x.kind)]++(x.vars.take j.toNat).map fun v=>(v.dirs,d_Y)),fun _ _ _ j _=>((l1:Int)-j).toNat,⟨by omega,by omega,by simpa using ac23⟩,?_⟩;rintro A3 L3 C3 j w2 ⟨j0,hj,ac2⟩;refine ⟨fun hjl=>?_,fun hjg=>?_⟩
  ·have hjl:=odt hjl;have x2:=hw0.then ac2.1;obtain ⟨p2,y,hp2,hys,cs2,hc',n,b1,m1,g1,nn,b2,m2,g2,b3,m3,g3,rfl,hw1,hw2,hw3⟩:=hv1.get j0 hjl;obtain ⟨⟨_,_,hd0⟩,hz0,⟨_,_,hd1⟩,hz1,⟨_,_,hd2⟩,hz2,⟨_,_,hd3⟩,hz3,⟨_,_,hd4⟩,hz4,⟨_,_,hd5⟩,-⟩:=hc';have hy37:EF w2 (w2.alloc (.cells #[.string y.name,.string n,.slice b1 m1 g1,.bool nn,.slice b2 m2 g2,.slice b3 m3 g3] 66)):=(Ext.refl w2).alloc _;obtain ⟨A4,C4,w40,r40,ac40,k40⟩:=(ac2.step hy37).one appU RUse.len (x:=(y.dirs,d_Y)) (cs:=[.slice b3 m3 g3,.string d_Y]) ⟨b3,m3,g3,rfl,hw3⟩ (p_Y (by decide)) (by
    simp only [la_,List.length_cons,List.length_nil,List.length_map,List.length_take];omega)
   refine ⟨p2,hp2,⟨j0,hjl⟩,_,x2.cell hd0 id,_,x2.cell hd1 id,_,_,_,x2.cell hd2 id,_,x2.cell hd3 id,_,_,_,x2.cell hd4 id,_,_,_,x2.cell hd5 id,trivial,trivial,trivial,trivial,A4,L3+1,C4,w40,r40,⟨k40 _ (by decide),k40 _ (by decide),k40 _ (by decide),trivial⟩,?_⟩;rw [a_a j0 (by omega)];refine next j0 hjl ?_
   rw [take_snoc' j0 hys,List.map_append,<- List.append_assoc];exact ac40
  ·have hje:=odf hjg;rw [tl_ (l:=x.vars) (by omega)] at ac2;refine (q_v w0 x.kids a3 l3 c3 w2 (hw0.then ac2.1) hv3 (ok1 x hmem).2.2.2 hkl).mono ?_;rintro _ w42 ⟨A5,L5,C5,rfl,ac42⟩;have hlk:=p_N x.kids;obtain ⟨A6,C6,w45,r45,ac45,k45⟩:=(ac2.step ac42.1).more appU RUse.len (ac42.sl (by omega) (by omega)) (by
    simp only [la_,List.length_cons,List.length_nil,List.length_map,p_N];omega)
   refine ⟨A5,L5,C5,rfl,⟨ac42.1.keepT _,ac42.1.keepT _,trivial⟩,A6,L3+L5,C6,w45,r45,⟨k45 _ (by decide),k45 _ (by decide),trivial⟩,?_⟩;rw [a_a h0 (by omega)];refine next h0 hlt ?_
   rw [hsn];simpa only [usO,List.append_assoc] using ac45
 ·have hle:=odf hge;rw [tl_ (by omega)] at ac;refine ⟨fun A L C i w1=>0<=i/\i<=l'/\Acc w w1 85 2 (RUse w0) A L C (ops.flatMap usO++(frags.take i.toNat).flatMap usF),fun _ _ _ i _=>((l':Int)-i).toNat,⟨by omega,by omega,by simpa using ac⟩,?_⟩;clear ac hle hge h0 hi;rintro A L C i w1 ⟨h0,hi,ac⟩;refine ⟨fun hlt=>?_,fun hge=>?_⟩
  ·have hlt:=odt hlt;have x1:=hw0.then ac.1;obtain ⟨p,x,hp,hxs,cs,hc,a2,l2,c2,a3,l3,c3,rfl,hv2,hv3⟩:=hl'.get h0 hlt;obtain ⟨⟨_,_,hc0⟩,hs0,⟨_,_,hc1⟩,hs1',⟨_,_,hc2⟩,hs2',⟨_,_,hc3⟩,-⟩:=hc;have hmem:=mg_ hxs;have hsn:=q_p usF h0 hxs;have hle:=q_q usF frags (i+1).toNat;have hkl:=hs2 x hmem;rw [hsn] at hle;simp only [usF,la_,List.length_cons,List.length_nil,p_N] at hle;have hx57:EF w1 (w1.alloc (.cells #[.string x.name,.string x.on,.slice a2 l2 c2,.slice a3 l3 c3] 70)):=(Ext.refl w1).alloc _;obtain ⟨A2,C2,w60,r60,ac60,k60⟩:=(ac.step hx57).one appU RUse.len (x:=(x.dirs,d_z)) (cs:=[.slice a2 l2 c2,.string d_z]) ⟨a2,l2,c2,rfl,hv2⟩ (p_Y (by decide)) (by
    simp only [la_,usF];omega)
   refine ⟨p,hp,⟨h0,hlt⟩,_,x1.cell hc0 id,_,x1.cell hc1 id,_,_,_,x1.cell hc2 id,_,_,_,x1.cell hc3 id,trivial,trivial,trivial,trivial,A2,L+1,C2,w60,r60,⟨k60 _ (by decide),k60 _ (by decide),trivial⟩,?_⟩;refine (q_v w0 x.kids a3 l3 c3 w60 (hw0.then ac60.1) hv3 (ok2 x hmem).2.1 hkl).mono ?_;rintro _ w62 ⟨A5,L5,C5,rfl,ac62⟩;have hlk:=p_N x.kids;obtain ⟨A6,C6,w65,r65,ac65,k65⟩:=(ac60.step ac62.1).more appU RUse.len (ac62.sl (by omega) (by omega)) (by
    simp only [la_,List.length_cons,List.length_nil,p_N,usF];omega)
   refine ⟨A5,L5,C5,rfl,⟨ac62.1.keepT _,ac62.1.keepT _,trivial⟩,A6,L+1+L5,C6,w65,r65,⟨k65 _ (by decide),k65 _ (by decide),trivial⟩,?_⟩;rw [a_a h0 (by omega)];refine next h0 hlt ?_
   rw [hsn];simpa only [usF,List.append_assoc] using ac65
  ·have hle:=odf hge;rw [tl_ (by omega)] at ac;exact ⟨A,L,C,rfl,ac⟩
def hidD (s:BA):Prop:=2<=s.size/\s.extract 0 2=⟨#[95,95]⟩/\s≠bTn
theorem u_7 (s:BA)(w:World):CP 44 #[.string s] w (RetB w fun b=>b=true↔hidD s):=by
 have hx:=Ext.refl (X:=fun _=>False) w;refine n_y s w _ fun K hK=>?_;have key:∀ b,(b=true↔hidD s)->K b w:=fun b h=>hK b w ⟨b,rfl,hx,h⟩;refine ⟨fun h2=>⟨⟨by omega,by omega,by simpa using h2⟩,fun he=>key _ ?_,fun hne=>key _ ?_⟩,fun h2=>key _ ?_⟩
 ·have h2:=odt h2;constructor
  ·intro h;exact ⟨by omega,a_b.1 he,a_f.1 (by simpa using h)⟩
  ·rintro ⟨-, -, h⟩;rw [a_f.2 h];rfl
 ·exact ⟨nofun,fun h=>absurd h.2.1 (a_f.1 hne)⟩
 ·have h2:=odf h2;exact ⟨nofun,fun h=>absurd h.1 (by omega)⟩
mutual
def nhS:Sel->Prop
 | .mk _ _ n _ _ _ kids=>¬ hidD n/\nhL kids
def nhL:List Sel->Prop
 | []=>True
 | x::l=>nhS x/\nhL l
end
theorem v_J:∀ {l:List Sel},nhL l↔∀ x∈l,nhS x
 | []=>by simp [nhL]
 | x::l=>by simp [nhL,v_J (l:=l)]
theorem v_l {xs:List Sel}(IH:∀ y∈xs,∀ (kids:List Sel),SizeOf.sizeOf kids<SizeOf.sizeOf y->∀ (a:OA) (l c:Nat) (w:World),RSels w a l c kids->CP 43 #[.slice a l c] w (RetB w fun b=>b=false->nhL kids))
  {a:OA} {l c:Nat} {w:World} (hl:RSels w a l c xs):CP 43 #[.slice a l c] w (RetB w fun b=>b=false->nhL xs):=by
 obtain ⟨e1,e3⟩:=hl.len;refine k_s a l c w _ ⟨fun i w1=>0<=i/\i<=l/\EF w w1/\∀ x∈xs.take i.toNat,nhS x,fun i _=>((l:Int)-i).toNat,⟨by omega,by omega,Ext.refl w,by simp⟩,?_⟩;rintro i w1 ⟨h0,h1,hx,hn⟩;refine ⟨fun hlt=>?_,fun hge=>⟨_,rfl,hx,fun _=>?_⟩⟩
 ·have hlt:=odt hlt;obtain ⟨p,x,hp,hxs,cs,hc,hv⟩:=hl.get h0 hlt;have hxm:=IH x (mg_ hxs);obtain ⟨k,al,n,on,args,dirs,kids⟩:=x;obtain ⟨a1,l1,c1,a2,l2,c2,a3,l3,c3,rfl,hv1,hv2,hv3⟩:=c_w.1 hv;obtain ⟨⟨_,_,hc0⟩,hs0,⟨_,_,hc1⟩,hs1,⟨_,_,hc2⟩,hs2,⟨_,_,hc3⟩,hs3,⟨_,_,hc4⟩,hs4,⟨_,_,hc5⟩,hs5,⟨_,_,hc6⟩,-⟩:=hc;refine ⟨p,hp,⟨h0,hlt⟩,_,hx.cell hc0 id,_,hx.cell hc1 id,_,hx.cell hc2 id,_,hx.cell hc3 id,_,_,_,hx.cell hc4 id,_,_,_,hx.cell hc5 id,_,_,_,hx.cell hc6 id,trivial,trivial,fun K hK=>?_⟩;have hx':=hx.alloc (.cells #[.int .i64 k,.string al,.string n,.string on,.slice a1 l1 c1,.slice a2 l2 c2,.slice a3 l3 c3] 78);have key:∀ b w',EF w w'->(b=false->nhS (.mk k al n on args dirs kids))->K b w':=fun b w' hx' hb=>hK b w' ⟨fun _=>⟨true,rfl,hx',nofun⟩,fun h=>by
   rw [a_a h0 (by omega)];refine next h0 hlt ⟨hx',?_⟩
   rw [show (i+1).toNat=i.toNat+1 by omega,List.take_add_one,hxs];intro y hy;rcases ma_.1 hy with hy|hy
   ·exact hn y hy
   ·obtain rfl:y=.mk k al n on args dirs kids:=by simpa using hy
    exact hb h⟩
  refine (u_7 n _).mono ?_;rintro _ w20 ⟨b21,rfl,x20,h21⟩;have y20:=hx'.then x20;refine ⟨b21,rfl,⟨x20.keepT _,trivial⟩,fun hb1=>?_,fun hb1=>key true w20 y20 nofun⟩;refine (u_7 al w20).mono ?_;rintro _ w23 ⟨b24,rfl,x23,-⟩;have y23:=y20.then x23;refine ⟨b24,rfl,⟨x23.keepT _,trivial⟩,fun hb2=>?_,fun hb2=>key true w23 y23 nofun⟩;refine (u_7 on w23).mono ?_;rintro _ w26 ⟨b27,rfl,x26,-⟩;have y26:=y23.then x26;refine ⟨b27,rfl,⟨x26.keepT _,trivial⟩,fun hb3=>?_,fun hb3=>key true w26 y26 nofun⟩;refine (hxm kids (by simp only [Sel.mk.sizeOf_spec];omega) a3 l3 c3 w26 (hv3.keep y26.keep)).mono ?_;rintro _ w29 ⟨b30,rfl,x29,h30⟩;exact ⟨b30,rfl,⟨x29.keepT _,trivial⟩,key b30 w29 (y26.then x29) fun h=>⟨fun k=>(by rw [h21.2 k] at hb1;cases hb1),h30 h⟩⟩
 ·have hge:=odf hge;rw [tl_ (by omega)] at hn;exact v_J.2 hn
theorem v_e:∀ (d:Nat) (xs:List Sel),SizeOf.sizeOf xs<d->∀ (a:OA) (l c:Nat) (w:World),RSels w a l c xs->CP 43 #[.slice a l c] w (RetB w fun b=>b=false->nhL xs):=by
 intro d;induction d with
 | zero=>intro xs h;omega
 | succ d ih=>
  intro xs h a l c w hl;refine v_l (fun y hy kids hlt a l c w hk=>ih kids ?_ a l c w hk) hl;have:=List.sizeOf_lt_of_mem hy;omega
theorem v_b {xs:List Sel}{a:OA}{l c:Nat}{w:World}(hl:RSels w a l c xs):CP 43 #[.slice a l c] w (RetB w fun b=>b=false->nhL xs):=
 v_e _ xs (Nat.lt_succ_self _) a l c w hl
theorem v_M {a:OA}{l c:Nat}{a':OA}{l' c':Nat}{ops:List OpD}{frags:List Frag}{w:World}(hl:ROps w a l c ops)(hl':a_X w a' l' c' frags):
  CP 11 #[.agg #[.slice a l c,.slice a' l' c']] w (RetB w fun b=>b=true->ops.length<=12/\frags.length<=12/\(∀ x∈ops,okOp x)/\(∀ x∈frags,b_j x)/\(∀ x∈ops,nhL x.kids)/\∀ x∈frags,nhL x.kids):=by
 obtain ⟨e1,e3⟩:=hl.len;obtain ⟨e1',e3'⟩:=hl'.len;have hx0:=(Ext.refl (X:=fun _=>False) w).alloc (.cells #[.slice a l c,.slice a' l' c'] 30);refine o_w a l c a' l' c' w _ ⟨trivial,fun K hK=>?_⟩;have key:∀ b w',EF w w'->(b=false->ops.length<=12/\frags.length<=12/\(∀ x∈ops,okOp x)/\∀ x∈frags,b_j x)->K b w':=by
  intro b w' hx' hy;refine hK b w' ⟨fun _=>⟨false,rfl,hx',nofun⟩,fun hb=>?_⟩;have hy:=hy hb;refine ⟨fun _ i w1=>0<=i/\i<=l/\EF w w1/\∀ x∈ops.take i.toNat,nhL x.kids,fun _ i _=>((l:Int)-i).toNat,⟨by omega,by omega,hx',by simp⟩,?_⟩;rintro m i w1 ⟨h0,h1,hx,hn⟩;refine ⟨fun hlt=>?_,fun hge=>?_⟩
  ·have hlt:=odt hlt;obtain ⟨p,x,hp,hxs,cs,hc,a1,l1,c1,a2,l2,c2,a3,l3,c3,rfl,hv1,hv2,hv3⟩:=hl.get h0 hlt;obtain ⟨⟨_,_,hc0⟩,hs0,⟨_,_,hc1⟩,hs1,⟨_,_,hc2⟩,hs2,⟨_,_,hc3⟩,hs3,⟨_,_,hc4⟩,-⟩:=hc;refine ⟨p,hp,⟨h0,hlt⟩,_,hx.cell hc0 id,_,hx.cell hc1 id,_,_,_,hx.cell hc2 id,_,_,_,hx.cell hc3 id,_,_,_,hx.cell hc4 id,trivial,trivial,?_⟩;have hx':=hx.alloc (.cells #[.string x.kind,.string x.name,.slice a1 l1 c1,.slice a2 l2 c2,.slice a3 l3 c3] 58);refine (n_S (hv3.keep hx'.keep)).mono ?_;rintro _ w2 ⟨n,rfl,hx2⟩;have hw2:=hx'.then hx2;refine ⟨n,rfl,by simp [hx2.keepT],?_⟩;refine (RetB.base (v_b (hv3.keep hw2.keep)) hw2).mono ?_;rintro _ w3 ⟨b,rfl,hk,hx3,hb3⟩;refine ⟨b,rfl,by simp [hk],fun _=>⟨false,rfl,hx3,nofun⟩,fun hbf=>?_⟩;have hno:=hb3 hbf;obtain ⟨f1,f3⟩:=hv1.len;refine ⟨fun k w1=>0<=k/\k<=l1/\EF w w1,fun k _=>((l1:Int)-k).toNat,⟨by omega,by omega,hx3⟩,?_⟩;rintro k w4 ⟨k0,k1,kx⟩;refine ⟨fun klt=>?_,fun kge=>?_⟩
   ·have klt:=odt klt;obtain ⟨p,y,hp,hys,cs,hc,n,b1,m1,d1,nn,b2,m2,d2,b3,m3,d3,rfl,hu1,hu2,hu3⟩:=hv1.get k0 klt;obtain ⟨⟨_,_,gc0⟩,gs0,⟨_,_,gc1⟩,gs1,⟨_,_,gc2⟩,gs2,⟨_,_,gc3⟩,gs3,⟨_,_,gc4⟩,gs4,⟨_,_,gc5⟩,-⟩:=hc;refine ⟨p,hp,⟨k0,klt⟩,_,kx.cell gc0 id,_,kx.cell gc1 id,_,_,_,kx.cell gc2 id,_,kx.cell gc3 id,_,_,_,kx.cell gc4 id,_,_,_,kx.cell gc5 id,trivial,trivial,?_⟩;have kx':=kx.alloc (.cells #[.string y.name,.string n,.slice b1 m1 d1,.bool nn,.slice b2 m2 d2,.slice b3 m3 d3] 66);refine (k_R gs1 (hu1.keep kx'.keep)).mono ?_;rintro _ w5 ⟨rfl,-, hx5⟩;have hw5:=kx'.then hx5;refine ⟨_,rfl,by simp [hx5.keepT],?_⟩;refine (RetB.base (i_e _ w5) hw5).mono ?_;rintro _ w6 ⟨b,rfl,hk,hx6,-⟩;refine ⟨b,rfl,by simp [hk],fun _=>⟨false,rfl,hx6,nofun⟩,fun _=>?_⟩;rw [a_a k0 (by omega)];exact next k0 klt hx6
   ·rw [a_a h0 (by omega)];refine next h0 hlt ⟨kx,?_⟩
    rw [show (i+1).toNat=i.toNat+1 by omega,List.take_add_one,hxs];intro y hy;rcases ma_.1 hy with hy|hy
    ·exact hn y hy
    ·obtain rfl:y=x:=by simpa using hy
     exact hno
  ·have hge:=odf hge;rw [tl_ (by omega)] at hn;refine ⟨fun _ i w1=>0<=i/\i<=l'/\EF w w1/\∀ x∈frags.take i.toNat,nhL x.kids,fun _ i _=>((l':Int)-i).toNat,⟨by omega,by omega,hx,by simp⟩,?_⟩;rintro m i w1 ⟨h0,h1,hx,hm⟩;refine ⟨fun hlt=>?_,fun hge=>⟨_,rfl,hx,fun _=>⟨hy.1,hy.2.1,hy.2.2.1,hy.2.2.2,hn,by
    have hge:=odf hge;rw [tl_ (by omega)] at hm;exact hm⟩⟩⟩
   have hlt:=odt hlt;obtain ⟨p,x,hp,hxs,cs,hc,a2,l2,c2,a3,l3,c3,rfl,hv2,hv3⟩:=hl'.get h0 hlt;obtain ⟨⟨_,_,hc0⟩,hs0,⟨_,_,hc1⟩,hs1,⟨_,_,hc2⟩,hs2,⟨_,_,hc3⟩,-⟩:=hc;refine ⟨p,hp,⟨h0,hlt⟩,_,hx.cell hc0 id,_,hx.cell hc1 id,_,_,_,hx.cell hc2 id,_,_,_,hx.cell hc3 id,trivial,trivial,?_⟩;have hx':=hx.alloc (.cells #[.string x.name,.string x.on,.slice a2 l2 c2,.slice a3 l3 c3] 70);refine (n_S (hv3.keep hx'.keep)).mono ?_;rintro _ w2 ⟨n,rfl,hx2⟩;have hw2:=hx'.then hx2;refine ⟨n,rfl,by simp [hx2.keepT],fun K2 hK2=>?_⟩;have key2:∀ b w',EF w w'->(b=false->nhL x.kids)->K2 b w':=fun b w' hx' hb=>hK2 b w' ⟨fun _=>⟨false,rfl,hx',nofun⟩,fun h=>by
    rw [a_a h0 (by omega)];refine next h0 hlt ⟨hx',?_⟩
    rw [show (i+1).toNat=i.toNat+1 by omega,List.take_add_one,hxs];intro y hy;rcases ma_.1 hy with hy|hy
    ·exact hm y hy
    ·obtain rfl:y=x:=by simpa using hy
     exact hb h⟩
   refine (RetB.base (v_b (hv3.keep hw2.keep)) hw2).mono ?_;rintro _ w3 ⟨b3,rfl,hk3,hx3,hb3⟩;refine ⟨b3,rfl,by simp [hk3],fun hbf=>?_,fun _=>key2 true w3 hx3 nofun⟩;refine (RetB.base (u_7 _ w3) hx3).mono ?_;rintro _ w4 ⟨b4,rfl,hk4,hx4,-⟩;refine ⟨b4,rfl,by simp [hk4],fun _=>?_,fun _=>key2 true w4 hx4 nofun⟩;refine (RetB.base (u_7 _ w4) hx4).mono ?_;rintro _ w5 ⟨b5,rfl,hk5,hx5,-⟩;exact ⟨b5,rfl,by simp [hk5],key2 b5 w5 hx5 fun _=>hb3 hbf⟩
 refine (RetB.base (j_1 6 (hl.keep hx0.keep) (hl'.keep hx0.keep)) hx0).mono ?_;rintro _ w2 ⟨b,rfl,hk,hx,hb⟩;refine ⟨b,rfl,by simp [hk],?_⟩;have q12:decide ((l:Int)>12)=false->ops.length<=12:=fun h=>by have:=odf h;omega
 have q12':decide ((l':Int)>12)=false->frags.length<=12:=fun h=>by have:=odf h;omega
 refine ⟨fun hb'=>⟨fun h1=>key _ _ hx fun h2=>?_,fun _=>key _ _ hx tf⟩,fun _=>key _ _ hx tf⟩;exact ⟨q12 h1,q12' h2,hb (by simpa using hb')⟩
def u_W:Sel->BA
 | .mk _ al n _ _ _ _=>if al=E0 then n else al
def nameD:Sel->BA
 | .mk _ _ n _ _ _ _=>n
 noncomputable def topO (frags:List Frag) (x:OpD):List Sel:=(topD frags (topM frags x.kids []+1) x.kids []).1
def bareD (ops:List OpD)(frags:List Frag):Prop:=∀ x∈ops,x.kind=bSub->∀ s∈topO frags x,nameD s≠bTn/\u_W s=nameD s
open Classical in
 noncomputable def addN (l:List BA) (n:BA):List BA:=if n∈l then l else l++[n]
 noncomputable def uniqN (l:List BA):List BA:=l.foldl addN []
theorem v_r (l:List BA)(n:BA):uniqN (l++[n])=addN (uniqN l) n:=by simp [uniqN]
theorem v_q {l:List BA}{k:BA}:k∈uniqN l↔k∈l:=by
 have h:∀ (l a:List BA),k∈l.foldl addN a↔k∈a∨k∈l:=by
  intro l;induction l with
  | nil=>intro a;simp
  | cons x l ih=>
   intro a;rw [List.foldl_cons,ih,addN];split
   ·rename_i hx;simp only [mc_];constructor
    ·rintro (h|h)
     ·exact .inl h
     ·exact .inr (.inr h)
    ·rintro (h|rfl|h)
     ·exact .inl h
     ·exact .inl hx
     ·exact .inr h
   ·simp only [ma_,mc_,nn_,or_false,or_assoc]
 simpa [uniqN] using h l []
theorem v_p (l:List BA):(uniqN l).length<=l.length:=by
 have h:∀ (l a:List BA),(l.foldl addN a).length<=a.length+l.length:=by
  intro l;induction l with
  | nil=>intro a;simp
  | cons x l ih=>
   intro a;have h1:=ih (addN a x);have h2:(addN a x).length<=a.length+1:=by
    unfold addN;split
    ·omega
    ·simp
   rw [List.foldl_cons,List.length_cons];omega
 simpa [uniqN] using h l []
def manyD (ops:List OpD)(frags:List Frag):Prop:=∃ x∈ops,x.kind=bSub/\1<(uniqN ((topO frags x).map u_W)).length
theorem v_k {ops:List OpD}{frags:List Frag}(hs:docW ops frags<=2097152){x:OpD}(hx:x∈ops):selL x.kids+([]:List BA).length+topP frags []<=4194304:=by
 have h1:=v_U ops frags;have h2:=q_e opW hx;have h3:=l_h x.kids;have h4:selsW x.kids<=opW x:=by simp only [opW];omega
 unfold docW at hs;simp only [List.length_nil];omega
theorem v_t {ops:List OpD}{frags:List Frag}(hs:docW ops frags<=2097152){x:OpD}(hx:x∈ops):(topO frags x).length<=4194304:=by
 have h1:=v_k hs hx;have h2:=u_6 (fr:=frags) (topM frags x.kids []+1) x.kids [];unfold topO;omega
theorem v_I (k:Int)(al n on:BA)(A1:OA)(L1 C1:Nat)(A2:OA)(L2 C2:Nat)(A3:OA)(L3 C3:Nat)(w:World):CP 52 #[.agg #[.int .i64 k,.string al,.string n,.string on,.slice A1 L1 C1,.slice A2 L2 C2,.slice A3 L3 C3]] w fun e w'=>e=.returned (.string (if al=E0 then n else al))/\EF w w':=by
 refine v_Q k al n on A1 L1 C1 A2 L2 C2 A3 L3 C3 w _ ⟨trivial,fun h=>?_,fun h=>?_⟩
 ·exact ⟨by rw [if_pos (a_b.1 h)],(Ext.refl w).alloc _⟩
 ·exact ⟨by rw [if_neg (a_f.1 h)],(Ext.refl w).alloc _⟩
theorem l_U {w:World}{a:OA}{l c:Nat}{roots:List RootD}(h:b_w w a l c roots)(op:BA):(rootD roots op).size<=4194304:=by
 unfold rootD;cases hf:roots.find? fun r=>r.op.toList==op.toList with
 | none=>show (E0:BA).size<=4194304;decide
 | some r=>
  obtain ⟨i,hi⟩:=List.mem_iff_getElem?.1 (List.mem_of_find?_eq_some hf);obtain ⟨p,hp,cs,hc,hr⟩:=h.2.2.2 i r hi;obtain rfl:cs=[.string r.op,.string r.t]:=hr;exact (hc.get 1 _ rfl).2
theorem RPk.sel {x:Sel}{cs:List Value}(h:RPk x cs):∃ (k:Int) (on:BA) (al:BA) (A1:OA) (L1 C1:Nat) (A2:OA) (L2 C2:Nat) (A3:OA) (L3 C3:Nat) (u:BA),cs=[.int .i64 k,.string al,.string (nameD x),.string on,.slice A1 L1 C1,.slice A2 L2 C2,.slice A3 L3 C3,.string u]/\u_W x=if al=E0 then nameD x else al:=by
 obtain ⟨k,al,n,on,args,dirs,kids⟩:=x;obtain ⟨A1,L1,C1,A2,L2,C2,A3,L3,C3,u,rfl⟩:=h;exact ⟨k,on,al,A1,L1,C1,A2,L2,C2,A3,L3,C3,u,rfl,rfl⟩
section
variable {k:Nat} {A4:OA} {L4 C4:Nat} {A:OA} {L C:Nat} {A3:OA} {L3 C3:Nat} {roots:List RootD} {a:OA} {l c:Nat} {a':OA} {l' c':Nat} {ops:List OpD} {frags:List Frag} {w:World}
theorem v_w (hB:Blk w k 92 [.slice A4 L4 C4,.slice A L C,.slice A3 L3 C3])(hR:b_w w A L C roots)(hl:ROps w a l c ops)(hl':a_X w a' l' c' frags)(ok1:∀ x∈ops,okOp x)(ok2:∀ x∈frags,b_j x)(hs:docW ops frags<=2097152):
  CP 13 #[.pointer (some (adr k)),.agg #[.slice a l c,.slice a' l' c']] w (RetB w fun b=>b=true->bareD ops frags):=by
 obtain ⟨e1,e3⟩:=hl.len;have hx0:=(Ext.refl (X:=fun _=>False) w).alloc (.cells #[.slice a l c,.slice a' l' c'] 30);refine v_x (some (adr k)) a l c a' l' c' w _ ⟨trivial,?_⟩;refine ⟨fun i w1=>0<=i/\i<=l/\EF w w1/\∀ x∈ops.take i.toNat,x.kind=bSub->∀ s∈topO frags x,nameD s≠bTn/\u_W s=nameD s,fun i _=>((l:Int)-i).toNat,⟨by omega,by omega,hx0,by simp⟩,?_⟩;rintro i w1 ⟨h0,hi,hx,hn⟩;refine ⟨fun hlt=>?_,fun hge=>?_⟩
 ·have hlt:=odt hlt;obtain ⟨p,x,hp,hxs,cs,hc,a1,l1,c1,a2,l2,c2,a3,l3,c3,rfl,hv1,hv2,hv3⟩:=hl.get h0 hlt;obtain ⟨⟨_,_,hc0⟩,hs0,⟨_,_,hc1⟩,hs1,⟨_,_,hc2⟩,hs2,⟨_,_,hc3⟩,hs3,⟨_,_,hc4⟩,-⟩:=hc;have hmem:=mg_ hxs;intro K9 hK9;have key:∀ w',EF w w'->(x.kind=bSub->∀ s∈topO frags x,nameD s≠bTn/\u_W s=nameD s)->K9 w':=by
   intro w' x' hk;refine hK9 w' ?_;rw [a_a h0 (by omega)];exact next h0 hlt ⟨x',a_g h0 hn hxs hk⟩
  refine ⟨p,hp,⟨h0,hlt⟩,_,hx.cell hc0 id,_,hx.cell hc1 id,_,_,_,hx.cell hc2 id,_,_,_,hx.cell hc3 id,_,_,_,hx.cell hc4 id,trivial,trivial,?_⟩;have x18:=hx.alloc (.cells #[.string x.kind,.string x.name,.slice a1 l1 c1,.slice a2 l2 c2,.slice a3 l3 c3] 58);generalize w1.alloc (.cells #[.string x.kind,.string x.name,.slice a1 l1 c1,.slice a2 l2 c2,.slice a3 l3 c3] 58)=w18 at x18 ⊢;refine ⟨fun hk=>key w18 x18 fun e=>absurd e (g_r hk),fun hk=>⟨trivial,fun w20 e20=>?_⟩⟩;have hkind:=b_2 hk;have x19:EF w18 (w18.alloc (.cells #[.slice none 0 0] 71)):=(Ext.refl w18).alloc _;have x20:EF (w18.alloc (.cells #[.slice none 0 0] 71)) w20:=by rw [e20];exact (Ext.refl _).drew
  have B20:=(Blk.made w18 71 [.slice none 0 0]).ext x20 id;have y20:=(x18.then x19).then x20;clear e20 x20;refine (a_m (p:=adr k) (op:=x.kind) ((hB.ext y20 id).at (j:=1) rfl) (hR.keep y20.keep)).mono ?_;rintro _ w22 ⟨rfl,x22⟩;have y22:=y20.then x22;have B22:=B20.ext x22 id;refine ⟨_,rfl,⟨x22.keepT _,x22.keepT _,trivial⟩,⟨rfl,rfl,trivial⟩,?_⟩;refine (u_9 (w0:=w) (q2:=a) (q2l:=l) (q2c:=c) (wv:=some (adr k)) (bb:=w18.heap.size) hl' ok2 (topM frags x.kids []+1) x.kids [] a3 l3 c3 (rootD roots x.kind) w22 none 0 0 (Nat.lt_succ_self _) hv3 (ok1 x hmem).2.2.2 (l_U hR _) y22 x18.size B22 OwnR.nil (v_k hs hmem)).mono ?_;rintro _ w25 ⟨o,ol,oc,A',L',C',rfl,x25,hO,hB25,hS25,-⟩;have y25:EF w w25:=y22.trans x25 fun b hb e=>by
   rcases e with rfl|⟨q,hq,-⟩
   ·have:=x18.size;omega
   ·cases hq
  have eO:=hO.len (by omega);have hlen:=v_t hs hmem;have hol:ol<=4194304:=by
   have h:(topD frags (topM frags x.kids []+1) x.kids []).1.length<=4194304:=hlen;omega
  have hP:=hO.sl (by omega) hol;have kT:∀ {T:TypeId},T≠71->T≠9->KeepT T w22 w25:=fun h1 h2=>v_n (base:=0) (A:=none) (L:=0) (C:=0) (b:=[]) B22 OwnR.nil x25 h1 h2;refine ⟨o,ol,oc,rfl,⟨kT (by decide) (by decide),kT (by decide) (by decide),trivial⟩,trivial,fun j w2=>0<=j/\j<=ol/\EF w25 w2/\∀ s∈(topO frags x).take j.toNat,nameD s≠bTn/\u_W s=nameD s,fun j _=>((ol:Int)-j).toNat,⟨by omega,by omega,Ext.refl w25,by simp⟩,?_⟩;rintro j w30 ⟨k0,kj,kx,hk1⟩;refine ⟨fun klt=>?_,fun kge=>?_⟩
  ·have klt:=odt klt;obtain ⟨q,s,hq,hss,cs,hd,hr⟩:=hP.get k0 klt;obtain ⟨k',on,al,B1,M1,D1,B2,M2,D2,B3,M3,D3,u,rfl,hal⟩:=hr.sel;obtain ⟨⟨_,_,hd0⟩,ht0,⟨_,_,hd1⟩,ht1,⟨_,_,hd2⟩,ht2,⟨_,_,hd3⟩,ht3,⟨_,_,hd4⟩,ht4,⟨_,_,hd5⟩,ht5,⟨_,_,hd6⟩,ht6,⟨_,_,hd7⟩,-⟩:=hd;refine ⟨q,hq,⟨k0,klt⟩,_,kx.cell hd0 id,_,kx.cell hd1 id,_,kx.cell hd2 id,_,kx.cell hd3 id,_,_,_,kx.cell hd4 id,_,_,_,kx.cell hd5 id,_,_,_,kx.cell hd6 id,_,kx.cell hd7 id,trivial,trivial,fun K42 hK42 w45 e45=>?_⟩;have x45:EF w30 w45:=by rw [e45];exact ((Ext.refl w30).alloc _).drew
   clear e45;have fin:∀ (b:Bool) (w':World),EF w30 w'->(b=false->nameD s≠bTn/\u_W s=nameD s)->K42 b w':=by
    intro b w' x' hb;refine hK42 b w' ⟨fun _=>⟨false,rfl,y25.then (kx.then x'),nofun⟩,fun hbf=>?_⟩;rw [a_a k0 (by omega)];exact next k0 klt ⟨kx.then x',a_g k0 hk1 hss (hb hbf)⟩
   refine ⟨fun _=>fin true w45 x45 nofun,fun hne=>?_⟩;refine (v_I k' al (nameD s) on B1 M1 D1 B2 M2 D2 B3 M3 D3 w45).mono ?_;rintro _ w47 ⟨rfl,x47⟩;refine ⟨_,rfl,⟨x47.keepT _,x47.keepT _,x47.keepT _,trivial⟩,⟨rfl,trivial⟩,fin _ w47 (x45.then x47) fun hb=>⟨a_f.1 hne,?_⟩⟩;rw [hal];exact b_2 hb
  ·have hall:∀ s∈topO frags x,nameD s≠bTn/\u_W s=nameD s:=a_o eO kge hk1;have z30:=y25.then kx;refine (q_Z z30 hl hl' ok1 ok2 hs).mono ?_;rintro _ w50 ⟨A5,L5,C5,rfl,hacc⟩;obtain ⟨x50,hL5,cells5,hown5,hf5⟩:=hacc;have z50:=z30.then x50;have hul:=lt_ (q_z ops frags) hs;have hU:=hown5.sl hf5 (by omega) (by omega);refine ⟨A5,L5,C5,rfl,⟨x50.keepT _,x50.keepT _,trivial⟩,fun m w2=>0<=m/\m<=L5/\EF w50 w2,fun m _=>((L5:Int)-m).toNat,⟨by omega,by omega,Ext.refl w50⟩,?_⟩;rintro m w55 ⟨m0,mj,mx⟩;refine ⟨fun mlt=>?_,fun mge=>key w55 (z50.then mx) fun _=>hall⟩;have mlt:=odt mlt;obtain ⟨q,s,hq,hss,cs,hd,ua,ul,uc,rfl,hdirs⟩:=hU.get m0 mlt;obtain ⟨⟨_,_,hd0⟩,ht0,⟨_,_,hd1⟩,-⟩:=hd;obtain ⟨f1,f3⟩:=hdirs.len;have mx60:=mx.alloc (.cells #[.slice ua ul uc,.string s.2] 85);refine ⟨q,hq,⟨m0,mlt⟩,ua,ul,uc,mx.cell hd0 id,_,mx.cell hd1 id,trivial,trivial,fun n w2=>0<=n/\n<=ul/\EF w50 w2,fun n _=>((ul:Int)-n).toNat,⟨by omega,by omega,mx60⟩,?_⟩;rintro n w64 ⟨n0,nj,nx⟩;refine ⟨fun nlt=>?_,fun nge=>?_⟩
   ·have nlt:=odt nlt;obtain ⟨q,d,hq,hds,cs,hd,da,dl,dc,rfl,-⟩:=hdirs.get n0 nlt;obtain ⟨⟨_,_,hd0⟩,ht0,⟨_,_,hd1⟩,-⟩:=hd;have nx69:=nx.alloc (.cells #[.string d.name,.slice da dl dc] 87);have zn:=z50.then nx;refine ⟨q,hq,⟨n0,nlt⟩,_,zn.cell hd0 id,_,_,_,zn.cell hd1 id,trivial,trivial,fun K70 hK70=>?_⟩;have fin:∀ b:Bool,K70 b _:=fun b=>hK70 b _ ⟨fun _=>⟨false,rfl,z50.then nx69,nofun⟩,fun _=>by
     rw [a_a n0 (by omega)];exact next n0 nlt nx69⟩
    exact ⟨fun _=>fin _,fun _=>fin true⟩
   ·rw [a_a m0 (by omega)];exact next m0 mlt nx
 ·exact ⟨true,rfl,hx,fun _=>a_o e1 hge hn⟩
theorem v_d (hB:Blk w k 92 [.slice A4 L4 C4,.slice A L C,.slice A3 L3 C3])(hR:b_w w A L C roots)(hl:ROps w a l c ops)(hl':a_X w a' l' c' frags)(ok1:∀ x∈ops,okOp x)(ok2:∀ x∈frags,b_j x)(hs:docW ops frags<=2097152):
  CP 17 #[.pointer (some (adr k)),.agg #[.slice a l c,.slice a' l' c']] w (RetB w fun b=>b=true↔manyD ops frags):=by
 obtain ⟨e1,e3⟩:=hl.len;have hx0:=(Ext.refl (X:=fun _=>False) w).alloc (.cells #[.slice a l c,.slice a' l' c'] 30);refine v_f (some (adr k)) a l c a' l' c' w _ ⟨trivial,?_⟩;refine ⟨fun i w1=>0<=i/\i<=l/\EF w w1/\∀ x∈ops.take i.toNat,¬ (x.kind=bSub/\1<(uniqN ((topO frags x).map u_W)).length),fun i _=>((l:Int)-i).toNat,⟨by omega,by omega,hx0,by simp⟩,?_⟩;rintro i w1 ⟨h0,hi,hx,hn⟩;refine ⟨fun hlt=>?_,fun hge=>?_⟩
 ·have hlt:=odt hlt;obtain ⟨p,x,hp,hxs,cs,hc,a1,l1,c1,a2,l2,c2,a3,l3,c3,rfl,hv1,hv2,hv3⟩:=hl.get h0 hlt;obtain ⟨⟨_,_,hc0⟩,hs0,⟨_,_,hc1⟩,hs1,⟨_,_,hc2⟩,hs2,⟨_,_,hc3⟩,hs3,⟨_,_,hc4⟩,-⟩:=hc;have hmem:=mg_ hxs;intro K9 hK9;have key:∀ w',EF w w'->¬ (x.kind=bSub/\1<(uniqN ((topO frags x).map u_W)).length)->K9 w':=by
   intro w' x' hk;refine hK9 w' ?_;rw [a_a h0 (by omega)];exact next h0 hlt ⟨x',a_g h0 hn hxs hk⟩
  refine ⟨p,hp,⟨h0,hlt⟩,_,hx.cell hc0 id,_,hx.cell hc1 id,_,_,_,hx.cell hc2 id,_,_,_,hx.cell hc3 id,_,_,_,hx.cell hc4 id,trivial,trivial,?_⟩;have x18:=hx.alloc (.cells #[.string x.kind,.string x.name,.slice a1 l1 c1,.slice a2 l2 c2,.slice a3 l3 c3] 58);generalize w1.alloc (.cells #[.string x.kind,.string x.name,.slice a1 l1 c1,.slice a2 l2 c2,.slice a3 l3 c3] 58)=w18 at x18 ⊢;refine ⟨fun hk=>key w18 x18 fun e=>absurd e.1 (g_r hk),fun hk=>⟨trivial,fun w20 e20=>?_⟩⟩;have hkind:=b_2 hk;have x19:EF w18 (w18.alloc (.cells #[.slice none 0 0] 71)):=(Ext.refl w18).alloc _;have x20:EF (w18.alloc (.cells #[.slice none 0 0] 71)) w20:=by rw [e20];exact (Ext.refl _).drew
  have B20:=(Blk.made w18 71 [.slice none 0 0]).ext x20 id;have y20:=(x18.then x19).then x20;clear e20 x20;refine (a_m (p:=adr k) (op:=x.kind) ((hB.ext y20 id).at (j:=1) rfl) (hR.keep y20.keep)).mono ?_;rintro _ w22 ⟨rfl,x22⟩;have y22:=y20.then x22;have B22:=B20.ext x22 id;refine ⟨_,rfl,⟨x22.keepT _,x22.keepT _,trivial⟩,⟨rfl,rfl,trivial⟩,?_⟩;refine (u_9 (w0:=w) (q2:=a) (q2l:=l) (q2c:=c) (wv:=some (adr k)) (bb:=w18.heap.size) hl' ok2 (topM frags x.kids []+1) x.kids [] a3 l3 c3 (rootD roots x.kind) w22 none 0 0 (Nat.lt_succ_self _) hv3 (ok1 x hmem).2.2.2 (l_U hR _) y22 x18.size B22 OwnR.nil (v_k hs hmem)).mono ?_;rintro _ w25 ⟨o,ol,oc,A',L',C',rfl,x25,hO,hB25,hS25,-⟩;have y25:EF w w25:=y22.trans x25 fun b hb e=>by
   rcases e with rfl|⟨q,hq,-⟩
   ·have:=x18.size;omega
   ·cases hq
  have eO:=hO.len (by omega);have hlen:=v_t hs hmem;have hol:ol<=4194304:=by
   have h:(topD frags (topM frags x.kids []+1) x.kids []).1.length<=4194304:=hlen;omega
  have hP:=hO.sl (by omega) hol;have kT:∀ {T:TypeId},T≠71->T≠9->KeepT T w22 w25:=fun h1 h2=>v_n (base:=0) (A:=none) (L:=0) (C:=0) (b:=[]) B22 OwnR.nil x25 h1 h2;refine ⟨o,ol,oc,rfl,⟨kT (by decide) (by decide),kT (by decide) (by decide),trivial⟩,trivial,fun N NL NC j w2=>0<=j/\j<=ol/\EF w25 w2/\OwnR 9 1 RS w25.heap.size w2 N NL NC (uniqN (((topO frags x).take j.toNat).map u_W)),fun _ _ _ j _=>((ol:Int)-j).toNat,⟨by omega,by omega,Ext.refl w25,by simpa [uniqN] using OwnR.nil⟩,?_⟩;rintro N NL NC j w31 ⟨k0,kj,kx,hN⟩;have eN:=hN.len (by omega);have hNl:=v_p (((topO frags x).take j.toNat).map u_W);rw [List.length_map,List.length_take] at hNl;refine ⟨fun klt=>?_,fun kge=>?_⟩
  ·have klt:=odt klt;obtain ⟨q,s,hq,hss,cs,hd,hr⟩:=hP.get k0 klt;have hss:(topO frags x)[j.toNat]? =some s:=hss;obtain ⟨k',on,al,B1,M1,D1,B2,M2,D2,B3,M3,D3,u,rfl,hal⟩:=hr.sel;obtain ⟨⟨_,_,hd0⟩,ht0,⟨_,_,hd1⟩,ht1,⟨_,_,hd2⟩,ht2,⟨_,_,hd3⟩,ht3,⟨_,_,hd4⟩,ht4,⟨_,_,hd5⟩,ht5,⟨_,_,hd6⟩,ht6,⟨_,_,hd7⟩,-⟩:=hd;have hsn:uniqN (((topO frags x).take (j+1).toNat).map u_W)=addN (uniqN (((topO frags x).take j.toNat).map u_W)) (u_W s):=by
    rw [show (j+1).toNat=j.toNat+1 by omega,List.take_add_one,hss,List.map_append];exact v_r _ _
   have hsz:(u_W s).size<=4194304:=by
    rw [hal];split
    ·exact ht2
    ·exact ht1
   intro K32 hK32;have fin:∀ (N':OA) (NL' NC':Nat) (w':World),EF w25 w'->OwnR 9 1 RS w25.heap.size w' N' NL' NC' (addN (uniqN (((topO frags x).take j.toNat).map u_W)) (u_W s))->K32 N' NL' NC' w':=by
    intro N' NL' NC' w' x' hN';refine hK32 N' NL' NC' w' ?_;rw [a_a k0 (by omega)];refine next k0 klt ⟨x',?_⟩
    rw [hsn];exact hN'
   refine ⟨q,hq,⟨k0,klt⟩,_,kx.cell hd0 id,_,kx.cell hd1 id,_,kx.cell hd2 id,_,kx.cell hd3 id,_,_,_,kx.cell hd4 id,_,_,_,kx.cell hd5 id,_,_,_,kx.cell hd6 id,_,kx.cell hd7 id,trivial,trivial,?_⟩;have x45:EF w31 (w31.alloc (.cells #[.int .i64 k',.string al,.string (nameD s),.string on,.slice B1 M1 D1,.slice B2 M2 D2,.slice B3 M3 D3,.string u] 80)):=(Ext.refl w31).alloc _;generalize w31.alloc (.cells #[.int .i64 k',.string al,.string (nameD s),.string on,.slice B1 M1 D1,.slice B2 M2 D2,.slice B3 M3 D3,.string u] 80)=w45 at x45 ⊢;refine (v_I k' al (nameD s) on B1 M1 D1 B2 M2 D2 B3 M3 D3 w45).mono ?_;rintro _ w47 ⟨rfl,x47⟩;rw [<- hal];have x47':=x45.then x47;have N47:=hN.keep0 x47';refine ⟨_,rfl,⟨x47.keepT _,x47.keepT _,x47.keepT _,trivial⟩,?_⟩;refine (c_in (u_W s) (N47.sl (by omega) (by omega))).mono ?_;rintro _ w50 ⟨b51,rfl,x50,h51⟩;have x50':=x47'.then x50;have N50:=N47.keep0 x50;refine ⟨b51,rfl,⟨x50.keepT _,x50.keepT _,x50.keepT _,trivial⟩,fun hb=>?_,fun hb=>fin N NL NC w50 (kx.then x50') (by rw [addN,if_pos (h51.1 (by simpa using hb))];exact N50)⟩;have hno:u_W s∉uniqN (((topO frags x).take j.toNat).map u_W):=fun h=>by rw [h51.2 h] at hb;cases hb
   obtain ⟨N2,NC2,w54,r54,hN54,x54,k54,-⟩:=N50.one 71 Tryz.t9 _ _ (by kernel_rfl) (by kernel_rfl) rfl (by kernel_rfl) rfl (by kernel_rfl) (by omega) (by decide) (kx.then x50').size (x:=u_W s) (cs:=[.string (u_W s)]) rfl (i_Q hsz) rfl (by omega) 71 #[false,false];exact ⟨trivial,N2,NL+1,NC2,w54,r54,⟨k54 _ (by decide),k54 _ (by decide),k54 _ (by decide),trivial⟩,fin N2 (NL+1) NC2 w54 (OwnR.ext0 N50 (Nat.le_refl _) (kx.then x50') x54) (by rw [addN,if_neg hno];exact hN54)⟩
  ·have hle:=odf kge;have hle':(topO frags x).length<=j.toNat:=by
    have:ol=(topO frags x).length:=eO;omega
   rw [tl_ hle'] at eN;refine ⟨fun h=>⟨true,rfl,y25.then kx,fun _=>⟨x,hmem,hkind,by have:=odt h;omega⟩,fun _=>rfl⟩,fun h=>key w31 (y25.then kx) fun e=>?_⟩;have:=odf h;have:=e.2;omega
 ·exact ⟨false,rfl,hx,nofun,fun ⟨x,hxm,h⟩=>absurd h (a_o e1 hge hn x hxm)⟩
end
theorem OwnR.ne_map {α:Type}{T n:Nat}{R:α->List Value->Prop}{base:Nat}{w:World}{A:OA}{L C:Nat}{xs:List α}(h:OwnR T n R base w A L C xs){b:Nat}{m:List (BA × Value)}(hm:SMap w b m):¬ blkOf A b:=fun hb=>by
 obtain ⟨cells,o,f⟩:=h;obtain ⟨cur,hc⟩:=v_D o hb;obtain ⟨ents,cl,h1,-⟩:=hm;rw [hc] at h1;cases h1
theorem VM.perm {w:World}{b:Nat}{vs vs':List BA}(h:VM w b vs)(hp:∀ k,k∈vs↔k∈vs'):VM w b vs':=by
 obtain ⟨m,h1,h2⟩:=h;exact ⟨m,h1,fun k=>⟨fun hk=>(h2 k).1 ((hp k).2 hk),fun hk=>(h2 k).2 fun e=>hk ((hp k).1 e)⟩⟩
theorem Rch.mono {fs:List Frag}{ks ks':List Sel}(h:∀ n∈spL ks,n∈spL ks'){n:BA}(k:Rch fs ks n):Rch fs ks' n:=by
 induction k with
 | base h1 h2=>exact .base (h _ h1) h2
 | step _ hf h1 h2 ih=>exact .step ih hf h1 h2
abbrev RTf:BA × Nat->List Value->Prop:=fun x cs=>cs=[.pointer (some (adr x.2))]
abbrev capT (z:Nat):List Value:=[.pointer (some (adr (z+1))),.pointer (some (adr (z+4))),.pointer (some (adr (z+3)))]
structure TS (wB:World) (A:OA) (n C:Nat) (V:List BA) (xs:List (BA × Nat)) (w:World):Prop where
 ext:EF wB w
 fb:Blk w (wB.heap.size+1) 238 [.slice A n C]
 fl:OwnR 246 1 RTf wB.heap.size w A n C xs
 nd:∀ x∈xs,∃ q,Blk w x.2 245 [.string x.1,.pointer q]
 mb:Blk w (wB.heap.size+3) 231 [.map (some (wB.heap.size+2))]
 vm:VM w (wB.heap.size+2) V
 kb:Blk w (wB.heap.size+4) 332 [.func (.func 172) #[] (capT wB.heap.size).toArray]
section
variable {wB w w':World} {A:OA} {n C:Nat} {V:List BA} {xs:List (BA × Nat)}
theorem TS.ext0 (h:TS wB A n C V xs w)(hx:EF w w'):TS wB A n C V xs w':=by
 refine ⟨h.ext.then hx,h.fb.ext hx id,h.fl.keep0 hx,fun x hxm=>?_,h.mb.ext hx id,h.vm.ext hx id,h.kb.ext hx id⟩;obtain ⟨q,hq⟩:=h.nd x hxm;exact ⟨q,hq.ext hx id⟩
theorem TS.put (h:TS wB A n C V xs w)(u:BA):∃ w',(Instr.mapUpdate 231 (.map (some (wB.heap.size+2))) (.string u) (.bool true)).run Tryz.prog w=.ok () w'/\TS wB A n C (V++[u]) xs w':=by
 obtain ⟨w',r,hv,hx⟩:=h.vm.put u;obtain ⟨m,hm,-⟩:=h.vm;refine ⟨w',r,h.ext.trans hx fun b hb e=>?_,h.fb.ext hx (by omega),h.fl.keep hx fun b hb e=>h.fl.ne_map hm ((show b=_ from e)▸hb),fun x hxm=>?_,h.mb.ext hx (by omega),hv.perm fun k=>by simp [or_comm],h.kb.ext hx (by omega)⟩
 ·have:b=wB.heap.size+2:=e;omega
 ·obtain ⟨q,hq⟩:=h.nd x hxm;refine ⟨q,hq.ext hx fun e=>?_⟩;have e:x.2=wB.heap.size+2:=e;obtain ⟨ents,cl,h1,-⟩:=hm;rw [<- e,show objAt w x.2=_ from hq] at h1;cases h1
theorem TS.add (h:TS wB A n C V xs w){s:BA}{q:OA}(hn:n+1<=16777216):∃ (A':OA) (C':Nat) (w':World),(Go.builtin .append #[238,238] 238 #[false,false] #[.slice A n C,.slice (some (adr (w.alloc (.cells #[.string s,.pointer q] 245)).heap.size)) 1 1]).run Tryz.prog ((w.alloc (.cells #[.string s,.pointer q] 245)).alloc (.cells #[.pointer (some (adr w.heap.size))] 246))=.ok (.value (.slice A' (n+1) C')) w'/\
  Blk w' (wB.heap.size+1) 238 [.slice A n C]/\TS wB A' (n+1) C' V (xs++[(s,w.heap.size)]) (w'.setCell ⟨wB.heap.size+1,0,none⟩ (.slice A' (n+1) C')):=by
 have x1:EF w (w.alloc (.cells #[.string s,.pointer q] 245)):=(Ext.refl w).alloc _;have Bt:=Blk.made w 245 [.string s,.pointer q];have S:=h.ext0 x1;generalize hw1:w.alloc (.cells #[.string s,.pointer q] 245)=w1 at x1 Bt S ⊢;clear hw1;obtain ⟨A',C',w2,r,hfl,x2,-, -⟩:=S.fl.one 238 Tryz.t246 _ _ (by kernel_rfl) (by kernel_rfl) rfl (by kernel_rfl) rfl (by kernel_rfl) (by omega) (by decide) S.ext.size (x:=(s,w.heap.size)) (cs:=[.pointer (some (adr w.heap.size))]) rfl (fun v hv=>by
  obtain rfl:v=.pointer (some (adr w.heap.size)):=by simpa using hv
  rfl) rfl hn 238 #[false,false]
 have fb2:=S.fb.ext x2 (S.fl.ne_blk S.fb (by decide));have x3:Ext (fun k=>k=wB.heap.size+1) w2 (w2.setCell ⟨wB.heap.size+1,0,none⟩ (.slice A' (n+1) C')):=Ext.setCell (X:=fun k=>k=wB.heap.size+1) (Ext.refl w2) (a:=⟨wB.heap.size+1,0,none⟩) (.inl rfl) _;have nd2:∀ {b:Nat} {cs:List Value},Blk w1 b 245 cs->Blk (w2.setCell ⟨wB.heap.size+1,0,none⟩ (.slice A' (n+1) C')) b 245 cs:=fun {b cs} hB=>by
  have hB2:=hB.ext x2 (S.fl.ne_blk hB (by decide));refine hB2.ext x3 fun e=>?_;have e:b=wB.heap.size+1:=e;rw [e] at hB2;have:=hB2.symm.trans fb2;simp only [Option.some.injEq,Obj.cells.injEq] at this;exact absurd this.2.1 (by decide)
 obtain ⟨m,hm,-⟩:=S.vm;refine ⟨A',C',w2,r,fb2,(S.ext.trans x2 fun b hb e=>S.fl.ne (.inl hb) e).trans x3 fun b hb e=>?_,fb2.set 0 _,hfl.keep x3 fun b hb e=>hfl.ne_blk fb2 (by decide) ((show b=_ from e)▸hb),fun x hx=>?_,(S.mb.ext x2 (S.fl.ne_blk S.mb (by decide))).ext x3 (by omega),(S.vm.ext x2 (S.fl.ne_map hm)).ext x3 (by omega),(S.kb.ext x2 (S.fl.ne_blk S.kb (by decide))).ext x3 (by omega)⟩
 ·have:b=wB.heap.size+1:=e;omega
 ·rcases ma_.1 hx with hx|hx
  ·obtain ⟨q,hq⟩:=S.nd x hx;exact ⟨q,nd2 hq⟩
  ·obtain rfl:=List.mem_singleton.1 hx;exact ⟨q,nd2 Bt⟩
end
section
variable {c:WCtx} {wB:World}
abbrev TcOf (c:WCtx)(wB:World)(d:Nat):Prop:=∀ (ks:List Sel) (V:List BA) (A0:OA) (L0 C0:Nat) (A:OA) (n C:Nat) (xs:List (BA × Nat)) (w:World),topM c.frags ks V<d->PSels c.M c.w0 A0 L0 C0 ks->SpL c wB A0 L0->(∀ m,Rch c.frags ks m->SpF c wB m)->(∀ m∈spL ks,isFr c.frags m=true)->TS wB A n C V xs w->n+(selL ks+V.length+topP c.frags V)<=8388608->
 CP 172 ([Value.slice A0 L0 C0]++capT wB.heap.size).toArray w fun e w'=>e=.returned (.tuple #[])/\∃ A' n' C' xs',TS wB A' n' C' (topD c.frags d ks V).2 xs' w'/\xs'.map (·.1)=xs.map (·.1)++(topD c.frags d ks V).1.map nameD
theorem v_H (hwk:Wk c c.w0 wB)(hfr:∀ f∈c.frags,∀ m∈spL f.kids,isFr c.frags m=true)(d:Nat)(IH:TcOf c wB d):TcOf c wB (d+1):=by
 intro ks V A0 L0 C0 A n C xs w hM hp hsp hspf hfs S hfew;have e1:=hp.1;have e3:=hp.2.2.1;have hsub:∀ ks b,∀ n∈b,n∈(topD c.frags d ks b).2:=fun ks b n hn=>v_s d ks b n hn;refine u_2 A0 L0 C0 (adr (wB.heap.size+1)) (adr (wB.heap.size+4)) (adr (wB.heap.size+3)) w _ ?_;refine ⟨fun i w1=>0<=i/\i<=L0/\∃ A1 n1 C1 xs1,TS wB A1 n1 C1 (topL c.frags (topD c.frags d) (ks.take i.toNat) V).2 xs1 w1/\xs1.map (·.1)=xs.map (·.1)++(topL c.frags (topD c.frags d) (ks.take i.toNat) V).1.map nameD,fun i _=>((L0:Int)-i).toNat,⟨by omega,by omega,A,n,C,xs,by simpa [topL] using S,by simp [topL]⟩,?_⟩;rintro i w1 ⟨h0,hi,A1,n1,C1,xs1,S1,hxs1⟩;refine ⟨fun hlt=>?_,fun hge=>?_⟩
 ·have hlt:=odt hlt;obtain ⟨p,x,v,hpp,hx,hMp,hat,hps⟩:=hp.get h0 hlt;have hmem:=mg_ hx;have kw:∀ {w':World},EF wB w'->Wk c c.w0 w':=fun h=>hwk.trans (Wk.ofExt h fun _ _=>id);have hc:=((kw S1.ext).at (by rw [b_x];exact hMp) hat rfl).cell;have hspo:SpO c wB v:=hsp p i.toNat v hpp (by omega) (by simpa using hat);have hsn:=v_A (fr:=c.frags) (rec:=topD c.frags d) (b:=V) h0 hx;have hfi:=v_i (fr:=c.frags) (rec:=topD c.frags d) (fun ks b=>u_6 d ks b) (ks.take i.toNat) V;have hst:=v_y h0 hx;have hsl:=v_c ks (i+1).toNat;have hbi:∀ n∈V,n∈(topL c.frags (topD c.frags d) (ks.take i.toNat) V).2:=v_j hsub _ _;have hszx:=List.sizeOf_lt_of_mem hmem;have hspx:∀ m∈spS x,m∈spL ks:=fun m hm=>by
   obtain ⟨l1,l2,rfl⟩:=List.append_of_mem hmem;rw [h_X,spL];simp [hm]
  have eN:=S.fl.len (by omega);have eN1:=S1.fl.len (by omega);have elen:=congrArg List.length hxs1;simp only [la_,List.length_map] at elen;generalize hT:topL c.frags (topD c.frags d) (ks.take i.toNat) V=T at S1 hxs1 hsn hfi hbi elen;obtain ⟨out,bi⟩:=T;simp only at S1 hxs1 hsn hfi hbi elen;have hMi:topM c.frags ks bi<=topM c.frags ks V:=Nat.add_le_add_right (Nat.mul_le_mul_right _ (v_h hbi)) _;obtain ⟨k,al,nm,on,args,dirs,kids⟩:=x;simp only [selS] at hst;simp only [Sel.mk.sizeOf_spec] at hszx;intro K9 hK9;have key:∀ (A':OA) (n' C':Nat) (xs':List (BA × Nat)) (new:List Sel) (b':List BA) (w':World),TS wB A' n' C' b' xs' w'->xs'.map (·.1)=xs1.map (·.1)++new.map nameD->topS c.frags (topD c.frags d) bi (.mk k al nm on args dirs kids)=(new,b')->K9 w':=by
   intro A' n' C' xs' new b' w' S' hxs' hS;rw [hS] at hsn;refine hK9 w' ?_;rw [a_a h0 (by omega)];refine next h0 hlt ⟨A',n',C',xs',?_,?_⟩
   ·rw [hsn];exact S'
   ·rw [hsn,hxs',hxs1];simp
  simp only [PSel] at hps;rcases hps with ⟨hk,b,B1,M1,D1,B2,M2,D2,B3,M3,D3,pos,rfl,hMb,hBb,-⟩|⟨hk,b,B2,M2,D2,pos,rfl,hMb,hBb,-⟩|⟨hk,b,B2,M2,D2,B3,M3,D3,pos,rfl,hMb,hBb,-, hL3,hC3,hs3,hkids⟩
  ·
   refine ⟨p,hpp,⟨h0,hlt⟩,some (155,.pointer (some (adr b))),hc,fun K13 hK13=>⟨fun u hu=>⟨some (adr b),by cases hu;rfl,hK13 true _ w1 ⟨fun _=>fun w17 e17=>?_,nofun⟩⟩,fun hn=>absurd rfl (hn _)⟩⟩;have x17:EF w1 w17:=by rw [e17];exact (Ext.refl w1).drew
   clear e17;have S17:=S1.ext0 x17;have k17:=kw S17.ext;have c1:w17.cell? ((adr b).add 1)=some (.string nm):=k17.nd hMb hBb (j:=1) rfl rfl;have x24:EF w17 (w17.alloc (.cells #[.string nm,.pointer pos] 245)):=(Ext.refl w17).alloc _;have x25:EF (w17.alloc (.cells #[.string nm,.pointer pos] 245)) ((w17.alloc (.cells #[.string nm,.pointer pos] 245)).alloc (.cells #[.pointer (some (adr w17.heap.size))] 246)):=(Ext.refl _).alloc _;obtain ⟨A',C',w27,r27,B27,S28⟩:=S17.add (s:=nm) (q:=pos) (by omega);have cf:=(S17.fb.at (j:=0) rfl).cell;refine ⟨A1,n1,C1,cf,adr b,rfl,nm,c1,?_⟩;refine u_5 (some (adr b)) w17 _ ⟨adr b,rfl,pos,k17.nd hMb hBb (j:=5) rfl rfl,pos,rfl,trivial,⟨rfl,rfl,trivial⟩,trivial,trivial,⟨x24.cell_eq id cf,trivial⟩,trivial,⟨x25.cell_eq id (x24.at id (S17.fb.at (j:=0) rfl)).cell,trivial⟩,A',n1+1,C',w27,r27,trivial,trivial,B27.off (j:=0) (n:=1) (q:=fun _=>false) (by simp) rfl,trivial,trivial,?_⟩;exact key A' (n1+1) C' _ [.mk k al nm on args dirs kids] bi _ S28 (by simp [nameD]) (by rw [topS,if_pos hk])
  ·
   have hk0:k≠0:=by omega
   refine ⟨p,hpp,⟨h0,hlt⟩,some (180,.pointer (some (adr b))),hc,fun K13 hK13=>⟨fun u hu=>absurd hu (by simp),fun _=>hK13 false none w1 ⟨nofun,fun _=>fun K29 hK29=>⟨fun u hu=>absurd hu (by simp),fun _=>hK29 false none w1 ⟨nofun,fun _=>fun K42 hK42=>⟨fun u hu=>⟨some (adr b),by cases hu;rfl,hK42 true _ w1 ⟨fun _=>?_,nofun⟩⟩,fun hn=>absurd rfl (hn _)⟩⟩⟩⟩⟩⟩;have hnm:nm∈spL ks:=hspx nm (by simp [spS,hk]);obtain ⟨-, q,hq,hqf⟩:=hspo b .here;have hqf:=hqf nm _ hBb;obtain ⟨f,hf⟩:∃ f,a_h Frag.name c.frags nm=some f:=Option.isSome_iff_exists.1 (hfs nm hnm);obtain ⟨hfm,hfn⟩:=a_U hf;rw [hf] at hqf;obtain ⟨fb,rfl,⟨F2,FL2,FC2,F3,FL3,FC3,fpos,hMf,hBf,-, hfk⟩,hfat⟩:=hqf;have hq1:=(S1.ext.at id hq).cell;have hrn:Rch c.frags ks nm:=.base hnm (hfs nm hnm);rw [hfn] at hfat;have hsf:=hspf nm hrn fb F3 FL3 FC3 hfat (hBf.at (j:=5) rfl);have cm:=(S1.mb.at (j:=0) rfl).cell;obtain ⟨z,rz,hz⟩:=S1.vm.look f.name;have cn:w1.cell? ((adr fb).add 1)=some (.string f.name):=(kw S1.ext).nd hMf hBf (j:=1) rfl rfl;refine ⟨adr b,rfl,some (adr fb),hq1,fun h=>(by cases h),fun _=>⟨adr b,rfl,some (adr fb),hq1,adr fb,rfl,f.name,cn,some (wB.heap.size+2),cm,z,rz,fun hzf=>?_,fun hzt=>?_⟩⟩
   ·have hnb:nm∉bi:=fun h=>by
     rw [hz.2 (by rw [hfn];exact h)] at hzf;cases hzf
    obtain ⟨w55,r55,S55⟩:=S1.put f.name;refine ⟨some (wB.heap.size+2),cm,w55,r55,trivial,fun w56 e56=>?_⟩;have x56:EF w55 w56:=by rw [e56];exact (Ext.refl w55).drew
    clear e56;have S56:=S55.ext0 x56;have k56:=kw S56.ext;have hq56:=(S56.ext.at id hq).cell;rw [hfn] at S56;have hput:=v_u hfm hfn hnb;have hMf':topM c.frags f.kids (bi++[nm])<topM c.frags ks bi:=v_B hf hnb;have hlen1:(bi++[nm]).length=bi.length+1:=by simp
    refine ⟨_,(S56.kb.at (j:=0) rfl).cell,adr b,rfl,some (adr fb),hq56,adr fb,rfl,F3,FL3,FC3,k56.nd hMf hBf (j:=5) rfl rfl,172,capT wB.heap.size,rfl,_,Tryz.func172,by kernel_rfl,?_⟩;refine (IH f.kids (bi++[nm]) F3 FL3 FC3 A1 n1 C1 xs1 w56 (by omega) hfk hsf (fun m hm=>hspf m (hrn.trans hf hm)) (hfr f hfm) S56 (by omega)).mono ?_;rintro _ w66 ⟨rfl,A',n',C',xs',S66,hxs'⟩;exact ⟨rfl,trivial,trivial,key A' n' C' xs' _ _ w66 S66 hxs' (by rw [topS,if_neg hk0,if_pos hk,hf];simp only [hnb,if_false])⟩
   ·have hb:nm∈bi:=by
     have:=hz.1 (by simpa using hzt)
     rwa [hfn] at this
    exact key A1 n1 C1 xs1 [] bi w1 S1 (by simp) (by rw [topS,if_neg hk0,if_pos hk,hf];simp only [hb,if_true])
  ·
   have hk0:k≠0:=by omega
   have hk1:k≠1:=by omega
   have hkids:=PSels'_iff.1 ⟨hL3,hC3,hs3,hkids⟩;refine ⟨p,hpp,⟨h0,hlt⟩,some (190,.pointer (some (adr b))),hc,fun K13 hK13=>⟨fun u hu=>absurd hu (by simp),fun _=>hK13 false none w1 ⟨nofun,fun _=>fun K29 hK29=>⟨fun u hu=>⟨some (adr b),by cases hu;rfl,hK29 true _ w1 ⟨fun _=>fun w33 e33=>?_,nofun⟩⟩,fun hn=>absurd rfl (hn _)⟩⟩⟩⟩;have x33:EF w1 w33:=by rw [e33];exact (Ext.refl w1).drew
   clear e33;have S33:=S1.ext0 x33;have k33:=kw S33.ext;have hspk:∀ m∈spL kids,m∈spL ks:=fun m hm=>hspx m (by simp [spS,hk1,hm]);have hMk:topM c.frags kids bi<topM c.frags ks V:=v_E hbi (by omega);refine ⟨_,(S33.kb.at (j:=0) rfl).cell,adr b,rfl,B3,M3,D3,k33.nd hMb hBb (j:=2) rfl rfl,172,capT wB.heap.size,rfl,_,Tryz.func172,by kernel_rfl,?_⟩;refine (IH kids bi B3 M3 D3 A1 n1 C1 xs1 w33 (by omega) hkids (fun p' j v' hp' hj hat' kk hu=>hspo kk (.inl (by rw [<- hp'];exact hBb.at (j:=2) rfl) hj hat' hu)) (fun m hm=>hspf m (hm.mono hspk)) (fun m hm=>hfs m (hspk m hm)) S33 (by omega)).mono ?_;rintro _ w41 ⟨rfl,A',n',C',xs',S41,hxs'⟩;exact ⟨rfl,trivial,trivial,key A' n' C' xs' _ _ w41 S41 hxs' (by rw [topS,if_neg hk0,if_neg hk1])⟩
 ·have hle:=odf hge;rw [tl_ (by omega)] at S1 hxs1;exact ⟨rfl,A1,n1,C1,xs1,S1,hxs1⟩
theorem c_Tc (hwk:Wk c c.w0 wB)(hfr:∀ f∈c.frags,∀ m∈spL f.kids,isFr c.frags m=true):∀ d,TcOf c wB d
 | 0=>fun ks V A0 L0 C0 A n C xs w hM=>absurd hM (by omega)
 | d+1=>v_H hwk hfr d (c_Tc hwk hfr d)
end
section
variable {c:WCtx} {w:World}
theorem v_G (hwk:Wk c c.w0 w)(hfr:∀ f∈c.frags,∀ m∈spL f.kids,isFr c.frags m=true){ks:List Sel}{A0:OA}{L0 C0:Nat}(hp:PSels c.M c.w0 A0 L0 C0 ks)(hsp:SpL c w A0 L0)(hspf:∀ m,Rch c.frags ks m->SpF c w m)(hfs:∀ m∈spL ks,isFr c.frags m=true)(hfew:selL ks+topP c.frags []<=4194304):
  CP 122 #[.slice A0 L0 C0] w fun e w'=>∃ Y YL YC ys,e=.returned (.slice Y YL YC)/\EF w w'/\OwnR 246 1 RTf w.heap.size w' Y YL YC ys/\(∀ x∈ys,∃ q,Blk w' x.2 245 [.string x.1,.pointer q])/\ys.map (·.1)=uniqN ((topD c.frags (topM c.frags ks []+1) ks []).1.map nameD):=by
 refine u_4 A0 L0 C0 w _ ?_;intro w2;have x2:EF w w2:=(Ext.refl w).alloc _;have O2:Own w.heap.size w2 246 1 (some (adr w.heap.size)) 0 0 []:=Own.made w.heap.size w 246 1 0 #[] (Nat.le_refl _) (by simp [maxLen]) rfl;have s2:w2.heap.size=w.heap.size+1:=by simp [w2]
 clear_value w2;rw [s2];refine ⟨trivial,?_⟩;intro w3;have x3:EF w2 w3:=(Ext.refl w2).alloc _;have B3:Blk w3 (w.heap.size+1) 238 [.slice none 0 0]:=s2▸Blk.made w2 238 [.slice none 0 0];have s3:w3.heap.size=w.heap.size+2:=by simp [w3,s2]
 clear_value w3;refine ⟨B3.off (j:=0) (n:=1) (q:=fun _=>false) (by simp) rfl,trivial,?_⟩;intro w4;have x4:Ext (fun k=>k=w.heap.size+1) w3 w4:=Ext.setCell (X:=fun k=>k=w.heap.size+1) (Ext.refl w3) (a:=⟨w.heap.size+1,0,none⟩) (.inl rfl) _;have B4:Blk w4 (w.heap.size+1) 238 [.slice (some (adr w.heap.size)) 0 0]:=B3.set 0 _;have s4:w4.heap.size=w.heap.size+2:=by simp [w4,s3]
 have O4:Own w.heap.size w4 246 1 (some (adr w.heap.size)) 0 0 []:=(O2.keep x3 fun _ _=>id).keep x4 fun b hb e=>by
  obtain ⟨q,hq,rfl⟩:=hb;cases hq;have e:w.heap.size=w.heap.size+1:=e;omega
 have y4:EF w w4:=(x2.then x3).trans x4 fun b hb e=>by
  have e:b=w.heap.size+1:=e;omega
 clear_value w4;intro w5;have x5:EF w4 w5:=(Ext.refl w4).alloc _;have M5:SMap w5 (w.heap.size+2) []:=s4▸SMap.made w4;have s5:w5.heap.size=w.heap.size+3:=by simp [w5,s4]
 clear_value w5;rw [s5,s4];refine ⟨trivial,?_⟩;intro w6;have x6:EF w5 w6:=(Ext.refl w5).alloc _;have B6:Blk w6 (w.heap.size+3) 231 [.map none]:=s5▸Blk.made w5 231 [.map none];have s6:w6.heap.size=w.heap.size+4:=by simp [w6,s5]
 clear_value w6;refine ⟨B6.off (j:=0) (n:=1) (q:=fun _=>false) (by simp) rfl,trivial,?_⟩;intro w7;have x7:Ext (fun k=>k=w.heap.size+3) w6 w7:=Ext.setCell (X:=fun k=>k=w.heap.size+3) (Ext.refl w6) (a:=⟨w.heap.size+3,0,none⟩) (.inl rfl) _;have B7:Blk w7 (w.heap.size+3) 231 [.map (some (w.heap.size+2))]:=B6.set 0 _;have s7:w7.heap.size=w.heap.size+4:=by simp [w7,s6]
 clear_value w7;rw [s7];refine ⟨⟨rfl,trivial⟩,?_⟩;intro w8;have x8:EF w7 w8:=(Ext.refl w7).alloc _;have B8:Blk w8 (w.heap.size+4) 332 [.nilFunc]:=s7▸Blk.made w7 332 [.nilFunc];clear_value w8;refine ⟨B8.off (j:=0) (n:=1) (q:=fun _=>false) (by simp) rfl,trivial,?_⟩;intro w9;have x9:Ext (fun k=>k=w.heap.size+4) w8 w9:=Ext.setCell (X:=fun k=>k=w.heap.size+4) (Ext.refl w8) (a:=⟨w.heap.size+4,0,none⟩) (.inl rfl) _;have B9:Blk w9 (w.heap.size+4) 332 [.func (.func 172) #[] (capT w.heap.size).toArray]:=B8.set 0 _;clear_value w9;have z6:EF w4 w6:=x5.then x6;have S9:TS w (some (adr w.heap.size)) 0 0 [] [] w9:=by
  refine ⟨(((y4.then z6).trans x7 fun b hb e=>?_).then x8).trans x9 fun b hb e=>?_,(((B4.ext z6 id).ext x7 (by omega)).ext x8 id).ext x9 (by omega),⟨[],(((O4.keep z6 fun _ _=>id).keep x7 fun b hb e=>?_).keep x8 fun _ _=>id).keep x9 fun b hb e=>?_,.nil⟩,by simp,(B7.ext x8 id).ext x9 (by omega),⟨[],(((M5.ext x6 id).ext x7 (by omega)).ext x8 id).ext x9 (by omega),fun k=>⟨fun h=>by simp at h,fun _=>rfl⟩⟩,B9⟩
  ·have e:b=w.heap.size+3:=e;omega
  ·have e:b=w.heap.size+4:=e;omega
  ·obtain ⟨q,hq,rfl⟩:=hb;cases hq;have e:w.heap.size=w.heap.size+3:=e;omega
  ·obtain ⟨q,hq,rfl⟩:=hb;cases hq;have e:w.heap.size=w.heap.size+4:=e;omega
 clear x2 O2 x3 B3 x4 B4 O4 y4 x5 M5 x6 B6 x7 B7 x8 B8 x9 B9 z6;refine ⟨_,(S9.kb.at (j:=0) rfl).cell,172,capT w.heap.size,rfl,_,Tryz.func172,by kernel_rfl,?_⟩;refine (c_Tc hwk hfr (topM c.frags ks []+1) ks [] A0 L0 C0 (some (adr w.heap.size)) 0 0 [] w9 (Nat.lt_succ_self _) hp hsp hspf hfs S9 (by simp only [List.length_nil];omega)).mono ?_;rintro _ w15 ⟨rfl,A,n,C,xs,S15,hxs⟩;have hlen:=u_6 (fr:=c.frags) (topM c.frags ks []+1) ks [];have eN:=S15.fl.len (by omega);have elen:=congrArg List.length hxs;simp only [la_,List.length_map,List.length_nil] at elen hlen;rw [List.map_nil,List.nil_append] at hxs;rw [<- hxs];refine ⟨rfl,trivial,A,n,C,(S15.fb.at (j:=0) rfl).cell,?_⟩;have x17:EF w15 (w15.alloc (.map #[] 0)):=(Ext.refl w15).alloc _;have M17:VM (w15.alloc (.map #[] 0)) w15.heap.size []:=⟨[],SMap.made w15,fun k=>⟨fun h=>by simp at h,fun _=>rfl⟩⟩;generalize w15.alloc (.map #[] 0)=w17 at x17 M17 ⊢;have S17:=S15.ext0 x17;obtain ⟨w20,r20,O20,g20⟩:=run_makeSlice_owned (P:=Tryz.prog) w17 w15.heap.size 238 246 Tryz.t246 _ 1 (by kernel_rfl) (by kernel_rfl) rfl (by kernel_rfl) .i64 .i64 n (by omega) (by
  have:Tryz.t246.bytes=8:=by kernel_rfl
  rw [this];omega) (by simp only [maxLen];omega) x17.size
 have x20:EF w17 w20:=Ext.of_grown g20 fun k hk=>by cases hk
 have S20:=S17.ext0 x20;have M20:=M17.ext x20 id;refine ⟨A,n,C,(S17.fb.at (j:=0) rfl).cell,_,0,n,w20,r20,trivial,A,n,C,(S20.fb.at (j:=0) rfl).cell,?_⟩;have hA:∀ b,blkOf A b->b<w15.heap.size:=fun b hb=>(S15.fl.ge b hb).2;have hnl:∀ x∈xs,x.2<w15.heap.size:=fun x hx=>by
  obtain ⟨q,hq⟩:=S15.nd x hx;exact hq.lt
 refine ⟨fun Y YL YC i w1=>0<=i/\i<=n/\TS w A n C (topD c.frags (topM c.frags ks []+1) ks []).2 xs w1/\VM w1 w15.heap.size ((xs.take i.toNat).map (·.1))/\∃ ys,OwnR 246 1 RTf w15.heap.size w1 Y YL YC ys/\(∀ y∈ys,y∈xs)/\ys.map (·.1)=uniqN ((xs.take i.toNat).map (·.1)),fun _ _ _ i _=>((n:Int)-i).toNat,⟨by omega,by omega,S20,by simpa using M20,[],⟨[],O20,.nil⟩,by simp,by simp [uniqN]⟩,?_⟩;rintro Y YL YC i w1 ⟨h0,hi,S1,M1,ys,hY,hyx,hys⟩;have eY:=hY.len (by omega);have hul:=v_p ((xs.take i.toNat).map (·.1));rw [<- hys,List.length_map,List.length_map,List.length_take] at hul;refine ⟨fun hlt=>?_,fun hge=>?_⟩
 ·have hlt:=odt hlt;obtain ⟨x,hx⟩:∃ x,xs[i.toNat]? =some x:=⟨_,List.getElem?_eq_getElem (by omega)⟩;have hxm:=mg_ hx;obtain ⟨cells,o1,f1⟩:=S1.fl;obtain ⟨p,hpA,cs,hcs,hat⟩:=o1.elem f1 (by omega) hx;have hcs:cs=[.pointer (some (adr x.2))]:=hcs;subst hcs;obtain ⟨q,hB⟩:=S1.nd x hxm;have cp:w1.cell? (p.add (i.toNat*1))=some (.pointer (some (adr x.2))):=by simpa using (hat 0 _ rfl).cell
  have hsn:(xs.take (i+1).toNat).map (·.1)=(xs.take i.toNat).map (·.1)++[x.1]:=by
   rw [show (i+1).toNat=i.toNat+1 by omega,List.take_add_one,hx,List.map_append];rfl
  refine ⟨p,hpA,⟨h0,hlt⟩,some (adr x.2),cp,fun K29 hK29=>?_⟩;have key:∀ (Y':OA) (YL' YC':Nat) (ys':List (BA × Nat)) (w':World),TS w A n C (topD c.frags (topM c.frags ks []+1) ks []).2 xs w'->VM w' w15.heap.size ((xs.take i.toNat).map (·.1))->OwnR 246 1 RTf w15.heap.size w' Y' YL' YC' ys'->(∀ y∈ys',y∈xs)->ys'.map (·.1)=addN (uniqN ((xs.take i.toNat).map (·.1))) x.1->K29 Y' YL' YC' w':=by
   intro Y' YL' YC' ys' w' S' M' hY' hyx' hys';obtain ⟨q',hB'⟩:=S'.nd x hxm;obtain ⟨w34,r34,M34,x34⟩:=M'.put x.1;obtain ⟨m,hm,-⟩:=M';refine hK29 Y' YL' YC' w' ⟨adr x.2,rfl,x.1,(hB'.at (j:=0) rfl).cell,w34,r34,trivial,?_⟩;rw [a_a h0 (by omega)];have ne:∀ {b:Nat},b<w15.heap.size->¬ b=w15.heap.size:=fun h=>by omega
   have hwz:=S15.fb.lt;have hwk':=S15.kb.lt;have hwm:=S15.mb.lt;refine next h0 hlt ⟨⟨S'.ext.trans x34 fun b hb e=>?_,S'.fb.ext x34 (ne hwz),S'.fl.keep x34 fun b hb=>ne (hA b hb),fun y hy=>?_,S'.mb.ext x34 (ne hwm),S'.vm.ext x34 (ne (by omega)),S'.kb.ext x34 (ne hwk')⟩,?_,ys',hY'.keep x34 fun b hb e=>hY'.ne_map hm ((show b=_ from e)▸hb),hyx',?_⟩
   ·have e:b=w15.heap.size:=e;have:=S15.ext.size;omega
   ·obtain ⟨q2,hq2⟩:=S'.nd y hy;exact ⟨q2,hq2.ext x34 (ne (hnl y hy))⟩
   ·rw [hsn];exact M34.perm fun k=>by simp [or_comm]
   ·rw [hsn,v_r];exact hys'
  obtain ⟨z,rz,hz⟩:=M1.look x.1;refine ⟨adr x.2,rfl,x.1,(hB.at (j:=0) rfl).cell,z,rz,fun hzf=>?_,fun hzt=>?_⟩
  ·have hno:x.1∉uniqN ((xs.take i.toNat).map (·.1)):=fun h=>by
    rw [hz.2 (v_q.1 h)] at hzf;cases hzf
   obtain ⟨Y',YC',w40,r40,hY',x40,-, -⟩:=hY.one 238 Tryz.t246 _ _ (by kernel_rfl) (by kernel_rfl) rfl (by kernel_rfl) rfl (by kernel_rfl) (by omega) (by decide) (by have:=S1.ext.size;have:=hY.ge;have:=M1.choose_spec.1.lt;omega) (x:=x) (cs:=[.pointer (some (adr x.2))]) rfl (fun v hv=>by
    obtain rfl:v=.pointer (some (adr x.2)):=by simpa using hv
    rfl) rfl (by omega) 238 #[false,false]
   have ne:∀ {b:Nat},b<w15.heap.size->¬ blkOf Y b:=fun h e=>by
    have:=hY.ge _ e;omega
   obtain ⟨m,hm,-⟩:=id M1;have hwz:=S15.fb.lt;have hwk':=S15.kb.lt;have hwm:=S15.mb.lt;refine ⟨trivial,Y',YL+1,YC',w40,r40,trivial,key Y' (YL+1) YC' _ w40 ⟨S1.ext.trans x40 fun b hb=>ne (by have:=S15.ext.size;omega),S1.fb.ext x40 (ne hwz),S1.fl.keep x40 fun b hb=>ne (hA b hb),fun y hy=>?_,S1.mb.ext x40 (ne hwm),S1.vm.ext x40 (ne (by omega)),S1.kb.ext x40 (ne hwk')⟩ (M1.ext x40 (hY.ne_map hm)) hY' (fun y hy=>?_) ?_⟩
   ·obtain ⟨q2,hq2⟩:=S1.nd y hy;exact ⟨q2,hq2.ext x40 (ne (hnl y hy))⟩
   ·rcases ma_.1 hy with hy|hy
    ·exact hyx y hy
    ·rw [List.mem_singleton.1 hy];exact hxm
   ·rw [addN,if_neg hno,List.map_append,hys];rfl
  ·have hin:x.1∈uniqN ((xs.take i.toNat).map (·.1)):=v_q.2 (hz.1 (by simpa using hzt));exact key Y YL YC ys w1 S1 M1 hY hyx (by rw [addN,if_pos hin,hys])
 ·have hle:=odf hge;rw [tl_ (by omega)] at hys;exact ⟨Y,YL,YC,ys,rfl,S1.ext,hY.weaken S15.ext.size,fun x hx=>S1.nd x (hyx x hx),hys⟩
end
theorem v_C (s p:BA)(w:World):CP 125 #[.string s,.string p] w fun e w'=>∃ b,e=.returned (.bool b)/\w'=w/\(b=true->p.size<=s.size/\s.extract 0 p.size=p):=by
 refine u_8 s p w _ ?_;refine u_1 s p w _ fun K hK=>?_;have key:∀ b,(b=true->p.size<=s.size/\s.extract 0 p.size=p)->K b w:=fun b h=>hK b w ⟨b,rfl,trivial,b,rfl,rfl,h⟩;refine ⟨fun h=>⟨⟨by omega,by omega,by simpa using h⟩,key _ fun hb=>⟨by simpa using h,?_⟩⟩,fun h=>key false nofun⟩;simpa using a_b.1 hb
def badSu (c:WCtx):Ev->Prop
 | .op o=>o.kind=bSub/\1<(uniqN ((topO c.frags o).map nameD)).length
 | _=>False
def askN (s:BA):Prop:=2<=s.size/\s.extract 0 2=⟨#[95,95]⟩
section
variable {c:WCtx} {ae cnt:Nat} {bad:Ev->Prop} {l:List Ev} {w:World} {cx:Option OpD} {co:OA} {vm:Nat} {evs:List Value} {node:Value} {ev:Ev}
theorem v_S (hb:Base c)(hVM:∀ b,b=cnt∨b=ae->¬ c.M b)(hbad:∀ e,bad e↔badSu c e)(hne:ae≠cnt)(hfr:∀ f∈c.frags,∀ m∈spL f.kids,isFr c.frags m=true)(hfo:∀ o∈c.ops,∀ m∈spL o.kids,isFr c.frags m=true)(hfew:docW c.ops c.frags<=2097152)(hnh:∀ o∈c.ops,o.kind=bSub->∀ s∈topO c.frags o,¬ askN (nameD s))(hrs:∀ o∈c.ops,o.kind=bSub->lastN Def.name c.types c.rs≠none)(hc:StK bad ae cnt l w)(hw:Wst c cx co vm evs w)(hk:slot ev=0)(hn:f_i c cx w node ev):
  CP 121 #[.pointer (some (adr c.wb)),node,.pointer (some (adr ae))] w fun e w'=>e=.returned (.tuple #[])/\Ext (fun b=>b=cnt∨b=ae) w w'/\StK bad ae cnt (l++[ev]) w':=by
 cases ev with
 | op o=>
  obtain ⟨hcx,b,A,L,C,rfl,hsd,hp,hmem,-⟩:=hn;obtain ⟨A1,L1,C1,A2,L2,C2,A3,L3,C3,pos,hM,hB,hvars,hdirs,hkids⟩:=hp;obtain ⟨q1,q2,q3,s,hSB,-, -, o3⟩:=hb.sch;have hB1:bad (.op o)↔o.kind=bSub/\1<(uniqN ((topO c.frags o).map nameD)).length:=hbad _;have good:¬ o.kind=bSub->(Ending.returned (.tuple #[]))=.returned (.tuple #[])/\Ext (fun b=>b=cnt∨b=ae) w w/\StK bad ae cnt (l++[.op o]) w:=fun h=>by
   have hb:¬ bad (.op o):=fun k=>h (hB1.1 k).1;exact ⟨rfl,Ext.refl w,InK.stop (InK.start hc hb) (by omega) (iff_of_false hb hb)⟩
  refine u_X (some (adr c.wb)) (some (adr b)) (adr ae) w _ fun K4 hK4=>?_;refine ⟨adr c.wb,rfl,some (adr c.sb),(hw.walker.at (j:=1) rfl).cell,adr c.sb,rfl,q3,hw.wk.nd hb.sb hSB (j:=2) rfl rfl,fun h3=>⟨adr b,rfl,o.kind,hw.wk.nd hM hB (j:=1) rfl rfl,?_⟩,fun h3=>hK4 true w ⟨fun _=>good fun hs=>hrs o hmem hs (o3.isNone.1 h3),nofun⟩⟩;refine hK4 _ w ⟨fun h=>good (g_r h),fun h=>?_⟩;have hsub:=b_2 h;have hfew1:=v_k hfew hmem;refine ⟨adr b,rfl,A3,L3,C3,hw.wk.nd hM hB (j:=5) rfl rfl,?_⟩;refine (v_G hw.wk hfr hkids (hsd.1 A3 L3 C3 (hB.at (j:=5) rfl)) hsd.2 (hfo o hmem) (by simp only [List.length_nil] at hfew1;omega)).mono ?_;rintro _ w10 ⟨Y,YL,YC,ys,rfl,x10,hY,hnd,hys⟩;have hys:ys.map (·.1)=uniqN ((topO c.frags o).map nameD):=hys;have eY:=hY.len (by omega);have elen:=congrArg List.length hys;rw [List.length_map] at elen;have k10:=hw.wk.trans (Wk.ofExt x10 fun _ _=>id);have hYl:YL<=4194304:=by
   have h1:=v_p ((topO c.frags o).map nameD);rw [List.length_map] at h1;have h2:=v_t hfew hmem;omega
  have hc10:=Cnt.ext hc x10 id id;have hla:=hc.1.lt;have hlc:cnt<w.heap.size:=by
   obtain ⟨-, n,hn,-⟩:=hc;exact hn.lt
  have hel:∀ {w16:World},Ext (fun b=>b=cnt∨b=ae) w10 w16->∀ (j:Nat) x,ys[j]? =some x->∃ p q,Y=some p/\w16.cell? (p.add j)=some (.pointer (some (adr x.2)))/\Blk w16 x.2 245 [.string x.1,.pointer q]:=fun {w16} x16 j x hx=>by
   obtain ⟨cells,o1,f1⟩:=hY.keep x16 fun b hb e=>by
    have:=hY.ge b hb;rcases e with rfl|rfl<;>omega
   obtain ⟨p,hpA,cs,hcs,hat⟩:=o1.elem f1 (by omega) hx;have hcs:cs=[.pointer (some (adr x.2))]:=hcs;subst hcs;obtain ⟨q,hBx⟩:=hnd x (mg_ hx);refine ⟨p,q,hpA,by simpa using (hat 0 _ rfl).cell,hBx.ext x16 fun e=>?_⟩;rcases e with e|e
   ·obtain ⟨-, n,hn,-⟩:=hc10;rw [e] at hBx;have:=hBx.symm.trans hn;simp only [Option.some.injEq,Obj.cells.injEq] at this;exact absurd this.2.1 (by decide)
   ·rw [e] at hBx;have:=hBx.symm.trans hc10.1;simp only [Option.some.injEq,Obj.cells.injEq] at this;exact absurd this.2.1 (by decide)
  refine ⟨Y,YL,YC,rfl,trivial,fun K12 hK12=>?_⟩;have fin:∀ nm:BA,K12 nm w10:=fun nm=>hK12 nm w10 fun K15 hK15=>by
   have loop:∀ w16,Ext (fun b=>b=cnt∨b=ae) w10 w16->InK bad ae cnt l 1 (1<YL) w16->K15 w16:=fun w16 x16 hin=>by
    refine hK15 w16 ⟨fun j w1=>0<=j/\j<=YL/\w1=w16,fun j _=>((YL:Int)-j).toNat,⟨by omega,by omega,rfl⟩,?_⟩;rintro j w1 ⟨j0,hj,rfl⟩;refine ⟨fun jlt=>fun K21 hK21=>?_,fun jge=>⟨rfl,(x10.toM _).trans x16 fun _ _ e=>e,InK.stop hin (by omega) ?_⟩⟩
    ·have jlt:=odt jlt;obtain ⟨x,hx⟩:∃ x,ys[j.toNat]? =some x:=⟨_,List.getElem?_eq_getElem (by omega)⟩;obtain ⟨p,q,hpY,cp,hBx⟩:=hel x16 j.toNat x hx;refine ⟨p,hpY,⟨j0,jlt⟩,some (adr x.2),by rw [Nat.mul_one];exact cp,adr x.2,rfl,x.1,(hBx.at (j:=0) rfl).cell,?_⟩;refine (v_C x.1 ⟨#[95,95]⟩ w1).mono ?_;rintro _ _ ⟨b29,rfl,rfl,hb29⟩;refine ⟨b29,rfl,trivial,fun h=>?_,fun _=>hK21 _ ?_⟩
     ·exfalso;have hin:x.1∈uniqN ((topO c.frags o).map nameD):=by
       rw [<- hys];exact mm_.2 ⟨x,mg_ hx,rfl⟩
      obtain ⟨s,hs,he⟩:=mm_.1 (v_q.1 hin);refine hnh o hmem hsub s hs ?_;rw [he];exact hb29 h
     ·rw [a_a j0 (by omega)];exact next j0 jlt rfl
    ·rw [hB1];exact ⟨fun h=>⟨hsub,by omega⟩,fun h=>by have:=h.2;omega⟩
   refine ⟨fun hgt=>fun w47 e47=>?_,fun hle=>loop w10 (Ext.refl w10) (InK.good (InK.start (b:=(1<YL)) hc10 (by have:=odf hle;omega)) (by omega) Iff.rfl)⟩;have hgt:=odt hgt;have x47:EF w10 w47:=by rw [e47];exact (Ext.refl w10).drew
   clear e47;obtain ⟨x,hx⟩:∃ x,ys[1]? =some x:=⟨_,List.getElem?_eq_getElem (by omega)⟩;obtain ⟨p,q,hpY,cp,hBx⟩:=hel (x47.toM _) 1 x hx;have hc47:=Cnt.ext hc10 x47 id id;have aX:=hBx.at (j:=1) rfl;have aE:At w47 _ (adr ae) _:=hc47.1.at (j:=0) rfl;have x53:EF w47 (w47.alloc (.cells #[ifcV (some (9,.string nm))] 20)):=(Ext.refl w47).alloc _;have ce:∀ {w1 w2:World},EF w47 w1->EF w1 w2->∀ {a:Addr} {v:Value},w47.cell? a=some v->w2.cell? a=w1.cell? a:=fun {w1 w2} h1 h2 {a v} hv=>h2.cell_eq id ((h1.cell_eq id hv).trans hv);have cp':w47.cell? (p.add ((1:Int).toNat*1))=some (.pointer (some (adr x.2))):=cp;have cx':w47.cell? ((adr x.2).add 1)=some (.pointer q):=aX.cell;refine ⟨_,aE.cell,p,hpY,⟨by omega,by omega⟩,some (adr x.2),cp',adr x.2,rfl,q,cx',trivial,⟨ce (Ext.refl w47) x53 cx',ce (Ext.refl w47) x53 cp',ce (Ext.refl w47) x53 aE.cell,trivial⟩,?_⟩;refine c_x.mono ?_;rintro _ w55 ⟨v56,rfl,o56,x55⟩;have y55:=x53.then x55;refine ⟨v56,rfl,trivial,⟨ce x53 x55 cx',ce x53 x55 cp',ce x53 x55 aE.cell,trivial⟩,?_⟩;refine j_b.mono ?_;rintro _ w58 ⟨v59,rfl,o59,x58⟩;have y58:=y55.then x58;have x60:EF w58 (w58.alloc (.cells #[v56,v59] 241)):=(Ext.refl w58).alloc _;have y60:=y58.then x60;refine ⟨v59,rfl,trivial,⟨ce y55 x58 aE.cell,trivial⟩,⟨o56,o59,trivial⟩,⟨ce y58 x60 aE.cell,trivial⟩,119,[.pointer (some (adr cnt))],rfl,_,Tryz.func119,by kernel_rfl,?_⟩;refine (n_T (hc47.ext y60 id id) hne).mono ?_;rintro _ w65 ⟨rfl,x65,c65⟩;exact ⟨rfl,trivial,trivial,loop w65 (((x47.then y60).toM _).trans x65 fun _ _ e=>e) (InK.told (k:=0) c65 (by omega) (by omega))⟩
  exact ⟨adr b,rfl,o.name,k10.nd hM hB (j:=2) rfl rfl,fun _=>fin _,fun _=>fin _⟩
 | _=>cases hk
end
theorem v_L {fr:List Frag}(hf:∀ f∈fr,nhL f.kids):∀ (d:Nat) (ks:List Sel) (b:List BA),nhL ks->∀ s∈(topD fr d ks b).1,¬ hidD (nameD s)
 | 0,ks,b,_,s,hs=>by simp [topD] at hs
 | d+1,ks,b,hk,s,hs=>by
  have key:∀ (l:List Sel) (b:List BA),nhL l->∀ s∈(topL fr (topD fr d) l b).1,¬ hidD (nameD s):=by
   intro l;induction l with
   | nil=>intro b _ s hs;simp [topL] at hs
   | cons x l ih=>
    intro b hl s hs;simp only [nhL] at hl;simp only [topL,ma_] at hs;rcases hs with hs|hs
    ·obtain ⟨k,al,m,on,args,dirs,kids⟩:=x;simp only [nhS] at hl;rw [topS] at hs;by_cases hk:k=0
     ·rw [if_pos hk] at hs;obtain rfl:=List.mem_singleton.1 hs;exact hl.1.1
     ·rw [if_neg hk] at hs;by_cases hk1:k=1
      ·rw [if_pos hk1] at hs;cases hfn:a_h Frag.name fr m with
       | none=>rw [hfn] at hs;simp at hs
       | some f=>
        rw [hfn] at hs;dsimp only at hs;split at hs
        ·simp at hs
        ·exact v_L hf d f.kids _ (hf f (a_U hfn).1) s hs
      ·rw [if_neg hk1] at hs;exact v_L hf d kids b hl.1.2 s hs
    ·exact ih _ hl.2 s hs
  exact key ks b hk s hs
theorem v_T (types:List Def)(dirs:List DirDef)(defs:List SchemaDef)(ops:List OpD)(frags:List Frag)(hO:OkSchema types dirs defs)(h12:ops.length<=12)(h12':frags.length<=12)(ok1:∀ x∈ops,okOp x)(ok2:∀ x∈frags,b_j x)(hs:docW ops frags<=2097152)(hS:SoundD types (a_F types defs) ops frags)(hP:((∀ x∈ops,nhL x.kids)/\∀ x∈frags,nhL x.kids)/\bareD ops frags):
  RuleOK 55 (wideD types dirs (a_F types defs)) ops frags fun n=>0<=n/\(n>0↔manyD ops frags):=by
 refine ⟨⟨_,Tryz.func55,by kernel_rfl⟩,?_⟩;intro c cnt hops hfrags hwd hb hB hcnt hne hMc hMe;subst hops;subst hfrags;obtain ⟨rf,hrf⟩:=l_q hS.ac;obtain ⟨⟨hnh1,hnh2⟩,hbare⟩:=hP;have hfo:∀ o∈c.ops,∀ m∈spL o.kids,isFr c.frags m=true:=fun o ho m hm=>hS.sp m (ma_.2 (.inl (mf_.2 ⟨o,ho,hm⟩)));have hfr:∀ f∈c.frags,∀ m∈spL f.kids,isFr c.frags m=true:=fun f hf m hm=>hS.sp m (ma_.2 (.inr (mf_.2 ⟨f,hf,hm⟩)));have hask:∀ o∈c.ops,o.kind=bSub->∀ s∈topO c.frags o,¬ askN (nameD s):=fun o ho hsub s hs h=>v_L hnh2 _ _ _ (hnh1 o ho) s hs ⟨h.1,h.2,(hbare o ho hsub s hs).1⟩;have hrs:∀ o∈c.ops,o.kind=bSub->lastN Def.name c.types c.rs≠none:=fun o ho hsub h=>by
  have hne:=hS.rt o ho;rw [hsub] at hne;have e1:c.types=a_P++types:=hwd.1;have e2:c.rs=rootD (a_F types defs) bSub:=hwd.2.2.2.2.1;rw [e1,e2,c_N hO] at h;have hk:(findD types (rootD (a_F types defs) bSub)).1.kind=a_V:=by
   unfold rootD at hne ⊢;cases hf:(a_F types defs).find? fun r=>r.op.toList==bSub.toList with
   | none=>rw [hf] at hne;exact absurd rfl hne
   | some r=>exact hO.roots.2.2.2 r (List.mem_of_find?_eq_some hf)
  split at h
  ·cases h
  ·rename_i hf;rw [e_z (by simpa using hf)] at hk;exact absurd hk (by decide)
 have x3:EF c.w0 (c.w0.alloc (.cells #[.func (.func 119) #[] #[.pointer (some (adr cnt))]] 223)):=(Ext.refl c.w0).alloc _;have Bae:=Blk.made c.w0 223 [.func (.func 119) #[] #[.pointer (some (adr cnt))]];refine u_Y (some (adr c.eb)) _ c.w0 _ ⟨⟨rfl,trivial⟩,?_⟩;have hlc:=hcnt.lt;have hle:=hB.lt;generalize hw3:c.w0.alloc (.cells #[.func (.func 119) #[] #[.pointer (some (adr cnt))]] 223)=w3;replace x3:EF c.w0 w3:=by rw [<- hw3];exact x3
 replace Bae:Blk w3 c.w0.heap.size 223 [.func (.func 119) #[] #[.pointer (some (adr cnt))]]:=by rw [<- hw3];exact Bae
 clear hw3;have hla:=Bae.lt;refine (u_d (f:=.func (.func 121) #[] #[.pointer (some (adr c.w0.heap.size))]) rfl (hB.ext x3 id) rfl).mono ?_;rintro _ w5 ⟨rfl,p,C,B5,ap,hpb,x5⟩;have y5:Ext (fun b=>b=c.eb) c.w0 w5:=(x3.toM _).trans x5 fun _ _ e=>e;have hz5:=x5.size;have hz3:=x3.size;have hae:c.w0.heap.size≠cnt:=by omega
 have Bae5:=Bae.ext x5 (by show ¬ c.w0.heap.size=c.eb;omega);have Bc5:=hcnt.ext y5 hne;have hVM:∀ b,b=cnt∨b=c.w0.heap.size->¬ c.M b:=fun b hV hM=>by
  have:=hb.m b hM;rcases hV with rfl|rfl
  ·exact hMc hM
  ·omega
 refine ⟨rfl,trivial,rfl,y5,fun b=>b=cnt∨b=c.w0.heap.size,StK (badSu c) c.w0.heap.size cnt,obL [(0,p,C)],rf,?_,fun b hb'=>?_,fun b hb' T cs fr ho=>?_,fun l w'' hl ht=>?_⟩
 ·refine n_H hb hrf hMe y5 (fun b hb'=>hb'.imp id fun e=>by omega) hlc hne hMc hle (fun l w w'' h hx=>Cnt.ext h hx (fun e=>e (.inr rfl)) fun e=>e (.inl rfl)) (Cnt.zero Bae5 Bc5 (by simp)) B5 fun b5 wb fm fl j=>o_M (fun x hx=>?_) j;simp only [mc_,nn_,or_false] at hx;subst hx;refine ⟨_,_,[.pointer (some (adr c.w0.heap.size))],_,ap,fun h=>?_,fun h=>?_,Tryz.func121,by kernel_rfl,fun l w1 cx co vm evs node ev hl hw hk hn=>v_S (b5.at3 wb fm fl) hVM (fun e=>Iff.rfl) hae hfr hfo hs hask hrs hl hw hk hn⟩
  ·have:p.block<c.w0.heap.size:=hb.m _ h;omega
  ·have:p.block=cnt∨p.block=c.w0.heap.size:=h;omega
 ·rcases hb' with rfl|rfl
  ·exact .inr (Nat.le_refl _)
  ·exact .inr (by omega)
 ·rcases hb' with rfl|rfl
  ·rw [Bc5.type ho];decide
  ·rw [Bae5.type ho];decide
 ·obtain ⟨-, n,hn,hk⟩:=hl;have hsm:=o_K (c:={ c with V:=fun b=>b=cnt∨b=c.w0.heap.size,St:=StK (badSu c) c.w0.heap.size cnt,w0:=w5,rf:=rf}) (ob:=obL [(0,p,C)]) h12 h12' hs;obtain ⟨k1,k2,k3⟩:=hk (lt_ (Nat.mul_le_mul_right _ (lt_ ht.few hsm)) (by decide));have hal:∀ o∈c.ops,o.kind=bSub->(topO c.frags o).map u_W=(topO c.frags o).map nameD:=fun o ho hsub=>List.map_congr_left fun s hs=>(hbare o ho hsub s hs).2;refine ⟨n,hn,k1,k3.trans ((ht.bad fun e hbad=>?_).trans ⟨?_,?_⟩)⟩
  ·cases e with
   | op o=>rfl
   | _=>cases hbad
  ·rintro ⟨e,hdoc,hbad⟩;cases e with
   | op o=>
    have ho:o∈c.ops:=u_t.1 hdoc;obtain ⟨h1,h2⟩:=hbad;exact ⟨o,ho,h1,by rw [hal o ho h1];exact h2⟩
   | _=>cases hbad
  ·rintro ⟨x,hx,h1,h2⟩;exact ⟨.op x,u_t.2 hx,h1,by rw [<- hal x hx h1];exact h2⟩
theorem u_Z {P:Int->Prop}{wd:WorldD}{a1:OA}{l1 c1:Nat}{a2:OA}{l2 c2:Nat}{a6:OA}{l6 c6:Nat}{a7:OA}{l7 c7:Nat}{q8:OA}{q8l q8c:Nat}{q9:OA}{q9l q9c:Nat}{ops:List OpD}{frags:List Frag}{w:World}
  (hw:c_6 w wd [.slice a1 l1 c1,.slice a2 l2 c2,.string wd.query,.string wd.mutation,.string wd.subscription,.slice a6 l6 c6,.slice a7 l7 c7]) (ok3:∀ x∈wd.dirs,∀ y∈x.args,a_s y) (ok4:∀ x∈wd.types,okDef x)
  (few6:(pushD wd.types wd.possible).length<=4194304) (few7:(pushD wd.types wd.implements).length<=4194304) (hl1:ROps w q8 q8l q8c ops) (hl2:a_X w q9 q9l q9c frags) (ok1:∀ x∈ops,okOp x) (ok2:∀ x∈frags,b_j x) (hr:RuleOK 55 wd ops frags P) (hB0:DB.B<=w.heap.size):
  CP 14 #[.agg #[.slice a1 l1 c1,.slice a2 l2 c2,.string wd.query,.string wd.mutation,.string wd.subscription,.slice a6 l6 c6,.slice a7 l7 c7],.agg #[.slice q8 q8l q8c,.slice q9 q9l q9c]] w fun e w'=>
   ∃ n,e=.returned (.tuple #[.int .i64 n,.bool true])/\P n/\EF w w':=by
 have x11:EF w (w.alloc (.cells #[.slice a1 l1 c1,.slice a2 l2 c2,.string wd.query,.string wd.mutation,.string wd.subscription,.slice a6 l6 c6,.slice a7 l7 c7] 40)):=(Ext.refl w).alloc _;have x12:=x11.alloc (.cells #[.slice q8 q8l q8c,.slice q9 q9l q9c] 30);refine u_0 a1 l1 c1 a2 l2 c2 wd.query wd.mutation wd.subscription a6 l6 c6 a7 l7 c7 q8 q8l q8c q9 q9l q9c w _ ⟨trivial,trivial,?_⟩;refine (j_d (c_6.keep x12.keep hw) ok3 ok4 few6 few7 (hl1.keep x12.keep) (hl2.keep x12.keep) ok1 ok2 hr (lt_ hB0 x12.size)).mono ?_;rintro _ w' ⟨n,rfl,hp,hx⟩;exact ⟨n,true,rfl,⟨hx.keepT _,hx.keepT _,trivial⟩,n,rfl,hp,x12.then hx⟩
theorem v_v
  {d1:OA} {d1l d1c:Nat} {d2:OA} {d2l d2c:Nat} {d3:OA} {d3l d3c:Nat} {d4:OA} {d4l d4c:Nat} {d5:OA} {d5l d5c:Nat} {q6:OA} {q6l q6c:Nat} {q7:OA} {q7l q7c:Nat} {defs exts:List SchemaDef} {dirs:List DirDef} {types texts:List Def} {ops:List OpD} {frags:List Frag} {w:World}
  (h1:a_p w d1 d1l d1c defs) (h2:a_p w d2 d2l d2c exts) (h3:a_Y w d3 d3l d3c dirs) (h4:RDefs w d4 d4l d4c types) (h5:RDefs w d5 d5l d5c texts) (hs:d1l+d2l<=4194304) (hsp:docW ops frags<=2097152) (h6:ROps w q6 q6l q6c ops) (h7:a_X w q7 q7l q7c frags) (hB0:DB.B<=w.heap.size):
  CP 3 #[.agg #[.slice d1 d1l d1c,.slice d2 d2l d2c,.slice d3 d3l d3c,.slice d4 d4l d4c,.slice d5 d5l d5c],.agg #[.slice q6 q6l q6c,.slice q7 q7l q7c]] w fun e w'=>e=.returned (.bool true)/\EF w w':=by
 have x8:EF w (w.alloc (.cells #[.slice d1 d1l d1c,.slice d2 d2l d2c,.slice d3 d3l d3c,.slice d4 d4l d4c,.slice d5 d5l d5c] 26)):=(Ext.refl w).alloc _;have x9:=x8.alloc (.cells #[.slice q6 q6l q6c,.slice q7 q7l q7c] 30);refine v_a d1 d1l d1c d2 d2l d2c d3 d3l d3c d4 d4l d4c d5 d5l d5c q6 q6l q6c q7 q7l q7c w _ ⟨trivial,trivial,fun K10 hK10=>?_⟩;have key10:∀ b w',EF w w'->K10 b w':=by
  intro b w' xw;refine hK10 b w' ⟨fun _=>⟨rfl,xw⟩,fun _=>?_⟩;refine (n_5 (h1.keep xw.keep) (h2.keep xw.keep) (h3.keep xw.keep) (h4.keep xw.keep) (h5.keep xw.keep) hs (lt_ hB0 xw.size)).mono ?_;rintro _ w14 ⟨q15,b16,rfl,x14,hok⟩;refine ⟨q15,b16,rfl,⟨x14.keepT _,x14.keepT _,trivial⟩,fun K17 hK17=>?_⟩;have y14:=xw.then x14;have key17:∀ b w',EF w14 w'->(b=false->b16=true/\ops.length<=12/\frags.length<=12/\(∀ x∈ops,okOp x)/\(∀ x∈frags,b_j x)/\SoundD types (a_F types defs) ops frags/\(((∀ x∈ops,nhL x.kids)/\∀ x∈frags,nhL x.kids)/\bareD ops frags))->K17 b w':=by
   intro b w19 x19 hb;have y19:=y14.then x19;refine hK17 b w19 ⟨fun _=>⟨rfl,y19⟩,fun hbf=>?_⟩;obtain ⟨hb16,n1,n2,ok1,ok2,hS,hP⟩:=hb hbf;obtain ⟨k,rfl,A,L,C,hB,hR,hO⟩:=hok hb16;intro w20 e20;have x20:EF w19 w20:=by rw [e20];exact (Ext.refl w19).drew
   have y20:=y19.then x20;have z20:=x19.then x20;refine (i_8 (hB.ext z20 id) (h4.keep y20.keep) (hR.keep z20.keep) (h3.keep y20.keep) hO.few.1 (fun t ht=>by have:=hO.small t ht;omega) hO.few.2 (lt_ hB0 y20.size)).mono ?_;rintro _ w22 ⟨cs,rfl,hW,x22⟩;obtain ⟨ok3,ok4,few6,few7⟩:=k_I hO;have hW':=hW;obtain ⟨a1,l1,c1,a2,l2,c2,a6,l6,c6,a7,l7,c7,rfl,-⟩:=hW';have y22:=y20.then x22;refine ⟨a1,l1,c1,a2,l2,c2,_,_,_,a6,l6,c6,a7,l7,c7,rfl,⟨x22.keepT _,x22.keepT _,trivial⟩,⟨rfl,trivial⟩,?_⟩;refine (u_Z hW ok3 ok4 few6 few7 (h6.keep y22.keep) (h7.keep y22.keep) ok1 ok2 (v_T types dirs defs ops frags hO n1 n2 ok1 ok2 hsp hS hP) (lt_ hB0 y22.size)).mono ?_;rintro _ w31 ⟨n,rfl,⟨hn0,hn⟩,x31⟩;have y31:=y22.then x31;refine ⟨n,true,rfl,⟨x31.keepT _,x31.keepT _,trivial⟩,trivial,trivial,trivial,?_⟩;have z31:=(z20.then x22).then x31;refine (v_d (hB.ext z31 id) (hR.keep z31.keep) (h6.keep y31.keep) (h7.keep y31.keep) ok1 ok2 hsp).mono ?_;rintro _ w35 ⟨b36,rfl,x35,hb36⟩;have y35:=y31.then x35;refine ⟨b36,rfl,⟨x35.keepT _,x35.keepT _,trivial⟩,?_⟩;refine (j_9 n true b36 w35).mono ?_;rintro _ w38 ⟨rfl,rfl⟩;refine ⟨_,rfl,⟨(Ext.refl _).keepT _,(Ext.refl _).keepT _,trivial⟩,?_,y35⟩;rw [n_f hn0 (hn.trans hb36.symm)]
  refine ⟨fun hb=>?_,fun hb=>key17 true w14 (Ext.refl w14) nofun⟩;refine (v_M (h6.keep y14.keep) (h7.keep y14.keep)).mono ?_;rintro _ w41 ⟨b42,rfl,x41,hsm⟩;have y41:=y14.then x41;refine ⟨b42,rfl,⟨x41.keepT _,x41.keepT _,trivial⟩,fun h42=>?_,fun _=>key17 true w41 x41 nofun⟩;obtain ⟨n1,n2,ok1,ok2,nh⟩:=hsm (by simpa using h42);obtain ⟨k,rfl,A,L,C,hB,hR,hO⟩:=hok (by simpa using hb);refine (i_c (hB.ext x41 id) (h4.keep y41.keep) (hR.keep x41.keep) (h6.keep y41.keep) (h7.keep y41.keep) ok1 ok2 n2 hsp).mono ?_;rintro _ w53 ⟨b54,rfl,x53,hS⟩;have z53:=x41.then x53;have y53:=y41.then x53;refine ⟨b54,rfl,⟨x53.keepT _,x53.keepT _,trivial⟩,fun h54=>?_,fun _=>key17 true w53 z53 nofun⟩;have hS':=hS (by simpa using h54);refine (v_w (hB.ext z53 id) (hR.keep z53.keep) (h6.keep y53.keep) (h7.keep y53.keep) ok1 ok2 hsp).mono ?_;rintro _ w56 ⟨b57,rfl,x56,hP⟩;exact ⟨b57,rfl,⟨x56.keepT _,x56.keepT _,trivial⟩,key17 _ w56 (z53.then x56) fun h=>⟨by simpa using hb,n1,n2,ok1,ok2,hS',nh,hP (by simpa using h)⟩⟩
 refine (f_4 d1 d1l d1c d2 d2l d2c d3 d3l d3c d4 d4l d4c d5 d5l d5c _).mono ?_;rintro _ w44 ⟨b45,rfl,x44,-⟩;have y44:=x9.then x44;refine ⟨b45,rfl,⟨x44.keepT _,x44.keepT _,trivial⟩,fun _=>?_,fun _=>key10 true w44 y44⟩;refine (f_5 q6 q6l q6c q7 q7l q7c _).mono ?_;rintro _ w47 ⟨b48,rfl,x47,-⟩;exact ⟨b48,rfl,⟨x47.keepT _,x47.keepT _,trivial⟩,key10 _ w47 (y44.then x47)⟩
end Go.VC
