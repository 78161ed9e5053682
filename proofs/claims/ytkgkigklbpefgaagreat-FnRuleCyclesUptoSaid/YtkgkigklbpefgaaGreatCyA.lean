/- Part of the proof of a law of a rule over documents (CyA), where what the arguments hold is of bulk at most 1048576. -/
import Derived.Test.YtkgkigklbpefgaaGreatBaseB
import Derived.Test.YtkgkigklbpefgaaGreatWalkD
import Derived.Test.YtkgkigklbpefgaaGreatLawA
import Derived.Test.YtkgkigklbpefgaaGreatSpecE
set_option linter.unusedVariables false
set_option linter.unusedSimpArgs false
set_option linter.unusedSectionVars false
namespace Go.VC
open Go Go.Proofs
variable {α:Type}{n:BA}{f:Frag}{mm:List (BA × Value)}{frags:List Frag}{ops:List OpD}{X:Nat->Prop}
set_option maxRecDepth 100000
theorem t_y (a:OA)(b:Value)(w:World)(R:EW)(h:
 (b.oneCell'=true/\True)/\(let c:=w.alloc (.cells #[b] 161);
 let d:=c.alloc (.map #[] 0);
 True/\(let e:=d.alloc (.cells #[.map none] 208);
 Off e (adr d.heap.size) 1 []/\True/\(let f:=(e.setCell (adr d.heap.size) (.map (some c.heap.size)));
 C0 136 #[.pointer a,(.func (.func 137) #[] #[(.pointer (some (adr d.heap.size))),(.pointer (some (adr w.heap.size)))])] f (fun g=>True/\R (.returned (.tuple #[])) g))))):CP 80 #[.pointer a,b] w R:=
 vcq Tryz.func80 [] [] [.l (.optr a),.l (.val b)] h
theorem t_x (a:OA)(b:OA)(c:Addr)(d:Addr)(w:World)(R:EW)(h:
 True/\(let e:=w.alloc (.cells #[.pointer a] 170);
 True/\(let f:=e.alloc (.cells #[.slice none 0 0] 257);
 let g:=f.alloc (.map #[] 0);
 True/\(let i:=g.alloc (.cells #[.map none] 258);
 Off i (adr g.heap.size) 1 []/\True/\(let j:=(i.setCell (adr g.heap.size) (.map (some f.heap.size)));
 (Value.nilFunc.oneCell'=true/\True)/\(let k:=j.alloc (.cells #[Value.nilFunc] 259);
 Off k (adr j.heap.size) 1 []/\True/\(let l:=(k.setCell (adr j.heap.size) (.func (.func 138) #[] #[(.pointer (some c)),(.pointer (some (adr e.heap.size))),(.pointer (some (adr g.heap.size))),(.pointer (some (adr w.heap.size))),(.pointer (some (adr j.heap.size))),(.pointer (some d))]));
 Lv l (adr j.heap.size) fun m=>∃ n o,m=.func (.func n) #[] o.toArray/\∃ p,Tryz.prog.funcs[n]? =some p/\(p.name== "runtime.NumGoroutine" ||p.body.isNone)=false/\CP n ([.pointer b]++o).toArray l (fun q r=>q=.returned (.tuple #[])/\True/\R (.returned (.tuple #[])) r)))))))):CP 137 #[.pointer a,.pointer b,(.pointer (some c)),(.pointer (some d))] w R:=
 vcq Tryz.func137 [] [] [.l (.optr a),.l (.optr b),.l (.ptr c),.l (.ptr d)] h
theorem t_w (a:OA)(b:Addr)(c:Addr)(d:Addr)(e:Addr)(f:Addr)(g:Addr)(w:World)(R:EW)(h:
 ∀ i,i=w.drew->Lm i b fun j=>Pt a fun k=>Ls i (k.add 1) fun l=>∃ m,(Instr.lookup 208 (.map j) (.string l) false).run Tryz.prog i=.ok (.bool m) i/\(Br m (R (.returned (.tuple #[])) i) (∀ n,n=i.drew->Lm n b fun o=>Pt a fun p=>Ls n (p.add 1) fun q=>∃ r,(Instr.mapUpdate 208 (.map o) (.string q) (.bool true)).run Tryz.prog n=.ok () r/\True/\True/\Pt a fun s=>Ll r (s.add 5) fun t u v=>Cl 139 #[.slice t u v] r (fun x y z A=>True/\(Br ((y:Int)==0) (R (.returned (.tuple #[])) A) (∀ B,B=A.drew->Lm B d fun C=>Pt a fun D=>Ls B (D.add 1) fun E=>Ll B c fun F G H=>∃ I,(Instr.mapUpdate 258 (.map C) (.string E) (.int .i64 (G:Int))).run Tryz.prog B=.ok () I/\True/\True/\∃ (J:Int->World->Prop) (K:Int->World->Nat),J 0 I/\
 (∀ L:Int,∀ M:World,J L M->
 (Br (decide (L<(y:Int))) (Ix x L y fun N=>Lp M (N.add (L.toNat*1)) fun O=>Pt O fun P=>Ls M P fun Q=>Lm M d fun S=>∃ U,∃ V,(Instr.lookup 258 (.map S) (.string Q) true).run Tryz.prog M=.ok (.tuple #[.int .i64 U,.bool V]) M/\Ll M c fun W X Y=>True/\(let Z:=M.alloc (.cells #[.pointer O] 228);
 Ap 257 (.slice W X Y) (.slice (some (adr M.heap.size)) 1 1) Z fun aa ab ac ad=>True/\Off ad c 1 []/\True/\(let ae:=(ad.setCell c (.slice aa ab ac));
 ∀ af:World->Prop,(∀ ag:World,
 (Ll ag c fun ah ai aj=>Ll ag c fun ak al am=>(0<=(0:Int)/\0<=(wr ((al:Int)-1))/\(wr ((al:Int)-1))<=(aj:Int))/\Off ag c 1 []/\True/\(let an:=(ag.setCell c (.slice (if aj=(0:Int).toNat then ah else Option.map (·.add ((0:Int).toNat*1)) ah) ((wr ((al:Int)-1)).toNat-(0:Int).toNat) (aj-(0:Int).toNat)));
 (J (wr (L+1)) an/\K (wr (L+1)) an<K L M)))->
 af ag)->
 (Br (!V) (Lp ae e fun ao=>Pt ao fun ap=>Lp ae (ap.add 2) fun aq=>Pt aq fun ar=>Ll ae (ar.add 1) fun au av ax=>Cp 140 #[.slice au av ax,.string Q] ae (fun ay az=>True/\(Br (!ay.isNone) (Lv az f fun aA=>∃ aB aC,aA=.func (.func aB) #[] aC.toArray/\∃ aD,Tryz.prog.funcs[aB]? =some aD/\(aD.name== "runtime.NumGoroutine" ||aD.body.isNone)=false/\CP aB ([.pointer ay]++aC).toArray az (fun aE aF=>aE=.returned (.tuple #[])/\True/\af aF)) (af az)))) (∀ aG,aG=ae.drew->Lv aG g fun aH=>Pt O fun aI=>Lp aG (aI.add 4) fun aJ=>CP 116 #[(.string (⟨#[67,97,110,110,111,116,32,115,112,114,101,97,100,32,102,114,97,103,109,101,110,116,32,119,105,116,104,105,110,32,105,116,115,101,108,102,46]⟩:BA)),.slice none 0 0] aG (fun aK aL=>∃ aM:Value,aK=.returned aM/\True/\((aL.cell? (aI.add 4)=aG.cell? (aI.add 4))/\(aL.cell? g=aG.cell? g)/\True)/\CP 117 #[.pointer aJ] aL (fun aN aO=>∃ aP:Value,aN=.returned aP/\True/\((aO.cell? g=aL.cell? g)/\True)/\(aM.oneCell'=true/\aP.oneCell'=true/\True)/\(let aQ:=aO.alloc (.cells #[aM,aP] 181);
 ((aQ.cell? g=aO.cell? g)/\True)/\∃ aS aU,aH=.func (.func aS) #[] aU.toArray/\∃ aV,Tryz.prog.funcs[aS]? =some aV/\(aV.name== "runtime.NumGoroutine" ||aV.body.isNone)=false/\CP aS ([(.slice (some (adr aO.heap.size)) 2 2)]++aU).toArray aQ (fun aW aX=>aW=.returned (.tuple #[])/\True/\True/\af aX))))))))) (∀ aY,aY=M.drew->Lm aY d fun aZ=>Pt a fun ba=>Ls aY (ba.add 1) fun bb=>∃ (bc:Value) (bd:World),(Go.builtin .delete #[258,9] 0 #[false,false] #[.map aZ,.string bb]).run Tryz.prog aY=.ok (.value bc) bd/\True/\True/\R (.returned (.tuple #[])) bd))))))))):CP 138 #[.pointer a,(.pointer (some b)),(.pointer (some c)),(.pointer (some d)),(.pointer (some e)),(.pointer (some f)),(.pointer (some g))] w R:=
 vcq Tryz.func138 [] [(22,⟨[(43,.int .i64)],[]⟩),(39,⟨[],[]⟩)] [.l (.optr a),.l (.ptr b),.l (.ptr c),.l (.ptr d),.l (.ptr e),.l (.ptr f),.l (.ptr g)] h
theorem t_z (a:OA)(b c:Nat)(w:World)(R:EW)(h:
 True/\(let d:=w.alloc (.cells #[.slice a b c] 223);
 ∃ (e:OA->Nat->Nat->OA->Nat->Nat->World->Prop) (f:OA->Nat->Nat->OA->Nat->Nat->World->Nat),e none 0 0 (some (adr w.heap.size)) 1 1 d/\
 (∀ (g:OA) (i j:Nat),∀ (k:OA) (l m:Nat),∀ n:World,e g i j k l m n->
 (Br ((l:Int) !=0) (Ix k (wr ((l:Int)-1)) l fun o=>Ll n (o.add ((wr ((l:Int)-1)).toNat*1)) fun p q r=>(0<=(0:Int)/\0<=(wr ((l:Int)-1))/\(wr ((l:Int)-1))<=(m:Int))/\∃ (s:OA->Nat->Nat->OA->Nat->Nat->Int->World->Prop) (t:OA->Nat->Nat->OA->Nat->Nat->Int->World->Nat),s g i j (if m=(0:Int).toNat then k else Option.map (·.add ((0:Int).toNat*1)) k) ((wr ((l:Int)-1)).toNat-(0:Int).toNat) (m-(0:Int).toNat) 0 n/\
 (∀ (u:OA) (v x:Nat),∀ (y:OA) (z A:Nat),∀ B:Int,∀ C:World,s u v x y z A B C->
 (Br (decide (B<(q:Int))) (∀ D:OA->Nat->Nat->OA->Nat->Nat->World->Prop,(∀ (E:OA) (F G:Nat),∀ (H:OA) (I J:Nat),∀ K:World,
 ((s E F G H I J (wr (B+1)) K/\t E F G H I J (wr (B+1)) K<t u v x y z A B C))->
 D E F G H I J K)->
 Ix p B q fun L=>Lo C (L.add (B.toNat*1)) fun M=>∀ N:Bool->OA->World->Prop,(∀ O:Bool,∀ P:OA,∀ Q:World,
 ((Br O (True/\(let S:=Q.alloc (.cells #[.pointer P] 228);
 Ap 257 (.slice u v x) (.slice (some (adr Q.heap.size)) 1 1) S fun U V W X=>True/\D U V W y z A X)) (∀ Y:Bool->OA->World->Prop,(∀ Z:Bool,∀ aa:OA,∀ ab:World,
 ((Br Z (Pt aa fun ac=>Ll ab (ac.add 4) fun ad ae af=>True/\(let ag:=ab.alloc (.cells #[.slice ad ae af] 223);
 Ap 341 (.slice y z A) (.slice (some (adr ab.heap.size)) 1 1) ag fun ah ai aj ak=>True/\D u v x ah ai aj ak)) (∀ al:Bool->OA->World->Prop,(∀ am:Bool,∀ an:OA,∀ ao:World,
 ((Br am (Pt an fun ap=>Ll ao (ap.add 2) fun aq ar au=>True/\(let av:=ao.alloc (.cells #[.slice aq ar au] 223);
 Ap 341 (.slice y z A) (.slice (some (adr ao.heap.size)) 1 1) av fun ax ay az aA=>True/\D u v x ax ay az aA)) (D u v x y z A ao)))->
 al am an ao)->
 ((∀ aB,M=some (221,aB)->∃ aD,aB=(.pointer aD)/\al true aD ab)/\((∀ aC,M≠some (221,aC))->al false none ab)))))->
 Y Z aa ab)->
 ((∀ aE,M=some (277,aE)->∃ aG,aE=(.pointer aG)/\Y true aG Q)/\((∀ aF,M≠some (277,aF))->Y false none Q)))))->
 N O P Q)->
 ((∀ aH,M=some (228,aH)->∃ aJ,aH=(.pointer aJ)/\N true aJ C)/\((∀ aI,M≠some (228,aI))->N false none C))) ((e u v x y z A C/\f u v x y z A C<f g i j k l m n))))) (R (.returned (.slice g i j)) n))))):CP 139 #[.slice a b c] w R:=
 vcq Tryz.func139 [] [(8,⟨[(3,.slice),(4,.slice)],[]⟩),(23,⟨[(3,.slice),(4,.slice),(29,.int .i64)],[]⟩),(30,⟨[(3,.slice),(4,.slice)],[]⟩),(37,⟨[(35,.bool),(36,.ptr)],[]⟩),(43,⟨[(42,.bool),(43,.ptr)],[]⟩),(49,⟨[(52,.bool),(53,.ptr)],[]⟩)] [.l (.slice a b c)] h
theorem t_v (a:OA)(b c:Nat)(d:BA)(w:World)(R:EW)(h:
 ∃ (e:Int->World->Prop) (f:Int->World->Nat),e 0 w/\
 (∀ g:Int,∀ i:World,e g i->
 (Br (decide (g<(b:Int))) (Ix a g b fun j=>Lp i (j.add (g.toNat*1)) fun k=>Pt k fun l=>Ls i (l.add 1) fun m=>(Br (m.toList==d.toList) (R (.returned (.pointer k)) i) ((e (wr (g+1)) i/\f (wr (g+1)) i<f g i)))) (R (.returned (.pointer none)) i)))):CP 140 #[.slice a b c,.string d] w R:=
 vcq Tryz.func140 [] [(6,⟨[(9,.int .i64)],[]⟩)] [.l (.slice a b c),.l (.str d)] h
theorem t_D (a:OA)(b c:Nat)(d:OA)(e f:Nat)(g:BA)(i:BA)(j:BA)(k:OA)(l m:Nat)(n:OA)(o p:Nat)(q:OA)(r s:Nat)(t:OA)(u v:Nat)(w:World)(R:EW)(h:
 True/\(let x:=w.alloc (.cells #[.slice a b c,.slice d e f,.string g,.string i,.string j,.slice k l m,.slice n o p] 40);
 True/\(let y:=x.alloc (.cells #[.slice q r s,.slice t u v] 30);
 CP 56 #[(.agg #[.slice a b c,.slice d e f,.string g,.string i,.string j,.slice k l m,.slice n o p]),(.agg #[.slice q r s,.slice t u v]),(.func (.func 80) #[] #[])] y (fun z A=>∃ B,∃ C,z=.returned (.tuple #[.int .i64 B,.bool C])/\(KeepT 40 y A/\KeepT 30 y A/\True)/\R (.returned (.tuple #[.int .i64 B,.bool C])) A)))):CP 33 #[(.agg #[.slice a b c,.slice d e f,.string g,.string i,.string j,.slice k l m,.slice n o p]),(.agg #[.slice q r s,.slice t u v])] w R:=
 vcq Tryz.func33 [2,3] [] [.agg [.slice a b c,.slice d e f,.str g,.str i,.str j,.slice k l m,.slice n o p],.agg [.slice q r s,.slice t u v]] h
theorem t_F (a:OA)(b c:Nat)(d:OA)(e f:Nat)(g:OA)(i j:Nat)(k:OA)(l m:Nat)(n:OA)(o p:Nat)(q:OA)(r s:Nat)(t:OA)(u v:Nat)(w:World)(R:EW)(h:
 True/\(let x:=w.alloc (.cells #[.slice a b c,.slice d e f,.slice g i j,.slice k l m,.slice n o p] 26);
 True/\(let y:=x.alloc (.cells #[.slice q r s,.slice t u v] 30);
 ∀ z:Bool->World->Prop,(∀ A:Bool,∀ B:World,
 ((Br A (R (.returned (.bool true)) B) (CP 13 #[(.agg #[.slice a b c,.slice d e f,.slice g i j,.slice k l m,.slice n o p])] B (fun C D=>∃ E,∃ F,C=.returned (.tuple #[.pointer E,.bool F])/\(KeepT 26 B D/\KeepT 30 B D/\True)/\∀ G:Bool->World->Prop,(∀ H:Bool,∀ I:World,
 ((Br H (R (.returned (.bool true)) I) (∀ J,J=I.drew->CP 18 #[.pointer E] J (fun K L=>∃ M N O,∃ P Q S,∃ U,∃ V,∃ W,∃ X Y Z,∃ aa ab ac,K=.returned (.agg #[.slice M N O,.slice P Q S,.string U,.string V,.string W,.slice X Y Z,.slice aa ab ac])/\(KeepT 26 J L/\KeepT 30 J L/\True)/\((0=0)/\True)/\CP 33 #[(.agg #[.slice M N O,.slice P Q S,.string U,.string V,.string W,.slice X Y Z,.slice aa ab ac]),(.agg #[.slice q r s,.slice t u v])] L (fun ad ae=>∃ af,∃ ag,ad=.returned (.tuple #[.int .i64 af,.bool ag])/\(KeepT 26 L ae/\KeepT 30 L ae/\True)/\True/\True/\True/\Cb 34 #[(.agg #[.slice q r s,.slice t u v])] ae (fun ah ai=>(KeepT 26 ae ai/\KeepT 30 ae ai/\True)/\Cb 19 #[.int .i64 af,.bool ag,.bool ah] ai (fun aj ak=>(KeepT 26 ai ak/\KeepT 30 ai ak/\True)/\R (.returned (.bool aj)) ak)))))))->
 G H I)->
 (Nr (!F) (Cb 14 #[(.agg #[.slice q r s,.slice t u v])] D (fun al am=>(KeepT 26 D am/\KeepT 30 D am/\True)/\(Nr (!al) (Cb 32 #[(.agg #[.slice q r s,.slice t u v])] am (fun an ao=>(KeepT 26 am ao/\KeepT 30 am ao/\True)/\G an ao)) (G true am)))) (G true D))))))->
 z A B)->
 Cb 11 #[(.agg #[.slice a b c,.slice d e f,.slice g i j,.slice k l m,.slice n o p])] y (fun ap aq=>(KeepT 26 y aq/\KeepT 30 y aq/\True)/\(Nr (!ap) (Cb 12 #[(.agg #[.slice q r s,.slice t u v])] aq (fun ar au=>(KeepT 26 aq au/\KeepT 30 aq au/\True)/\z (!ar) au)) (z true aq)))))):CP 8 #[(.agg #[.slice a b c,.slice d e f,.slice g i j,.slice k l m,.slice n o p]),(.agg #[.slice q r s,.slice t u v])] w R:=
 vcq Tryz.func8 [2,3] [(3,⟨[(16,.bool)],[]⟩),(13,⟨[(32,.bool)],[]⟩)] [.agg [.slice a b c,.slice d e f,.slice g i j,.slice k l m,.slice n o p],.agg [.slice q r s,.slice t u v]] h
set_option maxRecDepth 100000
theorem t_C (a:OA)(b:Value)(w:World)(R:EW)(h:
 Pt a fun c=>Ll w (c.add 2) fun d e f=>(b.oneCell'=true/\True)/\(let g:=w.alloc (.cells #[b] 268);
 Ap 149 (.slice d e f) (.slice (some (adr w.heap.size)) 1 1) g fun i j k l=>True/\Pt a fun m=>Off l (m.add 2) 1 []/\True/\(let n:=(l.setCell (m.add 2) (.slice i j k));
 R (.returned (.tuple #[])) n))):CP 136 #[.pointer a,b] w R:=
 vcq Tryz.func136 [] [] [.l (.optr a),.l (.val b)] h
variable [DB]
theorem t_A {eb:Nat}{f:Value}{evs:List Value}{w:World}(hf:a_v f)(hB:Blk w eb 157 evs)(hj:evs[2]? =some (.slice none 0 0)):
  CP 136 #[.pointer (some (adr eb)),f] w fun e w'=>e=.returned (.tuple #[])/\∃ (p:Addr) (C:Nat),Blk w' eb 157 (evs.set 2 (.slice (some p) 1 C))/\At w' 268 p f/\w.heap.size<=p.block/\Ext (fun b=>b=eb) w w':=by
 obtain ⟨p,C,w7,r7,ha,hp,hx,-⟩:=m_z 149 268 Tryz.t268 _ _ (by kernel_rfl) (by kernel_rfl) rfl (by kernel_rfl) rfl (by kernel_rfl) (by decide) (w:=w) hf 149 #[false,false];have hB7:=hB.ext hx id;have hlt:=hB.lt;have hl:2+1<=evs.length:=(List.getElem?_eq_some_iff.1 hj).1;have hs:Ext (fun b=>b=eb) w7 (w7.setCell ⟨eb,2,none⟩ (.slice (some p) 1 C)):=Ext.setCell (X:=fun b=>b=eb) (Ext.refl _) (a:=⟨eb,2,none⟩) (.inl rfl) _;refine t_C (some (adr eb)) f w _ ⟨adr eb,rfl,none,0,0,(hB.at (j:=2) hj).cell,⟨hf.one,trivial⟩,some p,1,C,w7,r7,trivial,adr eb,rfl,hB7.off (j:=2) (n:=1) (q:=fun _=>false) hl rfl,trivial,rfl,p,C,hB7.set 2 _,hs.at (by show ¬ p.block=eb;omega) ha,hp,(hx.toM _).trans hs fun _ _ e=>e⟩
open Classical in
 noncomputable def leastN (P:Nat->Prop):Nat:=if h:∃ n,P n then (least h).choose else 0
theorem t_Y {P:Nat->Prop}(h:∃ n,P n):P (leastN P):=by
 rw [leastN,dif_pos h];exact (least h).choose_spec.1
theorem t_Z {P:Nat->Prop}{n:Nat}(h:P n):leastN P<=n:=by
 rw [leastN,dif_pos ⟨n,h⟩];exact (least ⟨n,h⟩).choose_spec.2 n h
theorem Own.cut {base:Nat}{w:World}{T n:Nat}{a:OA}{l c:Nat}{xs:List Value}(h:Own base w T n a l c xs){k:Nat}(hk:k<=l)(hl:0<l):Own base w T n a k c (xs.take (k*n)):=by
 obtain ⟨h1,h2|⟨g,cap,cur,e1,e2,e3,e4,e5,e6,e7⟩⟩:=h
 ·obtain ⟨h2,-⟩:=h2;simp only [Value.slice.injEq] at h2;omega
 ·have hkn:=Nat.mul_le_mul_right n hk;simp only [Value.slice.injEq] at e1;obtain ⟨rfl,e1'⟩:=e1;obtain rfl:c=cap:=by omega
  refine ⟨by rw [List.length_take];omega,.inr ⟨g,c,cur,rfl,e2,e3,by omega,e5,e6,?_⟩⟩;rw [<- e7,List.take_take,Nat.min_eq_left hkn]
theorem Flat.cut {R:α->List Value->Prop}{xs:List α}{cells:List Value}(h:Flat 1 R xs cells):∀ k,Flat 1 R (xs.take k) (cells.take k):=by
 induction h with
 | nil=>intro k;simpa using Flat.nil
 | @cons x cs xs cells h1 h2 h3 _ ih=>
  intro k;cases k with
  | zero=>exact .nil
  | succ k=>
   obtain ⟨v,rfl⟩:=List.length_eq_one_iff.1 h1;exact Flat.cons (cs:=[v]) h1 h2 h3 (ih k)
theorem OwnR.cut {T:Nat}{R:α->List Value->Prop}{base:Nat}{w:World}{A:OA}{L C:Nat}{xs:List α}(h:OwnR T 1 R base w A L C xs){k:Nat}(hk:k<=L)(hl:0<L):OwnR T 1 R base w A k C (xs.take k):=by
 obtain ⟨cells,o,f⟩:=h;exact ⟨cells.take k,by simpa using o.cut hk hl,f.cut k⟩
theorem t_5 (A:OA)(C:Nat):(if C=(0:Int).toNat then A else Option.map (·.add ((0:Int).toNat*1)) A)=A:=by
 split
 ·rfl
 ·cases A with
  | none=>rfl
  | some p=>simp [Addr.add]
mutual
def szS:Sel->Nat
 | .mk _ _ _ _ _ _ kids=>2+szL kids
def szL:List Sel->Nat
 | []=>0
 | s::l=>szS s+szL l
end
mutual
theorem t_7:∀ s:Sel,szS s=2*selS s
 | .mk _ _ _ _ _ _ kids=>by rw [szS,selS,t_S kids];omega
theorem t_S:∀ l:List Sel,szL l=2*selL l
 | []=>rfl
 | s::l=>by rw [szL,selL,t_7 s,t_S l];omega
end
def SpN (c:WCtx)(x:BA × Nat):Prop:=c.M x.2/\∃ d u2 u3 pos,Blk c.w0 x.2 231 [.string x.1,d,u2,u3,.pointer pos,.pointer none]
abbrev RSpn:BA × Nat->List Value->Prop:=fun x cs=>cs=[.pointer (some (adr x.2))]
abbrev RSet (c:WCtx):List Sel->List Value->Prop:=fun ks cs=>∃ A L C,cs=[.slice A L C]/\PSels c.M c.w0 A L C ks/\a_z ks
def GSp (ks:List Sel)(xs:List (BA × Nat))(sets:List (List Sel)):Prop:=
 xs.length+(sets.map fun s=>(spL s).length).sum=(spL ks).length/\∀ n,((∃ x∈xs,x.1=n)∨∃ s∈sets,n∈spL s)↔n∈spL ks
def wtS (sets:List (List Sel)):Nat:=(sets.map fun s=>1+szL s).sum
theorem t_W (a b:List (List Sel)):wtS (a++b)=wtS a+wtS b:=by simp [wtS]
theorem t_X (a:List (List Sel)):a.length<=wtS a:=by
 induction a with
 | nil=>exact Nat.le_refl _
 | cons s a ih=>
  have:wtS (s::a)=1+szL s+wtS a:=by simp [wtS]
  rw [this,List.length_cons];omega
theorem GSp.pop {ks:List Sel}{xs:List (BA × Nat)}{init:List (List Sel)}{top:List Sel}(h:GSp ks xs (init++[top])):GSp ks xs (top::init):=by
 refine ⟨?_,fun n=>?_⟩
 ·rw [<- h.1];simp;omega
 ·rw [<- h.2 n];simp [or_comm,or_left_comm,or_assoc]
theorem GSp.done {ks:List Sel}{xs:List (BA × Nat)}{sets:List (List Sel)}(h:GSp ks xs ([]::sets)):GSp ks xs sets:=by
 refine ⟨?_,fun n=>?_⟩
 ·rw [<- h.1];simp [spL]
 ·rw [<- h.2 n];simp [spL]
theorem GSp.push {ks:List Sel}{xs:List (BA × Nat)}{sets:List (List Sel)}{k:Int}{al on:BA}{args:List Argm}{dirs:List Dir}{kids rest:List Sel}(hk:k≠1)(h:GSp ks xs ((.mk k al n on args dirs kids::rest)::sets)):GSp ks xs (rest::(sets++[kids])):=by
 have e:spL (.mk k al n on args dirs kids::rest)=spL kids++spL rest:=by rw [spL,spS,if_neg hk]
 refine ⟨?_,fun m=>?_⟩
 ·have h1:=h.1;rw [List.map_cons,e] at h1;simp at h1 ⊢;omega
 ·rw [<- h.2 m];simp only [mc_,ma_,nn_,or_false,exists_eq_or_imp,e];constructor
  ·rintro (q|q|⟨s,hs|hs,q⟩)
   ·exact .inl q
   ·exact .inr (.inl (.inr q))
   ·exact .inr (.inr ⟨s,hs,q⟩)
   ·exact .inr (.inl (.inl (hs▸q)))
  ·rintro (q|(q|q)|⟨s,hs,q⟩)
   ·exact .inl q
   ·exact .inr (.inr ⟨kids,.inr rfl,q⟩)
   ·exact .inr (.inl q)
   ·exact .inr (.inr ⟨s,.inl hs,q⟩)
theorem GSp.spread {ks:List Sel}{xs:List (BA × Nat)}{sets:List (List Sel)}{k:Int}{al on:BA}{args:List Argm}{dirs:List Dir}{kids rest:List Sel}(b:Nat)(hk:k=1)(h:GSp ks xs ((.mk k al n on args dirs kids::rest)::sets)):GSp ks (xs++[(n,b)]) (rest::sets):=by
 have e:spL (.mk k al n on args dirs kids::rest)=n::spL rest:=by rw [spL,spS,if_pos hk];rfl
 refine ⟨?_,fun m=>?_⟩
 ·have h1:=h.1;rw [List.map_cons,e] at h1;simp at h1 ⊢;omega
 ·rw [<- h.2 m];simp only [mc_,ma_,nn_,or_false,exists_eq_or_imp,e];constructor
  ·rintro (⟨x,hx|hx,q⟩|q|q)
   ·exact .inl ⟨x,hx,q⟩
   ·exact .inr (.inl (.inl (by rw [<- q,hx])))
   ·exact .inr (.inl (.inr q))
   ·exact .inr (.inr q)
  ·rintro (⟨x,hx,q⟩|(q|q)|q)
   ·exact .inl ⟨x,.inl hx,q⟩
   ·exact .inl ⟨(n,b),.inr rfl,q.symm⟩
   ·exact .inr (.inl q)
   ·exact .inr (.inr q)
theorem GSp.few {ks:List Sel}{xs:List (BA × Nat)}{sets:List (List Sel)}(h:GSp ks xs sets):xs.length<=(spL ks).length:=by
 have:=h.1;omega
theorem drop_cons' {xs:List α}{i:Int}{x:α}(h0:0<=i)(hx:xs[i.toNat]? =some x):xs.drop i.toNat=x::xs.drop (i+1).toNat:=by
 obtain ⟨hlt,he⟩:=List.getElem?_eq_some_iff.1 hx;rw [show (i+1).toNat=i.toNat+1 by omega,List.drop_eq_getElem_cons hlt,he]
structure JSp (c:WCtx) (w0:World) (ks:List Sel) (xs:List (BA × Nat)) (sets:List (List Sel)) (A1:OA) (l1 c1:Nat) (A2:OA) (l2 c2:Nat) (w:World):Prop where
 ext:EF w0 w
 sp:OwnR 228 1 RSpn w0.heap.size w A1 l1 c1 xs
 st:OwnR 223 1 (RSet c) w0.heap.size w A2 l2 c2 sets
 nd:∀ x∈xs,SpN c x
section
variable {c:WCtx} {w0 w:World} {ks:List Sel} {xs:List (BA × Nat)} {sets:List (List Sel)} {A1:OA} {l1 c1:Nat} {A2:OA} {l2 c2:Nat}
theorem JSp.push (h:JSp c w0 ks xs sets A1 l1 c1 A2 l2 c2 w){A:OA}{L C:Nat}{kids:List Sel}(hk:PSels c.M c.w0 A L C kids)(ok:a_z kids)(hs:a_v (.slice A L C))(h2:l2+1<=16777216):
  ∃ (A':OA) (C':Nat) (w':World),(Go.builtin .append #[341,341] 341 #[false,false] #[.slice A2 l2 c2,.slice (some (adr w.heap.size)) 1 1]).run Tryz.prog (w.alloc (.cells #[.slice A L C] 223))=.ok (.value (.slice A' (l2+1) C')) w'/\
   JSp c w0 ks xs (sets++[kids]) A1 l1 c1 A' (l2+1) C' w':=by
 obtain ⟨A',C',w',r,o',x',-, -⟩:=h.st.one 341 Tryz.t223 _ _ (by kernel_rfl) (by kernel_rfl) rfl (by kernel_rfl) rfl (by kernel_rfl) (by omega) (by decide) h.ext.size (x:=kids) (cs:=[.slice A L C]) rfl (fun v hv=>by
  obtain rfl:v=.slice A L C:=by simpa using hv
  exact hs) ⟨A,L,C,rfl,hk,ok⟩ h2 341 #[false,false]
 exact ⟨A',C',w',r,OwnR.ext0 h.st (Nat.le_refl _) h.ext x',h.sp.keep x' (h.sp.ne_own h.st (by decide)),o',h.nd⟩
theorem JSp.spread (h:JSp c w0 ks xs sets A1 l1 c1 A2 l2 c2 w){b:Nat}(hn:SpN c (n,b))(h2:l1+1<=16777216):
  ∃ (A':OA) (C':Nat) (w':World),(Go.builtin .append #[257,257] 257 #[false,false] #[.slice A1 l1 c1,.slice (some (adr w.heap.size)) 1 1]).run Tryz.prog (w.alloc (.cells #[.pointer (some (adr b))] 228))=.ok (.value (.slice A' (l1+1) C')) w'/\
   JSp c w0 ks (xs++[(n,b)]) sets A' (l1+1) C' A2 l2 c2 w':=by
 obtain ⟨A',C',w',r,o',x',-, -⟩:=h.sp.one 257 Tryz.t228 _ _ (by kernel_rfl) (by kernel_rfl) rfl (by kernel_rfl) rfl (by kernel_rfl) (by omega) (by decide) h.ext.size (x:=(n,b)) (cs:=[.pointer (some (adr b))]) rfl (fun v hv=>by
  obtain rfl:v=.pointer (some (adr b)):=by simpa using hv
  trivial) rfl h2 257 #[false,false]
 refine ⟨A',C',w',r,OwnR.ext0 h.sp (Nat.le_refl _) h.ext x',o',h.st.keep x' (h.st.ne_own h.sp (by decide)),fun x hx=>?_⟩;rcases ma_.1 hx with hx|hx
 ·exact h.nd x hx
 ·obtain rfl:=List.mem_singleton.1 hx;exact hn
end
theorem t_E {c:WCtx}{A:OA}{L C:Nat}{ks:List Sel}{w:World}(hwk:Wk c c.w0 w)(hks:PSels c.M c.w0 A L C ks)(ok:a_z ks)(hs:selL ks<=2097152)(hs':(spL ks).length<=2097152):
  CP 139 #[.slice A L C] w fun e w'=>∃ A' L' C' xs,e=.returned (.slice A' L' C')/\EF w w'/\OwnR 228 1 RSpn w.heap.size w' A' L' C' xs/\(∀ x∈xs,SpN c x)/\xs.length=(spL ks).length/\∀ n,(∃ x∈xs,x.1=n)↔n∈spL ks:=by
 have x2:EF w (w.alloc (.cells #[.slice A L C] 223)):=(Ext.refl w).alloc _;have hsmall:∀ {A:OA} {L C:Nat} {kids:List Sel},PSels c.M c.w0 A L C kids->a_v (.slice A L C):=fun _=>rfl;have o2:OwnR 223 1 (RSet c) w.heap.size (w.alloc (.cells #[.slice A L C] 223)) (some (adr w.heap.size)) 1 1 [ks]:=by
  refine ⟨[.slice A L C],Own.made w.heap.size w 223 1 1 #[.slice A L C] (Nat.le_refl _) (by decide) rfl,?_⟩;have:=Flat.cons (n:=1) (R:=RSet c) (x:=ks) (cs:=[.slice A L C]) rfl (fun v hv=>by
   obtain rfl:v=.slice A L C:=by simpa using hv
   exact hsmall hks) ⟨A,L,C,rfl,hks,ok⟩ .nil
  simpa using this
 have j0:JSp c w ks [] [ks] none 0 0 (some (adr w.heap.size)) 1 1 (w.alloc (.cells #[.slice A L C] 223)):=⟨x2,OwnR.nil,o2,fun x hx=>by simp at hx⟩;have g0:GSp ks [] [ks]:=⟨by simp,fun n=>by simp⟩;have hsz:=t_S ks;let J:OA->Nat->Nat->OA->Nat->Nat->World->Nat->Prop:=fun A1 l1 c1 A2 l2 c2 w1 N=>∃ xs sets,JSp c w ks xs sets A1 l1 c1 A2 l2 c2 w1/\GSp ks xs sets/\wtS sets<=N/\N<=1+szL ks;refine t_z A L C w _ ⟨trivial,fun A1 l1 c1 A2 l2 c2 w1=>∃ N,J A1 l1 c1 A2 l2 c2 w1 N,fun A1 l1 c1 A2 l2 c2 w1=>leastN (J A1 l1 c1 A2 l2 c2 w1),⟨1+szL ks,[],[ks],j0,g0,by simp [wtS],Nat.le_refl _⟩,?_⟩;intro A1 l1 c1 A2 l2 c2 w1 hJ;obtain ⟨xs,sets,j1,g1,hw1,hN⟩:=t_Y hJ;generalize hNe:leastN (J A1 l1 c1 A2 l2 c2 w1)=N at hw1 hN;have e2:=j1.st.len (by omega);have hlen2:=t_X sets;refine ⟨fun hne=>?_,fun hz=>?_⟩
 ·have hl2:0<l2:=by
   rcases Nat.eq_zero_or_pos l2 with h|h
   ·rw [h] at hne;exact absurd hne (by decide)
   ·exact h
  have hwr:wr ((l2:Int)-(1:Int))=((l2-1:Nat):Int):=by rw [n_k (by omega) (by omega)];omega
  rw [hwr,t_5];obtain ⟨top,htop⟩:∃ top,sets[l2-1]? =some top:=⟨sets[l2-1]'(by omega),List.getElem?_eq_getElem (by omega)⟩;have hinit:sets=sets.take (l2-1)++[top]:=by
   obtain ⟨hlt,he⟩:=List.getElem?_eq_some_iff.1 htop
   conv=>lhs;rw [<- List.take_append_drop (l2-1) sets,List.drop_eq_getElem_cons hlt,he]
   rw [List.drop_of_length_le (by omega)]
  have st1:=j1.st;obtain ⟨cells,o1,f1⟩:=st1;obtain ⟨p8,hp8,cs,⟨A9,L9,C9,rfl,hk9,ok9⟩,hat⟩:=o1.elem f1 (by omega) htop;have hc:=j1.st;have c9:w1.cell? (p8.add ((((l2-1:Nat):Int)).toNat*1))=some (.slice A9 L9 C9):=by
   have:=(hat 0 _ rfl).cell;simpa using this
  have hlc:=o1.len.2;have hwi:wtS sets=wtS (sets.take (l2-1))+(1+szL top):=by
   conv=>lhs;rw [hinit]
   rw [t_W];simp [wtS]
  rw [hinit] at g1;have j9:JSp c w ks xs (sets.take (l2-1)) A1 l1 c1 A2 (l2-1) c2 w1:=⟨j1.ext,j1.sp,j1.st.cut (by omega) hl2,j1.nd⟩;have e9:=hk9.1;have g9:=hk9.2.2.1;refine ⟨p8,hp8,⟨by omega,by omega⟩,A9,L9,C9,c9,⟨by decide,by omega,by omega⟩,fun B1 m1 d1 B2 m2 d2 n w2=>0<=n/\n<=(L9:Int)/\∃ xs sets,JSp c w ks xs sets B1 m1 d1 B2 m2 d2 w2/\GSp ks xs (top.drop n.toNat::sets)/\wtS sets+szL (top.drop n.toNat)+1<=N,fun _ _ _ _ _ _ n _=>((L9:Int)-n).toNat,?_,?_⟩
  ·refine ⟨by omega,by omega,xs,sets.take (l2-1),?_,?_,?_⟩
   ·simpa using j9
   ·simpa using g1.pop
   ·simp;omega
  rintro B1 m1 d1 B2 m2 d2 n w2 ⟨h0,hn,xs2,sets2,j2,g2,hw2⟩;refine ⟨fun hlt=>fun K16 hK16=>?_,fun hge=>?_⟩
  ·have hlt:=odt hlt;obtain ⟨p20,s,v,hp20,hxs,hcell,hps⟩:=hk9.wget (hwk.trans (Wk.ofExt j2.ext fun _ _=>id)) (fun _=>rfl) h0 hlt;have hoks:=b_9.1 ok9 s (mg_ hxs);obtain ⟨k,al,nm,on,args,dirs,kids⟩:=s;rw [drop_cons' h0 hxs] at g2 hw2;have hszs:szL (.mk k al nm on args dirs kids::top.drop (n+1).toNat)=2+szL kids+szL (top.drop (n+1).toNat):=by rw [szL,szS]
   rw [hszs] at hw2;have el1:=j2.sp.len (by omega);have el2:=j2.st.len (by omega);have hf2:=g2.few;have hl2':=t_X sets2;have okk:a_z kids:=by
    simp only [okSel] at hoks;exact hoks.2.2.2.1
   have more:∀ (A':OA) (L' C':Nat),k≠1->PSels c.M c.w0 A' L' C' kids->∃ (A36:OA) (l36 c36:Nat) (w37:World),(Go.builtin .append #[341,341] 341 #[false,false] #[.slice B2 m2 d2,.slice (some (adr w2.heap.size)) 1 1]).run Tryz.prog (w2.alloc (.cells #[.slice A' L' C'] 223))=.ok (.value (.slice A36 l36 c36)) w37/\True/\K16 B1 m1 d1 A36 l36 c36 w37:=by
    intro A' L' C' hk1 hkk;obtain ⟨A36,C36,w37,r,j3⟩:=j2.push hkk okk (hsmall hkk) (by omega);refine ⟨A36,m2+1,C36,w37,r,trivial,hK16 _ _ _ _ _ _ w37 ?_⟩;rw [a_a h0 (by omega)];refine next h0 hlt ⟨xs2,sets2++[kids],j3,g2.push hk1,?_⟩
    rw [t_W];have:wtS [kids]=1+szL kids:=by simp [wtS]
    omega
   have ne1:(221:Nat)≠228:=by decide
   simp only [PSel] at hps;rcases hps with ⟨hk,b,A1',L1',C1',A2',L2',C2',A3,L3,C3,pos,rfl,hM,hB,-, -, hL3,hC3,hS3,hkids⟩|⟨hk,b,A2',L2',C2',pos,rfl,hM,hB,-⟩|⟨hk,b,A2',L2',C2',A3,L3,C3,pos,rfl,hM,hB,-, hL3,hC3,hS3,hkids⟩
   ·have hkk:PSels c.M c.w0 A3 L3 C3 kids:=PSels'_iff.1 ⟨hL3,hC3,hS3,hkids⟩;have wk2:=hwk.trans (Wk.ofExt j2.ext fun _ _=>id);refine ⟨p20,hp20,⟨h0,hlt⟩,some (277,.pointer (some (adr b))),hcell,fun K22 hK22=>⟨fun u hu=>absurd (show (277:Nat)=228 from congrArg Prod.fst (Option.some.inj hu)) (by decide),fun _=>hK22 false none w2 ⟨nofun,fun _=>fun K29 hK29=>⟨fun u hu=>?_,fun hno=>absurd rfl (hno _)⟩⟩⟩⟩;obtain rfl:=(congrArg Prod.snd (Option.some.inj hu));exact ⟨some (adr b),rfl,hK29 true _ w2 ⟨fun _=>⟨adr b,rfl,A3,L3,C3,wk2.nd hM hB (j:=4) rfl rfl,trivial,more A3 L3 C3 (by omega) hkk⟩,nofun⟩⟩
   ·refine ⟨p20,hp20,⟨h0,hlt⟩,some (228,.pointer (some (adr b))),hcell,fun K22 hK22=>⟨fun u hu=>?_,fun hno=>absurd rfl (hno _)⟩⟩;obtain rfl:=(congrArg Prod.snd (Option.some.inj hu));obtain ⟨A27,C27,w28,r,j3⟩:=j2.spread (n:=nm) (b:=b) ⟨hM,_,_,_,_,hB⟩ (by omega);refine ⟨some (adr b),rfl,hK22 true _ w2 ⟨fun _=>⟨trivial,A27,m1+1,C27,w28,r,trivial,hK16 _ _ _ _ _ _ w28 ?_⟩,nofun⟩⟩;rw [a_a h0 (by omega)];exact next h0 hlt ⟨xs2++[(nm,b)],sets2,j3,g2.spread b hk,by omega⟩
   ·have hkk:PSels c.M c.w0 A3 L3 C3 kids:=PSels'_iff.1 ⟨hL3,hC3,hS3,hkids⟩;have wk2:=hwk.trans (Wk.ofExt j2.ext fun _ _=>id);refine ⟨p20,hp20,⟨h0,hlt⟩,some (221,.pointer (some (adr b))),hcell,fun K22 hK22=>⟨fun u hu=>absurd (show (221:Nat)=228 from congrArg Prod.fst (Option.some.inj hu)) (by decide),fun _=>hK22 false none w2 ⟨nofun,fun _=>fun K29 hK29=>⟨fun u hu=>absurd (show (221:Nat)=277 from congrArg Prod.fst (Option.some.inj hu)) (by decide),fun _=>hK29 false none w2 ⟨nofun,fun _=>fun K38 hK38=>⟨fun u hu=>?_,fun hno=>absurd rfl (hno _)⟩⟩⟩⟩⟩⟩;obtain rfl:=(congrArg Prod.snd (Option.some.inj hu));exact ⟨some (adr b),rfl,hK38 true _ w2 ⟨fun _=>⟨adr b,rfl,A3,L3,C3,wk2.nd hM hB (j:=2) rfl rfl,trivial,more A3 L3 C3 (by omega) hkk⟩,nofun⟩⟩
  ·have hge:=odf hge;rw [List.drop_of_length_le (by omega)] at g2 hw2;have hJ2:J B1 m1 d1 B2 m2 d2 w2 (N-1):=⟨xs2,sets2,j2,g2.done,by simp only [szL] at hw2;omega,by omega⟩;have hle:=t_Z hJ2;refine ⟨⟨_,hJ2⟩,?_⟩;show leastN (J B1 m1 d1 B2 m2 d2 w2)<leastN (J A1 l1 c1 A2 l2 c2 w1);rw [hNe];omega
 ·have hl2:l2=0:=by simpa using hz
  obtain rfl:sets=[]:=List.eq_nil_of_length_eq_zero (by omega);have hg:=g1.1;refine ⟨A1,l1,c1,xs,rfl,j1.ext,j1.sp,j1.nd,by simpa using hg,fun n=>?_⟩;rw [<- g1.2 n];simp
theorem t_P {t kt e:TypeId}{b:Nat}{m:List (BA × Value)}{u:BA}{v:Value}{w:World}(hu:Tryz.prog.underlying t=some (.map kt e))(hkt:Tryz.prog.underlying kt=some .string)(hm:SMap w b (m++[(u,v)]))(hno:∀ x∈m,x.1≠u)(ty:TypeId)(fs:Array Bool):
  ∃ r w',(Go.builtin .delete #[t,kt] ty fs #[.map (some b),.string u]).run Tryz.prog w=.ok (.value r) w'/\SMap w' b m/\Ext (fun k=>k=b) w w':=by
 obtain ⟨ents,cl,h1,h2⟩:=hm;obtain ⟨r,g1,g2,g3,g4⟩:=i_P (u:=u) ents.toList (m++[(u,v)]) 0 h2;have hk:=(c_Q (P:=Tryz.prog) (w:=w) hkt u ents.toList).2 r g1;have hb:w.heap[b]? =some (.map ents cl):=h1;have hlt:b<w.heap.size:=a_3 h1;cases r with
 | none=>
  have:=g3 rfl (u,v) (by simp);rw [h_v.2 rfl] at this;cases this
 | some kv=>
  obtain ⟨k,v0⟩:=kv;obtain ⟨-, x,q1,q2,q3⟩:=g4 k v0 rfl;rw [Nat.sub_zero] at q1 q3;have hux:=h_v.1 q2;have hkm:k=m.length:=by
   have hlt:k<(m++[(u,v)]).length:=(List.getElem?_eq_some_iff.1 q1).1;rw [la_] at hlt;simp only [List.length_cons,List.length_nil] at hlt;rcases Nat.lt_or_ge k m.length with h|h
   ·rw [List.getElem?_append_left h] at q1;exact absurd hux.symm (hno x (mg_ q1))
   ·omega
  refine ⟨.tuple #[],{ w with heap:=w.heap.setIfInBounds b (.map (ents.eraseIdxIfInBounds k) cl)},?_,⟨ents.eraseIdxIfInBounds k,cl,by simp [objAt,hlt],?_⟩,⟨fun k' o' hk' ho=>by simp only [objAt,Array.getElem?_setIfInBounds];rw [if_neg (fun e=>hk' e.symm)];exact ho,by simp,rfl,rfl⟩⟩
  ·simp [Go.builtin,Builtin.delete_,Sem.run_bind,a_l hu,getObj,setObj,Sem.run,hb,b_s hkt,hk]
  ·have hlen:ents.size=m.length+1:=by
    have:=congrArg List.length h2;simpa using this
   have he:(ents.eraseIdxIfInBounds k).toList=ents.toList.eraseIdx k:=by
    unfold Array.eraseIdxIfInBounds;rw [dif_pos (by omega),Array.toList_eraseIdx]
   rw [he,List.eraseIdx_eq_take_drop_succ,List.map_append,List.map_take,List.map_drop,h2,hkm,List.map_append,List.take_left' (by simp),List.drop_of_length_le (by simp)];simp
def Topo (fs:List Frag):List BA->Prop
 | []=>True
 | n::l=>(∀ f,a_h Frag.name fs n=some f->∀ s∈spL f.kids,isFr fs s=true->s∈l)/\Topo fs l
def Cyc (fs:List Frag):Prop:=∃ n f,a_h Frag.name fs n=some f/\Rch fs f.kids n
def Chn (fs:List Frag):List BA->Prop
 | []=>True
 | p::l=>(∀ q r,l=q::r->∃ f,a_h Frag.name fs q=some f/\p∈spL f.kids)/\Chn fs l
section
variable {fs:List Frag}
theorem t_N:∀ {l:List BA},Topo fs l->∀ n∈l,∀ f,a_h Frag.name fs n=some f->∀ s∈spL f.kids,isFr fs s=true->s∈l
 | [],_,n,hn,_,_,_,_,_=>by simp at hn
 | m::l,⟨h1,h2⟩,n,hn,f,hf,s,hs,hi=>by
  rcases mc_.1 hn with rfl|hn
  ·exact .tail _ (h1 f hf s hs hi)
  ·exact .tail _ (t_N h2 n hn f hf s hs hi)
theorem t_0 {l:List BA}(h:Topo fs l){ks:List Sel}(hk:∀ s∈spL ks,isFr fs s=true->s∈l){s:BA}(hr:Rch fs ks s):s∈l:=by
 induction hr with
 | base h1 h2=>exact hk _ h1 h2
 | step _ hf h1 h2 ih=>exact t_N h _ ih _ hf _ h1 h2
theorem t_T:∀ {l:List BA},Topo fs l->l.Nodup->∀ n∈l,∀ f,a_h Frag.name fs n=some f->¬ Rch fs f.kids n
 | [],_,_,n,hn,_,_=>by simp at hn
 | m::l,⟨h1,h2⟩,hd,n,hn,f,hf=>by
  obtain ⟨d1,d2⟩:=List.nodup_cons.1 hd;rcases mc_.1 hn with rfl|hn
  ·exact fun hr=>d1 (t_0 h2 (h1 f hf) hr)
  ·exact t_T h2 d2 n hn f hf
theorem t_Q:∀ {P:List BA} {p:BA},Chn fs (p::P)->(∀ x∈p::P,isFr fs x=true)->∀ s∈P,∀ f,a_h Frag.name fs s=some f->Rch fs f.kids p
 | [],p,_,_,s,hs,_,_=>by simp at hs
 | q::l,p,⟨h1,h2⟩,hi,s,hs,f,hf=>by
  obtain ⟨g,hg,hp⟩:=h1 q l rfl;rcases mc_.1 hs with rfl|hs
  ·rw [hg] at hf;cases hf;exact .base hp (hi p (by simp))
  ·exact .step (t_Q h2 (fun x hx=>hi x (List.mem_cons_of_mem _ hx)) s hs f hf) hg hp (hi p (by simp))
theorem t_4 {P:List BA}{p s:BA}(hc:Chn fs (p::P))(hi:∀ x∈p::P,isFr fs x=true)(hf:a_h Frag.name fs p=some f)(hs:s∈spL f.kids)(hm:s∈p::P):Cyc fs:=by
 have his:=hi s hm;rcases mc_.1 hm with rfl|hm
 ·exact ⟨s,f,hf,.base hs his⟩
 ·obtain ⟨g,hg⟩:=k_3.1 his;exact ⟨s,g,hg,.step (t_Q hc hi s hm g hg) hf hs his⟩
end
def wV:List Frag->List BA->Nat
 | [],_=>0
 | f::l,V=>(if memB f.name V=true then 0 else (spL f.kids).length+1)+wV l V
theorem t_V (x:BA)(V:List BA):∀ l:List Frag,wV l (x::V)<=wV l V
 | []=>Nat.le_refl _
 | f::l=>by
  have ih:=t_V x V l;unfold wV;by_cases h:f.name∈V
  ·rw [if_pos (n_u.2 h),if_pos (n_u.2 (List.mem_cons_of_mem _ h))];omega
  ·rw [if_neg fun k=>h (n_u.1 k)];split<;>omega
theorem t_U {V:List BA}(hn:f.name∉V):∀ {l:List Frag},f∈l->wV l (f.name::V)+(spL f.kids).length+1<=wV l V
 | [],h=>by simp at h
 | g::l,h=>by
  have hm:=t_V f.name V l;rcases mc_.1 h with rfl|h
  ·rw [wV,wV,if_pos (n_u.2 (by simp)),if_neg fun k=>hn (n_u.1 k)];omega
  ·have ih:=t_U hn h;rw [wV,wV];by_cases hg:g.name∈V
   ·rw [if_pos (n_u.2 hg),if_pos (n_u.2 (List.mem_cons_of_mem _ hg))];omega
   ·rw [if_neg fun k=>hg (n_u.1 k)];split<;>omega
structure BL (c:WCtx) (ae cnt vb vm pb ib im kb rb base:Nat):Prop where
 d1:c.wb≠cnt/\c.wb≠ae/\c.wb≠vb/\c.wb≠vm
 d2:cnt≠ae/\cnt≠vb/\cnt≠vm/\ae≠vb/\ae≠vm/\vb≠vm
 lt:c.wb<kb/\cnt<kb/\ae<kb/\vb<kb/\vm<kb
 up:kb<pb/\pb<im/\im<ib/\ib<rb/\rb<base
 M:∀ b,c.M b->b≠cnt/\b≠ae/\b≠vm/\b<kb
abbrev XC (ae cnt vm pb im:Nat)(A:OA):Nat->Prop:=fun b=>b=cnt∨b=ae∨b=vm∨b=pb∨b=im∨blkOf A b
abbrev capC (ae vb pb ib kb rb:Nat):List Value:=[.pointer (some (adr vb)),.pointer (some (adr pb)),.pointer (some (adr ib)),.pointer (some (adr kb)),.pointer (some (adr rb)),.pointer (some (adr ae))]
structure CS (c:WCtx) (ae cnt vb vm pb ib im kb rb base:Nat) (V P:List BA) (d:Nat) (A:OA) (C:Nat) (m:Nat) (b:Prop) (w:World):Prop where
 wk:Wk c c.w0 w
 sz:base<=w.heap.size
 walker:∃ cs,Blk w c.wb 212 cs/\cs[2]? =some (.pointer (some (adr c.qb)))
 vblk:Blk w vb 208 [.map (some vm)]
 vmap:∃ mm,SMap w vm mm/\∀ n,(n∈V->mget mm n=some (.bool true))/\(n∉V->mget mm n=none)
 pblk:Blk w pb 257 [.slice A d C]
 path:∃ ps,OwnR 228 1 RSpn base w A d C ps
 iblk:Blk w ib 258 [.map (some im)]
 imap:∃ mm,SMap w im mm/\mm.map (·.1)=P.reverse/\∀ x∈mm,∃ z,x.2=.int .i64 z
 kblk:Blk w kb 170 [.pointer (some (adr c.wb))]
 rblk:Blk w rb 259 [.func (.func 138) #[] (capC ae vb pb ib kb rb).toArray]
 cnt:Cnt ae cnt m b w
section
variable {c:WCtx} {ae cnt vb vm pb ib im kb rb base:Nat} {V P:List BA} {d:Nat} {A:OA} {C m:Nat} {b:Prop} {w w':World}
theorem CS.own (h:CS c ae cnt vb vm pb ib im kb rb base V P d A C m b w){x:Nat}(hx:blkOf A x):base<=x/\x<w.heap.size:=by
 obtain ⟨ps,k5⟩:=h.path;exact k5.ge x hx
theorem CS.upd (h:CS c ae cnt vb vm pb ib im kb rb base V P d A C m b w)(hx:Ext X w w')(hM:∀ x,c.M x->¬ X x)(h1:¬ X c.wb)(h2:¬ X vb)(h6:¬ X ib)(h8:¬ X kb)(h9:¬ X rb){V' P':List BA}{d':Nat}{A':OA}{C' m':Nat}{b':Prop}
  (vm':∃ mm,SMap w' vm mm/\∀ n,(n∈V'->mget mm n=some (.bool true))/\(n∉V'->mget mm n=none)) (pb':Blk w' pb 257 [.slice A' d' C']) (pa':∃ ps,OwnR 228 1 RSpn base w' A' d' C' ps)
  (im':∃ mm,SMap w' im mm/\mm.map (·.1)=P'.reverse/\∀ x∈mm,∃ z,x.2=.int .i64 z) (cn':Cnt ae cnt m' b' w'):CS c ae cnt vb vm pb ib im kb rb base V' P' d' A' C' m' b' w':=by
 obtain ⟨cs,k1,k2⟩:=h.walker;exact ⟨h.wk.trans (Wk.ofExt hx hM),lt_ h.sz hx.size,⟨cs,k1.ext hx h1,k2⟩,h.vblk.ext hx h2,vm',pb',pa',h.iblk.ext hx h6,im',h.kblk.ext hx h8,h.rblk.ext hx h9,cn'⟩
theorem CS.vE (h:CS c ae cnt vb vm pb ib im kb rb base V P d A C m b w)(hx:Ext X w w')(hn:¬ X vm):∃ mm,SMap w' vm mm/\∀ n,(n∈V->mget mm n=some (.bool true))/\(n∉V->mget mm n=none):=by
 obtain ⟨mm,k3,k4⟩:=h.vmap;exact ⟨mm,k3.ext hx hn,k4⟩
theorem CS.iE (h:CS c ae cnt vb vm pb ib im kb rb base V P d A C m b w)(hx:Ext X w w')(hn:¬ X im):∃ mm,SMap w' im mm/\mm.map (·.1)=P.reverse/\∀ x∈mm,∃ z,x.2=.int .i64 z:=by
 obtain ⟨mm,k3,k4⟩:=h.imap;exact ⟨mm,k3.ext hx hn,k4⟩
theorem CS.pE (h:CS c ae cnt vb vm pb ib im kb rb base V P d A C m b w)(hx:Ext X w w')(hn:∀ x,blkOf A x->¬ X x):∃ ps,OwnR 228 1 RSpn base w' A d C ps:=by
 obtain ⟨ps,k5⟩:=h.path;exact ⟨ps,k5.keep hx hn⟩
theorem CS.ext0 (h:CS c ae cnt vb vm pb ib im kb rb base V P d A C m b w)(hx:EF w w'):CS c ae cnt vb vm pb ib im kb rb base V P d A C m b w':=
 h.upd hx (fun _ _=>id) id id id id id (h.vE hx id) (h.pblk.ext hx id) (h.pE hx fun _ _=>id) (h.iE hx id) (h.cnt.ext hx id id)
theorem t_R:∀ {mm:List (BA × Value)} {Q:List BA} (n:BA),mm.map (·.1)=Q->(∀ x∈mm,∃ z,x.2=.int .i64 z)->(n∈Q->∃ z,mget mm n=some (.int .i64 z))/\(n∉Q->mget mm n=none)
 | [],_,n,rfl,_=>⟨fun h=>by simp at h,fun _=>rfl⟩
 | x::mm,_,n,rfl,hv=>by
  have ih:=t_R (mm:=mm) n rfl fun y hy=>hv y (List.mem_cons_of_mem _ hy);by_cases h:n=x.1
  ·obtain ⟨z,hz⟩:=hv x (by simp);have hg:mget (x::mm) n=some (.int .i64 z):=by simp [mget,List.find?_cons,h_v.2 h,hz]
   exact ⟨fun _=>⟨z,hg⟩,fun k=>absurd (by simp [h]) k⟩
  ·have hb:(n==x.1)=false:=by
    cases hh:(n==x.1) with
    | false=>rfl
    | true=>exact absurd (h_v.1 hh) h
   have hg:mget (x::mm) n=mget mm n:=by simp [mget,List.find?_cons,hb]
   rw [hg];exact ⟨fun k=>ih.1 ((mc_.1 k).resolve_left h),fun k=>ih.2 fun k'=>k (List.mem_cons_of_mem _ k')⟩
theorem CS.setV (B:BL c ae cnt vb vm pb ib im kb rb base)(h:CS c ae cnt vb vm pb ib im kb rb base V P d A C m b w)(hm0:∀ n,(n∈V->mget mm n=some (.bool true))/\(n∉V->mget mm n=none))(hx:Ext (fun k=>k=vm) w w')(hm:SMap w' vm (mput mm n (.bool true))):CS c ae cnt vb vm pb ib im kb rb base (n::V) P d A C m b w':=by
 obtain ⟨d1,d2,d3,d4⟩:=B.d1;obtain ⟨e1,e2,e3,e4,e5,e6⟩:=B.d2;obtain ⟨l1,l2,l3,l4,l5⟩:=B.lt;obtain ⟨u1,u2,u3,u4,u5⟩:=B.up;refine h.upd hx (fun x hx e=>(B.M x hx).2.2.1 e) d4 e6 (by omega) (by omega) (by omega) ⟨_,hm,fun k=>?_⟩ (h.pblk.ext hx (by omega)) (h.pE hx fun x hx e=>?_) (h.iE hx (by omega)) (h.cnt.ext hx e5 e3)
 ·rw [b_F];by_cases hk:k=n
  ·rw [if_pos hk];exact ⟨fun _=>rfl,fun q=>absurd (by simp [hk]) q⟩
  ·rw [if_neg hk];exact ⟨fun q=>(hm0 k).1 ((mc_.1 q).resolve_left hk),fun q=>(hm0 k).2 fun q'=>q (List.mem_cons_of_mem _ q')⟩
 ·have:=(h.own hx).1;omega
theorem CS.setI (B:BL c ae cnt vb vm pb ib im kb rb base)(h:CS c ae cnt vb vm pb ib im kb rb base V P d A C m b w){P':List BA}(hx:Ext (fun k=>k=im) w w')(hm:SMap w' im mm)(hk:mm.map (·.1)=P'.reverse)(hv:∀ x∈mm,∃ z,x.2=.int .i64 z):CS c ae cnt vb vm pb ib im kb rb base V P' d A C m b w':=by
 obtain ⟨d1,d2,d3,d4⟩:=B.d1;obtain ⟨l1,l2,l3,l4,l5⟩:=B.lt;obtain ⟨u1,u2,u3,u4,u5⟩:=B.up;refine h.upd hx (fun x hx e=>?_) (by omega) (by omega) (by omega) (by omega) (by omega) (h.vE hx (by omega)) (h.pblk.ext hx (by omega)) (h.pE hx fun x hx e=>?_) ⟨mm,hm,hk,hv⟩ (h.cnt.ext hx (by omega) (by omega))
 ·have:=(B.M x hx).2.2.2;omega
 ·have:=(h.own hx).1;omega
theorem CS.setP (B:BL c ae cnt vb vm pb ib im kb rb base)(h:CS c ae cnt vb vm pb ib im kb rb base V P d A C m b w){d':Nat}{A':OA}{C':Nat}(hx:Ext (fun k=>k=pb∨blkOf A k) w w')(hB:Blk w' pb 257 [.slice A' d' C'])(hp:∃ ps,OwnR 228 1 RSpn base w' A' d' C' ps):CS c ae cnt vb vm pb ib im kb rb base V P d' A' C' m b w':=by
 obtain ⟨d1,d2,d3,d4⟩:=B.d1;obtain ⟨l1,l2,l3,l4,l5⟩:=B.lt;obtain ⟨u1,u2,u3,u4,u5⟩:=B.up;have no:∀ x,x<base->x≠pb->¬ (x=pb∨blkOf A x):=fun x h1 h2 e=>e.elim h2 fun e=>by
  have:=(h.own e).1;omega
 refine h.upd hx (fun x hx=>no x ?_ ?_) (no _ (by omega) (by omega)) (no _ (by omega) (by omega)) (no _ (by omega) (by omega)) (no _ (by omega) (by omega)) (no _ (by omega) (by omega)) (h.vE hx (no _ (by omega) (by omega))) hB hp (h.iE hx (no _ (by omega) (by omega))) (h.cnt.ext hx (no _ (by omega) (by omega)) (no _ (by omega) (by omega)))
 ·have:=(B.M x hx).2.2.2;omega
 ·have:=(B.M x hx).2.2.2;omega
theorem CS.setC (B:BL c ae cnt vb vm pb ib im kb rb base)(h:CS c ae cnt vb vm pb ib im kb rb base V P d A C m b w){m':Nat}{b':Prop}(hx:Ext (fun k=>k=cnt∨k=ae) w w')(hc:Cnt ae cnt m' b' w'):CS c ae cnt vb vm pb ib im kb rb base V P d A C m' b' w':=by
 obtain ⟨d1,d2,d3,d4⟩:=B.d1;obtain ⟨e1,e2,e3,e4,e5,e6⟩:=B.d2;obtain ⟨l1,l2,l3,l4,l5⟩:=B.lt;obtain ⟨u1,u2,u3,u4,u5⟩:=B.up;refine h.upd hx (fun x hx e=>e.elim (B.M x hx).1 (B.M x hx).2.1) (by omega) (by omega) (by omega) (by omega) (by omega) (h.vE hx (by omega)) (h.pblk.ext hx (by omega)) (h.pE hx fun x hx e=>?_) (h.iE hx (by omega)) hc;have:=(h.own hx).1;omega
end
structure LG (fs:List Frag) (V fin P:List BA) (b:Prop):Prop where
 vis:∀ n,n∈V↔n∈fin∨n∈P
 cyc:b->Cyc fs
 topo:¬ b->Topo fs fin
 nd:(fin++P).Nodup
 chn:Chn fs P
 fr:∀ n,n∈fin∨n∈P->isFr fs n=true
theorem t_J {c:WCtx}{A:OA}{L C:Nat}{xs:List Frag}{name:BA}{w:World}(hwk:Wk c c.w0 w)(h:h_r c.M c.w0 A L C xs):
  CP 140 #[.slice A L C,.string name] w fun e w'=>∃ q,e=.returned (.pointer q)/\w'=w/\OptQ (PFrag c.M c.w0) (a_h Frag.name xs name) q:=by
 have hl:=h.1;have hl2:=h.2.2.1;refine t_v A L C name w _ ⟨fun i w1=>0<=i/\i<=L/\w1=w/\a_h Frag.name (xs.take i.toNat) name=none,fun i _=>((L:Int)-i).toNat,⟨by omega,by omega,rfl,by simp [a_h]⟩,?_⟩;rintro i w1 ⟨h0,hi,rfl,hn⟩;refine ⟨fun hlt=>?_,fun hge=>?_⟩
 ·have hlt:=odt hlt;obtain ⟨p,x,v,hp,hx,hc,b,rfl,hpx⟩:=h.wget hwk (fun _=>rfl) h0 hlt;have hpx':=hpx;obtain ⟨_,_,_,_,_,_,_,hM,hB,-⟩:=hpx';refine ⟨p,hp,⟨h0,hlt⟩,_,hc,adr b,rfl,x.name,hwk.nd hM hB (j:=1) rfl rfl,fun he=>?_,fun hne=>?_⟩
  ·refine ⟨_,rfl,rfl,?_⟩;rw [c_J hn hx (a_b.1 he)];exact ⟨b,rfl,hpx⟩
  ·rw [a_a h0 (by omega)];exact next h0 hlt ⟨rfl,c_h h0 hn hx (a_f.1 hne)⟩
 ·have hle:=odf hge;rw [tl_ (by omega)] at hn;refine ⟨none,rfl,rfl,?_⟩;rw [hn];rfl
section
variable {c:WCtx} {ae cnt vb vm pb ib im kb rb base:Nat}
theorem u_a (B:BL c ae cnt vb vm pb ib im kb rb base)(okf:∀ f∈c.frags,b_j f)(hq:d_O c.M c.w0 c.ops c.frags c.qb)(hqb:c.M c.qb)(hsel:∀ f∈c.frags,selL f.kids<=2097152/\(spL f.kids).length<=2097152):∀ (k:Nat) (V fin P:List BA) (d:Nat) (A:OA) (C m:Nat) (b:Prop) (w:World) (f:Frag) (fb:Nat),CS c ae cnt vb vm pb ib im kb rb base V P d A C m b w->LG c.frags V fin P b->a_h Frag.name c.frags f.name=some f->PFrag c.M c.w0 f fb->f.name∉P->(∀ q r,P=q::r->∃ g,a_h Frag.name c.frags q=some g/\f.name∈spL g.kids)->wV c.frags V<=k->d+wV c.frags V<=8388608->
  CP 138 #[.pointer (some (adr fb)),.pointer (some (adr vb)),.pointer (some (adr pb)),.pointer (some (adr ib)),.pointer (some (adr kb)),.pointer (some (adr rb)),.pointer (some (adr ae))] w fun e w'=>e=.returned (.tuple #[])/\∃ V' fin' A' C' m' b',CS c ae cnt vb vm pb ib im kb rb base V' P d A' C' m' b' w'/\LG c.frags V' fin' P b'/\f.name∈fin'/\(∀ n∈fin,n∈fin')/\(b->b')/\m'+wV c.frags V'<=m+wV c.frags V/\wV c.frags V'<=wV c.frags V/\Ext (XC ae cnt vm pb im A) w w'/\∀ x,blkOf A' x->blkOf A x∨w.heap.size<=x:=by
 intro k;induction k using Nat.strongRecOn with
 | ind k IH=>
 intro V fin P d A C m b w f fb S G hf hp hnP hpar hk hd;obtain ⟨e1,e2,e3,e4,e5,e6⟩:=B.d2;obtain ⟨l1,l2,l3,l4,l5⟩:=B.lt;obtain ⟨u1,u2,u3,u4,u5⟩:=B.up;refine t_w (some (adr fb)) (adr vb) (adr pb) (adr ib) (adr kb) (adr rb) (adr ae) w _ fun w8 e8=>?_;have x8:EF w w8:=by rw [e8];exact (Ext.refl w).drew
 clear e8;have S8:=S.ext0 x8;obtain ⟨A2,L2,C2,A3,L3,C3,pos,hM,hB,hD,hK⟩:=hp;have hfm:=(a_U hf).1;have hsf:=hsel f hfm;have c1:∀ {w':World},Wk c c.w0 w'->w'.cell? ((adr fb).add 1)=some (.string f.name):=fun h=>h.nd hM hB (j:=1) rfl rfl;obtain ⟨mm,hm8,hmm⟩:=S8.vmap;have hl:=a_W (t:=208) (kt:=9) (e:=4) (u:=f.name) (i:=Tryz.t4) (by kernel_rfl) (by kernel_rfl) (by kernel_rfl) rfl hm8 false;by_cases hv:f.name∈V
 ·rw [(hmm f.name).1 hv] at hl;refine ⟨some vm,(S8.vblk.at (j:=0) rfl).cell,adr fb,rfl,f.name,c1 S8.wk,true,hl,fun _=>?_,fun h=>(by cases h)⟩;have hfin:f.name∈fin:=((G.vis _).1 hv).resolve_right hnP;exact ⟨rfl,V,fin,A,C,m,b,S8,G,hfin,fun _ h=>h,id,Nat.le_refl _,Nat.le_refl _,x8.toM _,fun x hx=>.inl hx⟩
 rw [(hmm f.name).2 hv] at hl;refine ⟨some vm,(S8.vblk.at (j:=0) rfl).cell,adr fb,rfl,f.name,c1 S8.wk,false,hl,fun h=>(by cases h),fun _=>fun w13 e13=>?_⟩;have x13:EF w8 w13:=by rw [e13];exact (Ext.refl w8).drew
 clear e13;have S13:=S8.ext0 x13;obtain ⟨mm13,hm13,hmm13⟩:=S13.vmap;obtain ⟨w17,r17,hm17,x17⟩:=b_T (t:=208) (kt:=9) (e:=4) (u:=f.name) (v:=.bool true) (by kernel_rfl) (by kernel_rfl) hm13;have S17:=S13.setV B hmm13 x17 hm17;refine ⟨some vm,(S13.vblk.at (j:=0) rfl).cell,adr fb,rfl,f.name,c1 S13.wk,w17,r17,trivial,trivial,adr fb,rfl,A3,L3,C3,S17.wk.nd hM hB (j:=5) rfl rfl,?_⟩;refine (t_E S17.wk hK (okf f hfm).2.1 hsf.1 hsf.2).mono ?_;rintro _ w21 ⟨As,Ls,Cs,xs,rfl,x21,oS,hnd,hxl,hxm⟩;have S21:=S17.ext0 x21;have eL:=oS.len (by omega);have hW:=t_U hv hfm;have y17:Ext (XC ae cnt vm pb im A) w w17:=((x8.then x13).toM _).trans x17 fun _ _ e=>.inr (.inr (.inl e));have y21:Ext (XC ae cnt vm pb im A) w w21:=y17.trans x21 fun _ _ e=>e.elim;have hnV:f.name∉fin++P:=fun h=>hv ((G.vis _).2 (ma_.1 h));have hfr:isFr c.frags f.name=true:=k_3.2 ⟨f,hf⟩;have hff:∀ g,a_h Frag.name c.frags f.name=some g->g=f:=fun g h=>Option.some.inj (h.symm.trans hf);refine ⟨As,Ls,Cs,rfl,trivial,fun hz=>?_,fun hnz=>fun w23 e23=>?_⟩
 ·have hL:Ls=0:=by simpa using hz
  have hsp:spL f.kids=[]:=List.eq_nil_of_length_eq_zero (by omega);refine ⟨rfl,f.name::V,f.name::fin,A,C,m,b,S21,⟨fun n=>?_,G.cyc,fun hb=>⟨fun g hg s hs=>?_,G.topo hb⟩,List.nodup_cons.2 ⟨hnV,G.nd⟩,G.chn,fun n hn=>?_⟩,by simp,fun n h=>.tail _ h,id,by omega,by omega,y21,fun x hx=>.inl hx⟩
  ·rw [mc_,mc_,G.vis n,or_assoc]
  ·rw [hff g hg,hsp] at hs;simp at hs
  ·rcases hn with hn|hn
   ·rcases mc_.1 hn with rfl|hn
    ·exact hfr
    ·exact G.fr n (.inl hn)
   ·exact G.fr n (.inr hn)
 have x23:EF w21 w23:=by rw [e23];exact (Ext.refl w21).drew
 clear e23;have S23:=S21.ext0 x23;obtain ⟨mi,hmi,hki,hvi⟩:=S23.imap;obtain ⟨w28,r28,hm28,x28⟩:=b_T (t:=258) (kt:=9) (e:=3) (u:=f.name) (v:=.int .i64 (d:Int)) (by kernel_rfl) (by kernel_rfl) hmi;have hmp:mput mi f.name (.int .i64 (d:Int))=mi++[(f.name,.int .i64 (d:Int))]:=m_u fun x hx=>by
  cases hh:(f.name==x.1) with
  | false=>rfl
  | true=>
   have:x.1∈mi.map (·.1):=mm_.2 ⟨x,hx,rfl⟩;rw [hki,List.mem_reverse,<- h_v.1 hh] at this;exact absurd this hnP
 rw [hmp] at hm28;have S28:CS c ae cnt vb vm pb ib im kb rb base (f.name::V) (f.name::P) d A C m b w28:=S23.setI B x28 hm28 (by rw [List.map_append,hki,List.reverse_cons];rfl) fun x hx=>by
  rcases ma_.1 hx with hx|hx
  ·exact hvi x hx
  ·obtain rfl:=List.mem_singleton.1 hx;exact ⟨_,rfl⟩
 refine ⟨some im,(S23.iblk.at (j:=0) rfl).cell,adr fb,rfl,f.name,c1 S23.wk,A,d,C,(S23.pblk.at (j:=0) rfl).cell,w28,r28,trivial,trivial,?_⟩;have G28:LG c.frags (f.name::V) fin (f.name::P) b:=⟨fun n=>by rw [mc_,mc_,G.vis n,or_left_comm],G.cyc,G.topo,List.perm_middle.nodup_iff.2 (List.nodup_cons.2 ⟨hnV,G.nd⟩),⟨hpar,G.chn⟩,fun n hn=>by
  rcases hn with hn|hn
  ·exact G.fr n (.inl hn)
  ·rcases mc_.1 hn with rfl|hn
   ·exact hfr
   ·exact G.fr n (.inr hn)⟩
 have y28:Ext (XC ae cnt vm pb im A) w w28:=(y21.trans x23 fun _ _ e=>e.elim).trans x28 fun _ _ e=>.inr (.inr (.inr (.inr (.inl e))));have hz17:=y17.size;have hz21:=x21.size;have hz23:=x23.size;have hz28:=x28.size;have hrb:=S17.rblk.lt;have hoS:∀ x,blkOf As x->w17.heap.size<=x/\x<w28.heap.size:=fun x hx=>by
  have:=oS.ge x hx;omega
 have oS28:OwnR 228 1 RSpn w17.heap.size w28 As Ls Cs xs:=(oS.keep0 x23).keep x28 fun x hx e=>by
  have:=(hoS x hx).1;omega
 refine ⟨fun n w1=>0<=n/\n<=Ls/\∃ V1 fin1 A1 C1 m1 b1,CS c ae cnt vb vm pb ib im kb rb base V1 (f.name::P) d A1 C1 m1 b1 w1/\LG c.frags V1 fin1 (f.name::P) b1/\(∀ n∈fin,n∈fin1)/\(b->b1)/\(¬ b1->∀ x∈xs.take n.toNat,isFr c.frags x.1=true->x.1∈fin1)/\m1+wV c.frags V1<=m+wV c.frags (f.name::V)+n.toNat/\wV c.frags V1<=wV c.frags (f.name::V)/\Ext (XC ae cnt vm pb im A) w28 w1/\(∀ x,blkOf A1 x->blkOf A x∨w28.heap.size<=x)/\OwnR 228 1 RSpn w17.heap.size w1 As Ls Cs xs,fun n _=>((Ls:Int)-n).toNat,
  ⟨by omega,by omega,f.name::V,fin,A,C,m,b,S28,G28,fun _ h=>h,id,fun _ x hx=>by simp at hx,by omega,Nat.le_refl _,Ext.refl _,fun x hx=>.inl hx,oS28⟩,?_⟩
 rintro n w1 ⟨h0,hi,V1,fin1,A1,C1,m1,b1,S1,G1,hsub,hbb,hcov,hm1,hw1,x1,hA1,oS1⟩;have hz1:=x1.size;have hAs:∀ x,blkOf As x->¬ blkOf A1 x:=fun x hx hx'=>by
  have h1:=hoS x hx;rcases hA1 x hx' with h2|h2
  ·have:=(S.own h2).2;omega
  ·omega
 refine ⟨fun hlt=>?_,fun hge=>fun w80 e80=>?_⟩
 ·have hlt:=odt hlt;obtain ⟨x,hx⟩:∃ x,xs[n.toNat]? =some x:=⟨xs[n.toNat]'(by omega),List.getElem?_eq_getElem (by omega)⟩;have hxmem:=mg_ hx;obtain ⟨cells,oc,fc⟩:=id oS1;obtain ⟨p33,hp33,cs,rfl,hat⟩:=oc.elem fc (by omega) hx;have c33:w1.cell? (p33.add (n.toNat*1))=some (.pointer (some (adr x.2))):=by simpa using (hat 0 _ rfl).cell
  obtain ⟨hxM,dd,u2,u3,xpos,hxB⟩:=hnd x hxmem;obtain ⟨mi1,hmi1,hki1,hvi1⟩:=S1.imap;have hlk:=a_W (t:=258) (kt:=9) (e:=3) (u:=x.1) (i:=Tryz.t3) (by kernel_rfl) (by kernel_rfl) (by kernel_rfl) rfl hmi1 true;have hig:=t_R x.1 hki1 hvi1;obtain ⟨n38,z39,hrun,hz39⟩:∃ (n38:Int) (z39:Bool),(Instr.lookup 258 (.map (some im)) (.string x.1) true).run Tryz.prog w1=.ok (.tuple #[.int .i64 n38,.bool z39]) w1/\(z39=true↔x.1∈f.name::P):=by
   by_cases hin:x.1∈f.name::P
   ·obtain ⟨z,hz⟩:=hig.1 (List.mem_reverse.2 hin);rw [hz] at hlk;exact ⟨z,true,hlk,fun _=>hin,fun _=>rfl⟩
   ·rw [hig.2 fun h=>hin (List.mem_reverse.1 h)] at hlk;exact ⟨0,false,hlk,nofun,fun h=>absurd h hin⟩
  refine ⟨p33,hp33,⟨h0,hlt⟩,some (adr x.2),c33,adr x.2,rfl,x.1,S1.wk.nd hxM hxB (j:=0) rfl rfl,some im,(S1.iblk.at (j:=0) rfl).cell,n38,z39,hrun,A1,d,C1,(S1.pblk.at (j:=0) rfl).cell,trivial,?_⟩;obtain ⟨ps1,op1⟩:=S1.path;obtain ⟨A42,C42,w43,r43,o43,x43,-, hA42⟩:=op1.one 257 Tryz.t228 _ _ (by kernel_rfl) (by kernel_rfl) rfl (by kernel_rfl) rfl (by kernel_rfl) (by omega) (by decide) S1.sz (x:=x) (cs:=[.pointer (some (adr x.2))]) rfl (fun v hv=>by
   obtain rfl:v=.pointer (some (adr x.2)):=by simpa using hv
   rfl) rfl (by omega) 257 #[false,false]
  have hbz:=S1.sz;have hpbA:¬ blkOf A1 pb:=fun h=>by
   have:=(S1.own h).1;omega
  have B43:=S1.pblk.ext x43 hpbA;refine ⟨A42,d+1,C42,w43,r43,trivial,B43.off (j:=0) (n:=1) (q:=fun _=>false) (by simp) rfl,trivial,?_⟩;have x44:Ext (fun b=>b=pb) w43 (w43.setCell (adr pb) (.slice A42 (d+1) C42)):=Ext.setCell (X:=fun b=>b=pb) (Ext.refl _) (a:=⟨pb,0,none⟩) (.inl rfl) _;have B44:Blk (w43.setCell (adr pb) (.slice A42 (d+1) C42)) pb 257 [.slice A42 (d+1) C42]:=B43.set 0 _;show ∀ K45:World->Prop,_;generalize w43.setCell (adr pb) (.slice A42 (d+1) C42)=w44 at *;intro K45 hK45;have hpbA42:∀ x,blkOf A42 x->¬ x=pb:=fun x hx e=>by
   have:=(OwnR.ge o43 x hx).1;omega
  have y44:Ext (fun b=>b=pb∨blkOf A1 b) w1 w44:=(x43.mono fun _ _ e=>.inr e).trans x44 fun _ _ e=>.inl e;have S44:CS c ae cnt vb vm pb ib im kb rb base V1 (f.name::P) (d+1) A42 C42 m1 b1 w44:=S1.setP B y44 B44 ⟨_,OwnR.keep o43 x44 hpbA42⟩;have hz43:=x43.size;have hz44:=x44.size;have oS44:OwnR 228 1 RSpn w17.heap.size w44 As Ls Cs xs:=oS1.keep y44 fun x hx e=>by
   rcases e with e|e
   ·have:=(hoS x hx).1;omega
   ·exact hAs x hx e
  have y44':Ext (XC ae cnt vm pb im A1) w1 w44:=y44.mono fun _ _ e=>e.elim (fun e=>.inr (.inr (.inr (.inl e)))) fun e=>.inr (.inr (.inr (.inr (.inr e))));have hA42':∀ x,blkOf A42 x->blkOf A1 x∨w1.heap.size<=x:=fun x hx=>(hA42 x hx).imp id Nat.le_of_lt;have hsp:x.1∈spL f.kids:=(hxm x.1).1 ⟨x,hxmem,rfl⟩;have key45:∀ (w46:World) (V2 fin2:List BA) (A2:OA) (C2 m2:Nat) (b2:Prop),CS c ae cnt vb vm pb ib im kb rb base V2 (f.name::P) (d+1) A2 C2 m2 b2 w46->LG c.frags V2 fin2 (f.name::P) b2->(∀ n∈fin1,n∈fin2)->(b1->b2)->(¬ b2->isFr c.frags x.1=true->x.1∈fin2)->m2+wV c.frags V2<=m1+wV c.frags V1+1->wV c.frags V2<=wV c.frags V1->Ext (XC ae cnt vm pb im A1) w1 w46->(∀ x,blkOf A2 x->blkOf A1 x∨w1.heap.size<=x)->OwnR 228 1 RSpn w17.heap.size w46 As Ls Cs xs->K45 w46:=by
   intro w46 V2 fin2 A2 C2 m2 b2 S2 G2 hs2 hb2 hx2 hm2 hw2 x2 hA2 oS2;obtain ⟨ps2,op2⟩:=S2.path;have hle:d+1<=C2:=by
    obtain ⟨cc,oo,ff⟩:=id op2;exact oo.len.2
   have hwr:wr (((d+1:Nat):Int)-(1:Int))=(d:Int):=by rw [n_k (by omega) (by omega)];omega
   have cp:=(S2.pblk.at (j:=0) rfl).cell;refine hK45 w46 ⟨A2,d+1,C2,cp,A2,d+1,C2,cp,?_,S2.pblk.off (j:=0) (n:=1) (q:=fun _=>false) (by simp) rfl,trivial,?_⟩
   ·rw [hwr];exact ⟨by decide,by omega,by omega⟩
   rw [hwr,t_5];have hvv:Value.slice A2 ((d:Int).toNat-(0:Int).toNat) (C2-(0:Int).toNat)=.slice A2 d C2:=by simp
   rw [hvv];have x49:Ext (fun b=>b=pb) w46 (w46.setCell (adr pb) (.slice A2 d C2)):=Ext.setCell (X:=fun b=>b=pb) (Ext.refl _) (a:=⟨pb,0,none⟩) (.inl rfl) _;have B49:Blk (w46.setCell (adr pb) (.slice A2 d C2)) pb 257 [.slice A2 d C2]:=S2.pblk.set 0 _;have S49:CS c ae cnt vb vm pb ib im kb rb base V2 (f.name::P) d A2 C2 m2 b2 (w46.setCell (adr pb) (.slice A2 d C2)):=S2.setP B (x49.mono fun _ _ e=>.inl e) B49 ⟨_,OwnR.keep (op2.cut (Nat.le_succ d) (by omega)) x49 fun x hx e=>by
    have:=(S2.own hx).1;omega⟩
   have oS49:=oS2.keep x49 fun x hx e=>by
    have:=(hoS x hx).1;omega
   rw [a_a h0 (by omega)];refine next h0 hlt ⟨V2,fin2,A2,C2,m2,b2,S49,G2,fun n hn=>hs2 n (hsub n hn),fun h=>hb2 (hbb h),fun hb=>a_g h0 (fun y hy hf'=>hs2 _ (hcov (fun k=>hb (hb2 k)) y hy hf')) hx (hx2 hb),?_,by omega,(x1.trans x2 fun y hy e=>?_).trans x49 fun _ _ e=>.inr (.inr (.inr (.inl e))),fun y hy=>?_,oS49⟩
   ·rw [show (n+1).toNat=n.toNat+1 by omega];omega
   ·rcases e with e|e|e|e|e|e
    ·exact .inl e
    ·exact .inr (.inl e)
    ·exact .inr (.inr (.inl e))
    ·exact .inr (.inr (.inr (.inl e)))
    ·exact .inr (.inr (.inr (.inr (.inl e))))
    ·rcases hA1 y e with e|e
     ·exact .inr (.inr (.inr (.inr (.inr e))))
     ·omega
   ·rcases hA2 y hy with e|e
    ·exact hA1 y e
    ·exact .inr (lt_ hz1 e)
  refine ⟨fun hz=>?_,fun hz=>fun w64 e64=>?_⟩
  ·have hnin:x.1∉f.name::P:=fun h=>by rw [hz39.2 h] at hz;cases hz
   obtain ⟨wcs,kw,kq⟩:=S44.walker;obtain ⟨Aq1,Lq1,Cq1,Aq2,Lq2,Cq2,qpos,hqM,hqB,-, hqf⟩:=id hq;refine ⟨some (adr c.wb),(S44.kblk.at (j:=0) rfl).cell,adr c.wb,rfl,some (adr c.qb),(kw.at (j:=2) kq).cell,adr c.qb,rfl,Aq2,Lq2,Cq2,S44.wk.nd hqM hqB (j:=1) rfl rfl,?_⟩;refine (t_J S44.wk hqf).mono ?_;rintro _ _ ⟨q57,rfl,rfl,hq57⟩;refine ⟨q57,rfl,trivial,fun h=>?_,fun h=>?_⟩
   ·cases hgf:a_h Frag.name c.frags x.1 with
    | none=>
     rw [hgf] at hq57;obtain rfl:q57=none:=hq57;cases h
    | some g=>
     rw [hgf] at hq57;obtain ⟨gb,rfl,hgp⟩:=hq57;have hgn:g.name=x.1:=(a_U hgf).2;refine ⟨_,(S44.rblk.at (j:=0) rfl).cell,138,capC ae vb pb ib kb rb,rfl,_,Tryz.func138,by kernel_rfl,?_⟩;refine (IH (wV c.frags V1) (by omega) V1 fin1 (f.name::P) (d+1) A42 C42 m1 b1 _ g gb S44 G1 (by rw [hgn];exact hgf) hgp (by rw [hgn];exact hnin) (fun q r e=>?_) (Nat.le_refl _) (by omega)).mono ?_
     ·simp only [List.cons.injEq] at e;obtain ⟨rfl,-⟩:=e;exact ⟨f,hf,by rw [hgn];exact hsp⟩
     rintro _ w63 ⟨rfl,V2,fin2,A2',C2',m2,b2,S2,G2,hin,hs2,hb2,hm2,hw2,x2,hA2⟩;refine ⟨rfl,trivial,key45 w63 V2 fin2 A2' C2' m2 b2 S2 G2 hs2 hb2 (fun _ _=>hgn▸hin) (by omega) hw2 (y44'.trans x2 fun y hy e=>?_) (fun y hy=>?_) (oS44.keep x2 fun y hy e=>?_)⟩
     ·rcases e with e|e|e|e|e|e
      ·exact .inl e
      ·exact .inr (.inl e)
      ·exact .inr (.inr (.inl e))
      ·exact .inr (.inr (.inr (.inl e)))
      ·exact .inr (.inr (.inr (.inr (.inl e))))
      ·rcases hA42' y e with e|e
       ·exact .inr (.inr (.inr (.inr (.inr e))))
       ·omega
     ·rcases hA2 y hy with e|e
      ·exact hA42' y e
      ·exact .inr (by omega)
     ·have h1:=hoS y hy;rcases e with e|e|e|e|e|e
      ·omega
      ·omega
      ·omega
      ·omega
      ·omega
      ·rcases hA42' y e with e|e
       ·exact hAs y hy e
       ·omega
   ·have hno:a_h Frag.name c.frags x.1=none:=by
     cases hgf:a_h Frag.name c.frags x.1 with
     | none=>rfl
     | some g=>
      rw [hgf] at hq57;obtain ⟨gb,rfl,-⟩:=hq57;cases h
    exact key45 _ V1 fin1 A42 C42 m1 b1 S44 G1 (fun _ h=>h) id (fun _ hi=>by
     obtain ⟨g,hg⟩:=k_3.1 hi;rw [hno] at hg;cases hg) (by omega) (Nat.le_refl _) y44' hA42' oS44
  ·have hin:x.1∈f.name::P:=hz39.1 (by simpa using hz);have x64:EF w44 w64:=by rw [e64];exact (Ext.refl w44).drew
   clear e64;have S64:=S44.ext0 x64;have a4:=S64.wk.at (a:=⟨x.2,4,none⟩) hxM (hxB.at (j:=4) rfl) rfl;refine ⟨_,(S64.cnt.1.at (j:=0) rfl).cell,adr x.2,rfl,xpos,a4.cell,?_⟩;refine tell0 S64.cnt a4 e1.symm rfl fun w' x' c'=>key45 w' V1 fin1 A42 C42 (m1+1) True (S64.setC B x' c') ⟨G1.vis,fun _=>t_4 G1.chn (fun y hy=>G1.fr y (.inr hy)) hf hsp hin,fun h=>absurd trivial h,G1.nd,G1.chn,G1.fr⟩ (fun _ h=>h) (fun _=>trivial) (fun h=>absurd trivial h) (by omega) (Nat.le_refl _) ((y44'.trans x64 fun _ _ e=>e.elim).trans x' fun _ _ e=>e.elim .inl fun e=>.inr (.inl e)) hA42' ((oS44.keep0 x64).keep x' fun y hy e=>?_);have h1:=hoS y hy;omega
 ·have hge:=odf hge;have hnL:n.toNat=Ls:=by omega
  have x80:EF w1 w80:=by rw [e80];exact (Ext.refl w1).drew
  clear e80;have S80:=S1.ext0 x80;obtain ⟨mi8,hmi8,hki8,hvi8⟩:=S80.imap;rw [List.reverse_cons] at hki8;obtain ⟨m0,ml,rfl,hk0,hkl⟩:=List.map_eq_append_iff.1 hki8;obtain ⟨lv,rfl⟩:∃ v,ml=[(f.name,v)]:=by
   cases ml with
   | nil=>simp at hkl
   | cons y ml=>
    cases ml with
    | nil=>
     obtain ⟨y1,y2⟩:=y;simp only [List.map_cons,List.map_nil,List.cons.injEq,and_true] at hkl;exact ⟨y2,by rw [hkl]⟩
    | cons z ml=>simp at hkl
  obtain ⟨r,w85,r85,hm85,x85⟩:=t_P (t:=258) (kt:=9) (e:=3) (by kernel_rfl) (by kernel_rfl) hmi8 (fun y hy e=>by
   have:y.1∈m0.map (·.1):=mm_.2 ⟨y,hy,rfl⟩;rw [hk0,List.mem_reverse,e] at this;exact hnP this) 0 #[false,false]
  have S85:CS c ae cnt vb vm pb ib im kb rb base V1 P d A1 C1 m1 b1 w85:=S80.setI B x85 hm85 hk0 fun y hy=>hvi8 y (ma_.2 (.inl hy));refine ⟨some im,(S80.iblk.at (j:=0) rfl).cell,adr fb,rfl,f.name,c1 S80.wk,r,w85,r85,trivial,trivial,rfl,V1,f.name::fin1,A1,C1,m1,b1,S85,⟨fun q=>?_,G1.cyc,fun hb=>⟨fun g hg s hs hi'=>?_,G1.topo hb⟩,List.perm_middle.nodup_iff.1 G1.nd,G1.chn.2,fun q hq=>?_⟩,by simp,fun q h=>.tail _ (hsub q h),hbb,by omega,by omega,?_,fun y hy=>?_⟩
  ·rw [G1.vis q,mc_,mc_,or_left_comm,or_assoc]
  ·rw [hff g hg] at hs;obtain ⟨y,hy,rfl⟩:=(hxm s).2 hs;have:=hcov hb y;rw [hnL,tl_ (by omega)] at this;exact this hy hi'
  ·rcases hq with hq|hq
   ·rcases mc_.1 hq with rfl|hq
    ·exact hfr
    ·exact G1.fr q (.inl hq)
   ·exact G1.fr q (.inr (List.mem_cons_of_mem _ hq))
  ·exact (y28.trans (x1.trans x80 fun _ _ e=>e.elim) fun y hy e=>e).trans x85 fun _ _ e=>.inr (.inr (.inr (.inr (.inl e))))
  ·rcases hA1 y hy with e|e
   ·exact .inl e
   ·exact .inr (by have:=y28.size;omega)
end
theorem t_M {w:World}{a b:Nat}{T T':TypeId}{cs cs':List Value}(h:Blk w a T cs)(h':Blk w b T' cs')(hT:T≠T'):a≠b:=fun e=>by
 subst e;exact hT (h'.type h)
theorem t_O {w:World}{a b:Nat}{T:TypeId}{cs:List Value}(h:Blk w a T cs)(h':SMap w b mm):a≠b:=fun e=>by
 subst e;obtain ⟨ents,cl,h1,-⟩:=h';have h0:objAt w a=_:=h;rw [h1] at h0;cases h0
theorem t_H :∀ {l:List Frag},(l.map Frag.name).Nodup->f∈l->a_h Frag.name l f.name=some f
 | [],_,h=>by simp at h
 | x::l,hn,h=>by
  rw [List.map_cons,List.nodup_cons] at hn;rcases mc_.1 h with rfl|h
  ·simp [a_h]
  ·have hne:¬ x.name=f.name:=fun e=>hn.1 (e▸mm_.2 ⟨f,h,rfl⟩);have:=t_H hn.2 h;simp only [a_h] at this ⊢;rw [List.find?_cons,decide_eq_false hne];exact this
theorem t_9 (V:List BA):∀ l:List Frag,wV l V<=(l.map fun f=>selL f.kids).sum+l.length
 | []=>Nat.le_refl _
 | f::l=>by
  have ih:=t_9 V l;have hs:=i_R f.kids;rw [wV,List.map_cons,List.sum_cons,List.length_cons];split<;>omega
theorem t_6 (h:e_O ops frags<=2097152):(frags.map fun f=>(spL f.kids).length).sum<=2097152:=by
 have h1:(frags.map fun f=>(spL f.kids).length).sum<=(frags.map fun x=>selL x.kids).sum:=c_0 fun f _=>i_R f.kids;unfold e_O at h;omega
section
variable {c:WCtx} {ae cnt vb vm:Nat} {T:Nat} {l:List Ev} {w:World} {co:OA} {vw:Nat} {evs:List Value} {node:Value} {ev:Ev}
def StC (fs:List Frag)(ae cnt vb vm:Nat)(l:List Ev)(w:World):Prop:=Blk w vb 208 [.map (some vm)]/\∃ (V fin:List BA) (m:Nat) (b:Prop),(∃ mm,SMap w vm mm/\∀ n,(n∈V->mget mm n=some (.bool true))/\(n∉V->mget mm n=none))/\LG fs V fin [] b/\Cnt ae cnt m b w/\m+wV fs V<=wV fs []/\∀ f,Ev.frag f∈l->f.name∈fin
abbrev XY (ae cnt vb vm:Nat):Nat->Prop:=fun b=>b=cnt∨b=ae∨b=vm∨b=vb
theorem t_3 (hb:Base c)(hVM:∀ b,XY ae cnt vb vm b->¬ c.M b)(hMlt:∀ b,c.M b->b<c.w0.heap.size)(hne:ae≠cnt)(okf:∀ f∈c.frags,b_j f)(hnd:(c.frags.map Frag.name).Nodup)(hsel:∀ f∈c.frags,selL f.kids<=2097152/\(spL f.kids).length<=2097152)(hT:wV c.frags []<=8388608)
  (hc:StC c.frags ae cnt vb vm l w) (hw:Wst c co vw evs w) (hk:slot ev=2) (hn:f_i c w node ev):
  CP 137 #[.pointer (some (adr c.wb)),node,.pointer (some (adr vb)),.pointer (some (adr ae))] w fun e w'=>e=.returned (.tuple #[])/\Ext (XY ae cnt vb vm) w w'/\StC c.frags ae cnt vb vm (l++[ev]) w':=by
 cases ev with
 | frag f=>
  obtain ⟨fb,rfl,hp,hfm,-⟩:=hn;obtain ⟨Bv,V,fin,m,b,⟨mm,hm,hmm⟩,G,hC,hmW,hl⟩:=hc;have hCa:=hC.1;obtain ⟨nC,hCc,-⟩:=hC.2;have hww:=hw.walker;have lw:=hww.lt;have la:=hCa.lt;have lc:=hCc.lt;have lv:=Bv.lt;have lm:=hm.lt;have d1:c.wb≠cnt:=t_M hww hCc (by decide);have d2:c.wb≠ae:=t_M hww hCa (by decide);have d3:c.wb≠vb:=t_M hww Bv (by decide);have d4:c.wb≠vm:=t_O hww hm;have d5:cnt≠vb:=t_M hCc Bv (by decide);have d6:cnt≠vm:=t_O hCc hm;have d7:ae≠vb:=t_M hCa Bv (by decide);have d8:ae≠vm:=t_O hCa hm;have d9:vb≠vm:=t_O Bv hm;have x5:EF w (w.alloc (.cells #[.pointer (some (adr c.wb))] 170)):=(Ext.refl w).alloc _;have B5:=Blk.made w 170 [.pointer (some (adr c.wb))];have s5:(w.alloc (.cells #[.pointer (some (adr c.wb))] 170)).heap.size=w.heap.size+1:=by simp
  refine t_x (some (adr c.wb)) (some (adr fb)) (adr vb) (adr ae) w _ ⟨trivial,?_⟩;generalize w.alloc (.cells #[.pointer (some (adr c.wb))] 170)=w5 at *;have x6:EF w5 (w5.alloc (.cells #[.slice none 0 0] 257)):=(Ext.refl w5).alloc _;have B6:=Blk.made w5 257 [.slice none 0 0];have s6:(w5.alloc (.cells #[.slice none 0 0] 257)).heap.size=w5.heap.size+1:=by simp
  refine ⟨trivial,?_⟩;show True/\_;generalize w5.alloc (.cells #[.slice none 0 0] 257)=w6 at *;have x7:EF w6 (w6.alloc (.map #[] 0)):=(Ext.refl w6).alloc _;have M7:=SMap.made w6;have s7:(w6.alloc (.map #[] 0)).heap.size=w6.heap.size+1:=by simp
  generalize w6.alloc (.map #[] 0)=w7 at *;have x8:EF w7 (w7.alloc (.cells #[.map none] 258)):=(Ext.refl w7).alloc _;have B8:=Blk.made w7 258 [.map none];have s8:(w7.alloc (.cells #[.map none] 258)).heap.size=w7.heap.size+1:=by simp
  refine ⟨trivial,?_⟩;show (∃ _,_)/\_;generalize w7.alloc (.cells #[.map none] 258)=w8 at *;refine ⟨B8.off (j:=0) (n:=1) (q:=fun _=>false) (by simp) rfl,trivial,?_⟩;have x9:EF w7 (w8.setCell (adr w7.heap.size) (.map (some w6.heap.size))):=Ext.setCell x8 (a:=⟨w7.heap.size,0,none⟩) (.inr (Nat.le_refl _)) _;have B9:Blk (w8.setCell (adr w7.heap.size) (.map (some w6.heap.size))) w7.heap.size 258 [.map (some w6.heap.size)]:=B8.set 0 _;have s9:(w8.setCell (adr w7.heap.size) (.map (some w6.heap.size))).heap.size=w8.heap.size:=by simp
  refine ⟨⟨rfl,trivial⟩,?_⟩;show (∃ _,_)/\_;generalize w8.setCell (adr w7.heap.size) (.map (some w6.heap.size))=w9 at *;have x10:EF w9 (w9.alloc (.cells #[Value.nilFunc] 259)):=(Ext.refl w9).alloc _;have B10:=Blk.made w9 259 [Value.nilFunc];have s10:(w9.alloc (.cells #[Value.nilFunc] 259)).heap.size=w9.heap.size+1:=by simp
  generalize w9.alloc (.cells #[Value.nilFunc] 259)=w10 at *;refine ⟨B10.off (j:=0) (n:=1) (q:=fun _=>false) (by simp) rfl,trivial,?_⟩;obtain ⟨cap,hcap⟩:∃ cap,cap=capC ae vb w5.heap.size w7.heap.size w.heap.size w9.heap.size:=⟨_,rfl⟩;have x11:EF w9 (w10.setCell (adr w9.heap.size) (.func (.func 138) #[] cap.toArray)):=Ext.setCell x10 (a:=⟨w9.heap.size,0,none⟩) (.inr (Nat.le_refl _)) _;have B11:Blk (w10.setCell (adr w9.heap.size) (.func (.func 138) #[] cap.toArray)) w9.heap.size 259 [.func (.func 138) #[] cap.toArray]:=B10.set 0 _;have s11:(w10.setCell (adr w9.heap.size) (.func (.func 138) #[] cap.toArray)).heap.size=w10.heap.size:=by simp
  have hgoal:∀ w11,w11=w10.setCell (adr w9.heap.size) (.func (.func 138) #[] cap.toArray)->Blk w11 w9.heap.size 259 [.func (.func 138) #[] cap.toArray]->EF w9 w11->w11.heap.size=w10.heap.size->
    ∃ v12:Value,w11.cell? (adr w9.heap.size)=some v12/\∃ (g13:FuncId) (cap14:List Value),v12=.func (.func g13) #[] cap14.toArray/\∃ fn15,Tryz.prog.funcs[g13]? =some fn15/\(fn15.name== "runtime.NumGoroutine" ||fn15.body.isNone)=false/\CP g13 ([Value.pointer (some (adr fb))]++cap14).toArray w11 (fun e16 wv17=>e16=.returned (.tuple #[])/\True/\((.returned (.tuple #[]):Ending)=.returned (.tuple #[])/\Ext (XY ae cnt vb vm) w wv17/\StC c.frags ae cnt vb vm (l++[.frag f]) wv17)):=by
   intro w11 _ B11 x11 s11;have y9:=((x5.then x6).then x7).then x9;have y11:=y9.then x11;refine ⟨_,(B11.at (j:=0) rfl).cell,138,cap,rfl,_,Tryz.func138,by kernel_rfl,?_⟩;have BB:BL c ae cnt vb vm w5.heap.size w7.heap.size w6.heap.size w.heap.size w9.heap.size w11.heap.size:=by
    refine ⟨⟨d1,d2,d3,d4⟩,⟨hne.symm,d5,d6,d7,d8,d9⟩,⟨lw,lc,la,lv,lm⟩,⟨by omega,by omega,by omega,by omega,by omega⟩,fun x hx=>⟨fun e=>hVM x (.inl e) hx,fun e=>hVM x (.inr (.inl e)) hx,fun e=>hVM x (.inr (.inr (.inl e))) hx,Nat.lt_of_lt_of_le (hMlt x hx) hw.sz⟩⟩
   have S11:CS c ae cnt vb vm w5.heap.size w7.heap.size w6.heap.size w.heap.size w9.heap.size w11.heap.size V [] 0 none 0 m b w11:=
    ⟨hw.wk.trans (Wk.ofExt y11 fun _ _=>id),Nat.le_refl _,⟨_,hww.ext y11 id,rfl⟩,Bv.ext y11 id,⟨mm,hm.ext y11 id,hmm⟩,((B6.ext x7 id).ext x9 id).ext x11 id,⟨[],OwnR.nil⟩,B9.ext x11 id,⟨[],(M7.ext x9 id).ext x11 id,rfl,fun x hx=>by simp at hx⟩,(((B5.ext x6 id).ext x7 id).ext x9 id).ext x11 id,by rw [<- hcap];exact B11,hC.ext y11 id id⟩
   have hwV:wV c.frags V<=wV c.frags []:=by omega
   rw [hcap];refine (u_a BB okf hb.query hb.qb hsel (wV c.frags V) V fin [] 0 none 0 m b w11 f fb S11 G (t_H hnd hfm) hp (by simp) (fun q r e=>by cases e) (Nat.le_refl _) (by omega)).mono ?_;rintro _ w17 ⟨rfl,V',fin',A',C',m',b',S',G',hin,hsub,hbb,hm',hw',x17,-⟩;refine ⟨rfl,trivial,rfl,(y11.toM _).trans x17 fun y hy e=>?_,S'.vblk,V',fin',m',b',S'.vmap,G',S'.cnt,by omega,fun g hg=>?_⟩
   ·rcases e with e|e|e|e|e|⟨q,hq,-⟩
    ·exact .inl e
    ·exact .inr (.inl e)
    ·exact .inr (.inr (.inl e))
    ·omega
    ·omega
    ·cases hq
   ·rcases ma_.1 hg with hg|hg
    ·exact hsub _ (hl g hg)
    ·have:=List.mem_singleton.1 hg;cases this;exact hin
  have:=hgoal _ rfl B11 x11 s11;rw [hcap] at this;exact this
 | _=>cases hk
end
theorem t_1 (types:List Def)(dirs:List DirDef)(defs:List SchemaDef)(ops:List OpD)(frags:List Frag)(hO:OkSchema types dirs defs)(h12:ops.length<=12)(h12':frags.length<=12)(ok1:∀ x∈ops,okOp x)(ok2:∀ x∈frags,b_j x)(hs:e_O ops frags<=2097152)(hnd:(frags.map Frag.name).Nodup):
  RuleOK 80 (wideD types dirs (a_F types defs)) ops frags fun n=>0<=n/\(n>0↔∃ f∈frags,Rch frags f.kids f.name):=by
 refine ⟨⟨_,Tryz.func80,by kernel_rfl⟩,?_⟩;intro c cnt hops hfrags hwd hb hB hcnt hne hMc hMe;subst hops;subst hfrags;have hlc:=hcnt.lt;have hle:=hB.lt;have hsf:(c.frags.map fun f=>selL f.kids).sum<=2097152:=by
  have:=hs;unfold e_O at this;omega
 have hsel:∀ f∈c.frags,selL f.kids<=2097152/\(spL f.kids).length<=2097152:=fun f hf=>by
  have h1:=j_s (fun f:Frag=>selL f.kids) hf;have h2:=i_R f.kids;have h1:selL f.kids<=(c.frags.map fun f=>selL f.kids).sum:=h1;exact ⟨by omega,by omega⟩
 have hT0:=t_9 [] c.frags;have hT:wV c.frags []<=8388608:=by omega
 have x3:EF c.w0 (c.w0.alloc (.cells #[.func (.func 108) #[] #[.pointer (some (adr cnt))]] 161)):=(Ext.refl c.w0).alloc _;have Bae:=Blk.made c.w0 161 [.func (.func 108) #[] #[.pointer (some (adr cnt))]];refine t_y (some (adr c.eb)) _ c.w0 _ ⟨⟨rfl,trivial⟩,?_⟩;obtain ⟨ae,hae'⟩:∃ ae,ae=c.w0.heap.size:=⟨_,rfl⟩;rw [<- hae'] at Bae ⊢;show True/\_;have Bae':Blk (c.w0.alloc (.cells #[.func (.func 108) #[] #[.pointer (some (adr cnt))]] 161)) ae 161 [.func (.func 108) #[] #[.pointer (some (adr cnt))]]:=Bae;clear Bae;generalize c.w0.alloc (.cells #[.func (.func 108) #[] #[.pointer (some (adr cnt))]] 161)=w3 at *;have hla:=Bae'.lt;have x4:EF w3 (w3.alloc (.map #[] 0)):=(Ext.refl w3).alloc _;have M4:=SMap.made w3;obtain ⟨vm,hvm⟩:∃ vm,vm=w3.heap.size:=⟨_,rfl⟩;rw [<- hvm] at M4 ⊢;generalize w3.alloc (.map #[] 0)=w4 at *;have hlm:=M4.lt;have x5:EF w4 (w4.alloc (.cells #[.map none] 208)):=(Ext.refl w4).alloc _;have B5:=Blk.made w4 208 [.map none];obtain ⟨vb,hvb⟩:∃ vb,vb=w4.heap.size:=⟨_,rfl⟩;rw [<- hvb] at B5 ⊢;refine ⟨trivial,?_⟩;show (∃ _,_)/\_;generalize w4.alloc (.cells #[.map none] 208)=w5 at *;refine ⟨B5.off (j:=0) (n:=1) (q:=fun T=>false) (by simp) rfl,trivial,?_⟩;have x6:EF w4 (w5.setCell (adr vb) (.map (some vm))):=Ext.setCell x5 (a:=⟨vb,0,none⟩) (.inr (by show w4.heap.size<=vb;omega)) _;have B6:Blk (w5.setCell (adr vb) (.map (some vm))) vb 208 [.map (some vm)]:=B5.set 0 _;show Calls _ _ _ _ _;generalize w5.setCell (adr vb) (.map (some vm))=w6 at *;have hlv:=B6.lt;have y6:=(x3.then x4).then x6;refine (t_A (f:=.func (.func 137) #[] #[.pointer (some (adr vb)),.pointer (some (adr ae))]) rfl (hB.ext y6 id) rfl).mono ?_;rintro _ w8 ⟨rfl,p,C,B8,ap,hpb,x8⟩;have y8:Ext (fun b=>b=c.eb) c.w0 w8:=(y6.toM _).trans x8 fun _ _ e=>e;have hz3:=x3.size;have hz4:=x4.size;have hz6:=x6.size;have hz8:=x8.size;have hac:ae≠cnt:=by omega
 have Bae8:=((Bae'.ext x4 id).ext x6 id).ext x8 (by show ¬ ae=c.eb;omega);have Bc8:=hcnt.ext y8 hne;have Bv8:=B6.ext x8 (by show ¬ vb=c.eb;omega);have Mv8:=(M4.ext x6 id).ext x8 (by show ¬ vm=c.eb;omega);have hVM:∀ b,XY ae cnt vb vm b->¬ c.M b:=fun b hV hM=>by
  have:=hb.m b hM;rcases hV with rfl|rfl|rfl|rfl
  ·exact hMc hM
  ·omega
  ·omega
  ·omega
 refine ⟨rfl,trivial,rfl,y8,XY ae cnt vb vm,StC c.frags ae cnt vb vm,obL [(2,p,C)],?_,fun b hb'=>?_,fun b hb' T cs fr ho=>?_,fun l w'' hl ht=>?_⟩
 ·have hMlt:∀ b,c.M b->b<w8.heap.size:=fun b hb'=>Nat.lt_of_lt_of_le (hb.m b hb') y8.size;refine n_H hb hMe y8 (fun b hb'=>?_) hlc hne hMc hle (fun l w w'' h hx=>?_) ⟨Bv8,[],[],0,False,⟨[],Mv8,fun n=>⟨fun h=>by simp at h,fun _=>rfl⟩⟩,⟨fun n=>by simp,False.elim,fun _=>trivial,by simp,trivial,fun n h=>by simp at h⟩,Cnt.zero Bae8 Bc8 id,by omega,fun f h=>by simp at h⟩ B8 fun b5 wb fm fl j=>o_M (fun x hx=>?_) j
  ·rcases hb' with rfl|rfl|rfl|rfl
   ·exact .inl rfl
   ·exact .inr (by omega)
   ·exact .inr (by omega)
   ·exact .inr (by omega)
  ·obtain ⟨h1,V,fin,m,b,⟨mm,h2,h3⟩,h4,h5,h6⟩:=h;exact ⟨h1.ext hx fun e=>e (.inr (.inr (.inr rfl))),V,fin,m,b,⟨mm,h2.ext hx fun e=>e (.inr (.inr (.inl rfl))),h3⟩,h4,h5.ext hx (fun e=>e (.inr (.inl rfl))) (fun e=>e (.inl rfl)),h6⟩
  simp only [mc_,nn_,or_false] at hx;subst hx;refine ⟨_,_,[.pointer (some (adr vb)),.pointer (some (adr ae))],_,ap,fun h=>?_,fun h=>?_,Tryz.func137,by kernel_rfl,fun l w1 co vm' evs node ev hl hw hk hn=>t_3 (b5.at3 wb fm fl) hVM hMlt hac ok2 hnd hsel hT hl hw hk hn⟩
  ·have:p.block<c.w0.heap.size:=hb.m _ h;omega
  ·have:p.block=cnt∨p.block=ae∨p.block=vm∨p.block=vb:=h;omega
 ·rcases hb' with rfl|rfl|rfl|rfl
  ·exact .inr (Nat.le_refl _)
  ·exact .inr (by omega)
  ·exact .inr (by omega)
  ·exact .inr (by omega)
 ·rcases hb' with rfl|rfl|rfl|rfl
  ·rw [Bc8.type ho];decide
  ·rw [Bae8.type ho];decide
  ·obtain ⟨ents,cl,h1,-⟩:=Mv8;rw [h1] at ho;cases ho
  ·rw [Bv8.type ho];decide
 ·obtain ⟨-, V,fin,m,b,-, G,⟨-, n,hn,hk⟩,hm,hfin⟩:=hl;obtain ⟨k1,k2,k3⟩:=hk (by omega);refine ⟨n,hn,k1,k3.trans ⟨fun h=>?_,fun ⟨f,hf,hr⟩=>Classical.byContradiction fun hno=>?_⟩⟩
  ·obtain ⟨q,f,hf,hr⟩:=G.cyc h;obtain ⟨hfm,rfl⟩:=a_U hf;exact ⟨f,hfm,hr⟩
  ·have hall:Ev.frag f∈l:=by
    obtain ⟨e,he,hbad⟩:=(ht.bad (bad:=fun e=>e=.frag f) fun e he=>by rw [he];rfl).2 ⟨.frag f,.inr ⟨f,hf,t_2.2 rfl⟩,rfl⟩;rw [<- hbad];exact he
   have hnf:fin.Nodup:=(List.nodup_append.1 G.nd).1;exact t_T (G.topo hno) hnf f.name (hfin f hall) f (t_H hnd hf) hr
theorem t_B {P:Int->Prop}{wd:WorldD}{a1:OA}{l1 c1:Nat}{a2:OA}{l2 c2:Nat}{a6:OA}{l6 c6:Nat}{a7:OA}{l7 c7:Nat}{q8:OA}{q8l q8c:Nat}{q9:OA}{q9l q9c:Nat}{w:World}
  (hw:c_6 w wd [.slice a1 l1 c1,.slice a2 l2 c2,.string wd.query,.string wd.mutation,.string wd.subscription,.slice a6 l6 c6,.slice a7 l7 c7]) (ok3:∀ x∈wd.dirs,∀ y∈x.args,a_s y) (ok4:∀ x∈wd.types,okDef x)
  (few6:(pushD wd.types wd.possible).length<=4194304) (few7:(pushD wd.types wd.implements).length<=4194304) (hl1:ROps w q8 q8l q8c ops) (hl2:a_X w q9 q9l q9c frags) (ok1:∀ x∈ops,okOp x) (ok2:∀ x∈frags,b_j x) (hr:RuleOK 80 wd ops frags P) (hB0:DB.B<=w.heap.size):
  CP 33 #[.agg #[.slice a1 l1 c1,.slice a2 l2 c2,.string wd.query,.string wd.mutation,.string wd.subscription,.slice a6 l6 c6,.slice a7 l7 c7],.agg #[.slice q8 q8l q8c,.slice q9 q9l q9c]] w fun e w'=>
   ∃ n,e=.returned (.tuple #[.int .i64 n,.bool true])/\P n/\EF w w':=by
 have x11:EF w (w.alloc (.cells #[.slice a1 l1 c1,.slice a2 l2 c2,.string wd.query,.string wd.mutation,.string wd.subscription,.slice a6 l6 c6,.slice a7 l7 c7] 40)):=(Ext.refl w).alloc _;have x12:=x11.alloc (.cells #[.slice q8 q8l q8c,.slice q9 q9l q9c] 30);refine t_D a1 l1 c1 a2 l2 c2 wd.query wd.mutation wd.subscription a6 l6 c6 a7 l7 c7 q8 q8l q8c q9 q9l q9c w _ ⟨trivial,trivial,?_⟩;refine (j_d (c_6.keep x12.keep hw) ok3 ok4 few6 few7 (hl1.keep x12.keep) (hl2.keep x12.keep) ok1 ok2 hr (lt_ hB0 x12.size)).mono ?_;rintro _ w' ⟨n,rfl,hp,hx⟩;exact ⟨n,true,rfl,⟨hx.keepT _,hx.keepT _,trivial⟩,n,rfl,hp,x12.then hx⟩
theorem t_G {S:List Def->List RootD->List OpD->List Frag->Prop}(rule:∀ types dirs defs ops frags,OkSchema types dirs defs->ops.length<=12->frags.length<=12->(∀ x∈ops,okOp x)->(∀ x∈frags,b_j x)->e_O ops frags<=2097152->(frags.map Frag.name).Nodup->RuleOK 80 (wideD types dirs (a_F types defs)) ops frags fun n=>0<=n/\(n>0↔S types (a_F types defs) ops frags))
  (spec:∀ {types:List Def} {defs:List SchemaDef} {a:OA} {l c:Nat} {a':OA} {l' c':Nat} {ops:List OpD} {frags:List Frag} {w:World},ROps w a l c ops->a_X w a' l' c' frags->(∀ x∈ops,okOp x)->(∀ x∈frags,b_j x)->e_O ops frags<=2097152->frags.length<=12->
   CP 34 #[.agg #[.slice a l c,.slice a' l' c']] w (RetB w fun b=>b=true↔S types (a_F types defs) ops frags))
  {d1:OA} {d1l d1c:Nat} {d2:OA} {d2l d2c:Nat} {d3:OA} {d3l d3c:Nat} {d4:OA} {d4l d4c:Nat} {d5:OA} {d5l d5c:Nat} {q6:OA} {q6l q6c:Nat} {q7:OA} {q7l q7c:Nat} {defs exts:List SchemaDef} {dirs:List DirDef} {types texts:List Def}   {w:World}
  (h1:a_p w d1 d1l d1c defs) (h2:a_p w d2 d2l d2c exts) (h3:a_Y w d3 d3l d3c dirs) (h4:RDefs w d4 d4l d4c types) (h5:RDefs w d5 d5l d5c texts) (hs:d1l+d2l<=4194304) (hsp:e_O ops frags<=2097152) (h6:ROps w q6 q6l q6c ops) (h7:a_X w q7 q7l q7c frags) (hB0:DB.B<=w.heap.size):
  CP 8 #[.agg #[.slice d1 d1l d1c,.slice d2 d2l d2c,.slice d3 d3l d3c,.slice d4 d4l d4c,.slice d5 d5l d5c],.agg #[.slice q6 q6l q6c,.slice q7 q7l q7c]] w fun e w'=>e=.returned (.bool true)/\EF w w':=by
 have x8:EF w (w.alloc (.cells #[.slice d1 d1l d1c,.slice d2 d2l d2c,.slice d3 d3l d3c,.slice d4 d4l d4c,.slice d5 d5l d5c] 26)):=(Ext.refl w).alloc _;have x9:=x8.alloc (.cells #[.slice q6 q6l q6c,.slice q7 q7l q7c] 30);refine t_F d1 d1l d1c d2 d2l d2c d3 d3l d3c d4 d4l d4c d5 d5l d5c q6 q6l q6c q7 q7l q7c w _ ⟨trivial,trivial,fun K10 hK10=>?_⟩;have key10:∀ b w',EF w w'->K10 b w':=by
  intro b w' xw;refine hK10 b w' ⟨fun _=>⟨rfl,xw⟩,fun _=>?_⟩;refine (n_5 (h1.keep xw.keep) (h2.keep xw.keep) (h3.keep xw.keep) (h4.keep xw.keep) (h5.keep xw.keep) hs (lt_ hB0 xw.size)).mono ?_;rintro _ w14 ⟨q15,b16,rfl,x14,hok⟩;refine ⟨q15,b16,rfl,⟨x14.keepT _,x14.keepT _,trivial⟩,fun K17 hK17=>?_⟩;have y14:=xw.then x14;have key17:∀ b w',EF w14 w'->(b=false->b16=true/\ops.length<=12/\frags.length<=12/\(∀ x∈ops,okOp x)/\(∀ x∈frags,b_j x)/\(frags.map Frag.name).Nodup)->K17 b w':=by
   intro b w19 x19 hb;have y19:=y14.then x19;refine hK17 b w19 ⟨fun _=>⟨rfl,y19⟩,fun hbf=>?_⟩;obtain ⟨hb16,n1,n2,ok1,ok2,hnd⟩:=hb hbf;obtain ⟨k,rfl,A,L,C,hB,hR,hO⟩:=hok hb16;intro w20 e20;have x20:EF w19 w20:=by rw [e20];exact (Ext.refl w19).drew
   have y20:=y19.then x20;have z20:=x19.then x20;refine (i_8 (hB.ext z20 id) (h4.keep y20.keep) (hR.keep z20.keep) (h3.keep y20.keep) hO.few.1 (fun t ht=>by have:=hO.small t ht;omega) hO.few.2 (lt_ hB0 y20.size)).mono ?_;rintro _ w22 ⟨cs,rfl,hW,x22⟩;obtain ⟨ok3,ok4,few6,few7⟩:=k_I hO;have hW':=hW;obtain ⟨a1,l1,c1,a2,l2,c2,a6,l6,c6,a7,l7,c7,rfl,-⟩:=hW';have y22:=y20.then x22;refine ⟨a1,l1,c1,a2,l2,c2,_,_,_,a6,l6,c6,a7,l7,c7,rfl,⟨x22.keepT _,x22.keepT _,trivial⟩,⟨rfl,trivial⟩,?_⟩;refine (t_B hW ok3 ok4 few6 few7 (h6.keep y22.keep) (h7.keep y22.keep) ok1 ok2 (rule types dirs defs ops frags hO n1 n2 ok1 ok2 hsp hnd) (lt_ hB0 y22.size)).mono ?_;rintro _ w31 ⟨n,rfl,⟨hn0,hn⟩,x31⟩;have y31:=y22.then x31;refine ⟨n,true,rfl,⟨x31.keepT _,x31.keepT _,trivial⟩,trivial,trivial,trivial,?_⟩;refine (spec (types:=types) (defs:=defs) (h6.keep y31.keep) (h7.keep y31.keep) ok1 ok2 hsp n2).mono ?_;rintro _ w35 ⟨b36,rfl,x35,hb36⟩;have y35:=y31.then x35;refine ⟨b36,rfl,⟨x35.keepT _,x35.keepT _,trivial⟩,?_⟩;refine (j_9 n true b36 w35).mono ?_;rintro _ w38 ⟨rfl,rfl⟩;refine ⟨_,rfl,⟨(Ext.refl _).keepT _,(Ext.refl _).keepT _,trivial⟩,?_,y35⟩;rw [n_f hn0 (hn.trans hb36.symm)]
  refine ⟨fun hb=>?_,fun hb=>key17 true w14 (Ext.refl w14) nofun⟩;refine (n_7 (h6.keep y14.keep) (h7.keep y14.keep)).mono ?_;rintro _ w41 ⟨b42,rfl,x41,hsm⟩;refine ⟨b42,rfl,⟨x41.keepT _,x41.keepT _,trivial⟩,fun h42=>?_,fun _=>key17 true w41 x41 nofun⟩;obtain ⟨n1,n2,ok1,ok2⟩:=hsm (by simpa using h42);have y41:=y14.then x41;refine (i_6 (h6.keep y41.keep) (h7.keep y41.keep)).mono ?_;rintro _ w44 ⟨b45,rfl,x44,hft⟩;refine ⟨b45,rfl,⟨x44.keepT _,x44.keepT _,trivial⟩,key17 b45 w44 (x41.then x44) fun h=>⟨by simpa using hb,n1,n2,ok1,ok2,Classical.byContradiction fun hno=>?_⟩⟩;rw [o_Z fun n hn=>by
   obtain ⟨f,hf,rfl⟩:=mm_.1 hn;exact (ok2 f hf).2.2] at hft
  rw [hft.2 hno] at h;cases h
 refine (f_4 d1 d1l d1c d2 d2l d2c d3 d3l d3c d4 d4l d4c d5 d5l d5c _).mono ?_;rintro _ w44 ⟨b45,rfl,x44,-⟩;have y44:=x9.then x44;refine ⟨b45,rfl,⟨x44.keepT _,x44.keepT _,trivial⟩,fun _=>?_,fun _=>key10 true w44 y44⟩;refine (f_5 q6 q6l q6c q7 q7l q7c _).mono ?_;rintro _ w47 ⟨b48,rfl,x47,-⟩;exact ⟨b48,rfl,⟨x47.keepT _,x47.keepT _,trivial⟩,key10 _ w47 (y44.then x47)⟩
theorem t_I {d1:OA}{d1l d1c:Nat}{d2:OA}{d2l d2c:Nat}{d3:OA}{d3l d3c:Nat}{d4:OA}{d4l d4c:Nat}{d5:OA}{d5l d5c:Nat}{q6:OA}{q6l q6c:Nat}{q7:OA}{q7l q7c:Nat}{defs exts:List SchemaDef}{dirs:List DirDef}{types texts:List Def}{w:World}
  (h1:a_p w d1 d1l d1c defs) (h2:a_p w d2 d2l d2c exts) (h3:a_Y w d3 d3l d3c dirs) (h4:RDefs w d4 d4l d4c types) (h5:RDefs w d5 d5l d5c texts) (hs:d1l+d2l<=4194304) (hsp:e_O ops frags<=2097152) (h6:ROps w q6 q6l q6c ops) (h7:a_X w q7 q7l q7c frags) (hB0:DB.B<=w.heap.size):
  CP 8 #[.agg #[.slice d1 d1l d1c,.slice d2 d2l d2c,.slice d3 d3l d3c,.slice d4 d4l d4c,.slice d5 d5l d5c],.agg #[.slice q6 q6l q6c,.slice q7 q7l q7c]] w fun e w'=>e=.returned (.bool true)/\EF w w':=
 t_G (S:=fun _ _ _ frags=>∃ f∈frags,Rch frags f.kids f.name) (fun types dirs defs ops frags hO h h2 ok1 ok2 hs hnd=>t_1 types dirs defs ops frags hO h h2 ok1 ok2 hs hnd) (fun h h2 ok1 ok2 hs n2=>j_2 h2 ok2 n2 (t_6 hs)) h1 h2 h3 h4 h5 hs hsp h6 h7 hB0
end Go.VC
