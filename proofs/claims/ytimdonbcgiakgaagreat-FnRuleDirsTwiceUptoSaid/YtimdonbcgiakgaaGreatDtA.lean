/- Part of the proof of a law of a rule over documents (DtA), where what the arguments hold is of bulk at most 1048576. -/
import Derived.Test.YtimdonbcgiakgaaGreatBaseB
import Derived.Test.YtimdonbcgiakgaaGreatWalkD
import Derived.Test.YtimdonbcgiakgaaGreatSpecD
import Derived.ArgAppend
import Derived.Test.YtimdonbcgiakgaaGreatLawA
import Derived.Test.YtimdonbcgiakgaaGreatWalkC
import Derived.Test.YtimdonbcgiakgaaGreatSpecE
set_option linter.unusedVariables false
set_option linter.unusedSimpArgs false
set_option linter.unusedSectionVars false
namespace Go.VC
open Go Go.Proofs
set_option maxRecDepth 100000
theorem q_rules_UniqueDirectivesPerLocationRule (a:OA)(b:Value)(w:World)(R:EW)(h:
 (b.oneCell'=true/\True)/\(let c:=w.alloc (.cells #[b] 152);
 C0 125 #[.pointer a,(.func (.func 126) #[] #[(.pointer (some (adr w.heap.size)))])] c (fun d=>True/\R (.returned (.tuple #[])) d))):CP 75 #[.pointer a,b] w R:=
 vcq Tryz.func75 [] [] [.l (.optr a),.l (.val b)] h
theorem q_rules_UniqueDirectivesPerLocationRule_1 (a:OA)(b:OA)(c d:Nat)(e:Addr)(w:World)(R:EW)(h:
 let f:=w.alloc (.map #[] 0);
 ∃ (g:Int->World->Prop) (i:Int->World->Nat),g 0 f/\
 (∀ j:Int,∀ k:World,g j k->
 (Br (decide (j<(c:Int))) (Ix b j c fun l=>Lp k (l.add (j.toNat*1)) fun m=>∀ n:World->Prop,(∀ o:World,
 (Pt m fun p=>Ls o p fun q=>∃ r,(Instr.mapUpdate 153 (.map (some w.heap.size)) (.string q) (.bool true)).run Tryz.prog o=.ok () r/\True/\(g (IntKind.i64.wrap (j+1)) r/\i (IntKind.i64.wrap (j+1)) r<i j k))->
 n o)->
 ∀ s:Bool->World->Prop,(∀ t:Bool,∀ u:World,
 ((Br t (∀ v,v=u.drew->Lv v e fun x=>Pt m fun y=>Ls v y fun z=>Pt m fun A=>Lp v (A.add 2) fun B=>True/\(let C:=v.alloc (.cells #[(ifcV (some (9,(.string z))))] 20);
 ((C.cell? (A.add 2)=v.cell? (A.add 2))/\(C.cell? e=v.cell? e)/\True)/\CP 108 #[(.string (⟨#[84,104,101,32,100,105,114,101,99,116,105,118,101,32,34,64,37,115,34,32,99,97,110,32,111,110,108,121,32,98,101,32,117,115,101,100,32,111,110,99,101,32,97,116,32,116,104,105,115,32,108,111,99,97,116,105,111,110,46]⟩:BA)),(.slice (some (adr v.heap.size)) 1 1)] C (fun D E=>∃ F:Value,D=.returned F/\True/\((E.cell? (A.add 2)=C.cell? (A.add 2))/\(E.cell? e=C.cell? e)/\True)/\CP 109 #[.pointer B] E (fun G H=>∃ I:Value,G=.returned I/\True/\((H.cell? e=E.cell? e)/\True)/\(F.oneCell'=true/\I.oneCell'=true/\True)/\(let J:=H.alloc (.cells #[F,I] 174);
 ((J.cell? e=H.cell? e)/\True)/\∃ K L,x=.func (.func K) #[] L.toArray/\∃ M,Tryz.prog.funcs[K]? =some M/\(M.name== "runtime.NumGoroutine" ||M.body.isNone)=false/\CP K ([(.slice (some (adr H.heap.size)) 2 2)]++L).toArray J (fun N O=>N=.returned (.tuple #[])/\True/\True/\n O)))))) (n u)))->
 s t u)->
 Pt m fun P=>Lp k (P.add 4) fun Q=>(Nr (Q.isNone) (Pt m fun S=>Lp k (S.add 4) fun U=>Pt U fun V=>Lb k (V.add 5) fun W=>(Br (!W) (Pt m fun X=>Ls k X fun Y=>∃ Z,(Instr.lookup 153 (.map (some w.heap.size)) (.string Y) false).run Tryz.prog k=.ok (.bool Z) k/\s Z k) (s false k))) (Pt m fun aa=>Ls k aa fun ab=>∃ ac,(Instr.lookup 153 (.map (some w.heap.size)) (.string ab) false).run Tryz.prog k=.ok (.bool ac) k/\s ac k))) (R (.returned (.tuple #[])) k)))):CP 126 #[.pointer a,.slice b c d,(.pointer (some e))] w R:=
 vcq Tryz.func126 [] [(5,⟨[(11,.int .i64)],[]⟩),(16,⟨[],[]⟩),(17,⟨[(37,.bool)],[]⟩)] [.l (.optr a),.l (.slice b c d),.l (.ptr e)] h
theorem q_impl_RUniqueDirectivesPerLocation (a:OA)(b c:Nat)(d:OA)(e f:Nat)(g:BA)(i:BA)(j:BA)(k:OA)(l m:Nat)(n:OA)(o p:Nat)(q:OA)(r s:Nat)(t:OA)(u v:Nat)(w:World)(R:EW)(h:
 True/\(let x:=w.alloc (.cells #[.slice a b c,.slice d e f,.string g,.string i,.string j,.slice k l m,.slice n o p] 40);
 True/\(let y:=x.alloc (.cells #[.slice q r s,.slice t u v] 30);
 CP 49 #[(.agg #[.slice a b c,.slice d e f,.string g,.string i,.string j,.slice k l m,.slice n o p]),(.agg #[.slice q r s,.slice t u v]),(.func (.func 75) #[] #[])] y (fun z A=>∃ B,∃ C,z=.returned (.tuple #[.int .i64 B,.bool C])/\(KeepT 40 y A/\KeepT 30 y A/\True)/\R (.returned (.tuple #[.int .i64 B,.bool C])) A)))):CP 29 #[(.agg #[.slice a b c,.slice d e f,.string g,.string i,.string j,.slice k l m,.slice n o p]),(.agg #[.slice q r s,.slice t u v])] w R:=
 vcq Tryz.func29 [2,3] [] [.agg [.slice a b c,.slice d e f,.str g,.str i,.str j,.slice k l m,.slice n o p],.agg [.slice q r s,.slice t u v]] h
theorem q_laws_FnRuleDirsTwice (a:OA)(b c:Nat)(d:OA)(e f:Nat)(g:OA)(i j:Nat)(k:OA)(l m:Nat)(n:OA)(o p:Nat)(q:OA)(r s:Nat)(t:OA)(u v:Nat)(w:World)(R:EW)(h:
 True/\(let x:=w.alloc (.cells #[.slice a b c,.slice d e f,.slice g i j,.slice k l m,.slice n o p] 26);
 True/\(let y:=x.alloc (.cells #[.slice q r s,.slice t u v] 30);
 ∀ z:Bool->World->Prop,(∀ A:Bool,∀ B:World,
 ((Br A (R (.returned (.bool true)) B) (CP 13 #[(.agg #[.slice a b c,.slice d e f,.slice g i j,.slice k l m,.slice n o p])] B (fun C D=>∃ E,∃ F,C=.returned (.tuple #[.pointer E,.bool F])/\(KeepT 26 B D/\KeepT 30 B D/\True)/\∀ G:Bool->World->Prop,(∀ H:Bool,∀ I:World,
 ((Br H (R (.returned (.bool true)) I) (∀ J,J=I.drew->CP 17 #[.pointer E] J (fun K L=>∃ M N O,∃ P Q S,∃ U,∃ V,∃ W,∃ X Y Z,∃ aa ab ac,K=.returned (.agg #[.slice M N O,.slice P Q S,.string U,.string V,.string W,.slice X Y Z,.slice aa ab ac])/\(KeepT 26 J L/\KeepT 30 J L/\True)/\((0=0)/\True)/\CP 29 #[(.agg #[.slice M N O,.slice P Q S,.string U,.string V,.string W,.slice X Y Z,.slice aa ab ac]),(.agg #[.slice q r s,.slice t u v])] L (fun ad ae=>∃ af,∃ ag,ad=.returned (.tuple #[.int .i64 af,.bool ag])/\(KeepT 26 L ae/\KeepT 30 L ae/\True)/\True/\True/\True/\Cb 30 #[.pointer E,(.agg #[.slice q r s,.slice t u v])] ae (fun ah ai=>(KeepT 26 ae ai/\KeepT 30 ae ai/\True)/\Cb 18 #[.int .i64 af,.bool ag,.bool ah] ai (fun aj ak=>(KeepT 26 ai ak/\KeepT 30 ai ak/\True)/\R (.returned (.bool aj)) ak)))))))->
 G H I)->
 (Nr (!F) (Cb 14 #[(.agg #[.slice q r s,.slice t u v])] D (fun al am=>(KeepT 26 D am/\KeepT 30 D am/\True)/\(Nr (!al) (Cb 15 #[.pointer E,(.agg #[.slice q r s,.slice t u v])] am (fun an ao=>(KeepT 26 am ao/\KeepT 30 am ao/\True)/\(Nr (!an) (Cb 28 #[.pointer E,(.agg #[.slice q r s,.slice t u v])] ao (fun ap aq=>(KeepT 26 ao aq/\KeepT 30 ao aq/\True)/\G ap aq)) (G true ao)))) (G true am)))) (G true D))))))->
 z A B)->
 Cb 11 #[(.agg #[.slice a b c,.slice d e f,.slice g i j,.slice k l m,.slice n o p])] y (fun ar au=>(KeepT 26 y au/\KeepT 30 y au/\True)/\(Nr (!ar) (Cb 12 #[(.agg #[.slice q r s,.slice t u v])] au (fun av ax=>(KeepT 26 au ax/\KeepT 30 au ax/\True)/\z (!av) ax)) (z true au)))))):CP 8 #[(.agg #[.slice a b c,.slice d e f,.slice g i j,.slice k l m,.slice n o p]),(.agg #[.slice q r s,.slice t u v])] w R:=
 vcq Tryz.func8 [2,3] [(3,⟨[(16,.bool)],[]⟩),(13,⟨[(39,.bool)],[]⟩)] [.agg [.slice a b c,.slice d e f,.slice g i j,.slice k l m,.slice n o p],.agg [.slice q r s,.slice t u v]] h
set_option maxRecDepth 100000
theorem q_core_Events_OnDirectiveList (a:OA)(b:Value)(w:World)(R:EW)(h:
 Pt a fun c=>Ll w (c.add 6) fun d e f=>(b.oneCell'=true/\True)/\(let g:=w.alloc (.cells #[b] 221);
 ∃ i j k,∃ l,(Go.builtin .append #[144,144] 144 #[false,false] #[.slice d e f,(.slice (some (adr w.heap.size)) 1 1)]).run Tryz.prog g=.ok (.value (.slice i j k)) l/\True/\Pt a fun m=>Off l (m.add 6) 1 []/\True/\(let n:=(l.setCell (m.add 6) (.slice i j k));
 R (.returned (.tuple #[])) n))):CP 125 #[.pointer a,b] w R:=
 vcq Tryz.func125 [] [] [.l (.optr a),.l (.val b)] h
variable [DB]
theorem c_core_Events_OnDirectiveList {eb:Nat}{f:Value}{evs:List Value}{w:World}(hf:smallV f)(hB:Blk w eb 148 evs)(hj:evs[6]? =some (.slice none 0 0)):
  CP 125 #[.pointer (some (adr eb)),f] w fun e w'=>e=.returned (.tuple #[])/\∃ (p:Addr) (C:Nat),Blk w' eb 148 (evs.set 6 (.slice (some p) 1 C))/\At w' 221 p f/\w.heap.size<=p.block/\Ext (fun b=>b=eb) w w':=by
 obtain ⟨p,C,w7,r7,ha,hp,hx,-⟩:=on_append 144 221 Tryz.t221 _ _ (by kernel_rfl) (by kernel_rfl) rfl (by kernel_rfl) rfl (by kernel_rfl) (by decide) (w:=w) hf 144 #[false,false]
 have hB7:=hB.ext hx id
 have hlt:=hB.lt
 have hl:6+1<=evs.length:=(List.getElem?_eq_some_iff.1 hj).1
 have hs:Ext (fun b=>b=eb) w7 (w7.setCell ⟨eb,6,none⟩ (.slice (some p) 1 C)):=Ext.setCell (X:=fun b=>b=eb) (Ext.refl _) (a:=⟨eb,6,none⟩) (.inl rfl) _
 refine q_core_Events_OnDirectiveList (some (adr eb)) f w _ ⟨adr eb,rfl,none,0,0,(hB.at (j:=6) hj).cell,⟨hf.one,trivial⟩,some p,1,C,w7,r7,trivial,adr eb,rfl,hB7.off (j:=6) (n:=1) (q:=fun _=>false) hl rfl,trivial,rfl,p,C,hB7.set 6 _,hs.at (by show ¬ p.block=eb;omega) ha,hp,(hx.toM _).trans hs fun _ _ e=>e⟩
abbrev StK (bad:Ev->Prop)(ae cnt:Nat)(l:List Ev)(w:World):Prop:=Cnt ae cnt (l.length*4194304) (∃ e∈l,bad e) w
abbrev InK (bad:Ev->Prop)(ae cnt:Nat)(l:List Ev)(k:Nat)(b:Prop)(w:World):Prop:=Cnt ae cnt (l.length*4194304+k) ((∃ e∈l,bad e)∨b) w
theorem InK.start {bad:Ev->Prop}{ae cnt:Nat}{l:List Ev}{w:World}{b:Prop}(h:StK bad ae cnt l w)(hb:¬ b):InK bad ae cnt l 0 b w:=Cnt.skip h (by omega) ⟨.inl,fun k=>k.elim id fun k=>absurd k hb⟩
theorem InK.good {bad:Ev->Prop}{ae cnt:Nat}{l:List Ev}{w:World}{k k':Nat}{b b':Prop}(h:InK bad ae cnt l k b w)(hk:k<=k')(hb:b↔b'):InK bad ae cnt l k' b' w:=Cnt.skip h (by omega) ⟨fun k=>k.imp id hb.1,fun k=>k.imp id hb.2⟩
theorem InK.told {bad:Ev->Prop}{ae cnt:Nat}{l:List Ev}{w:World}{k k':Nat}{b':Prop}(h:Cnt ae cnt (l.length*4194304+k+1) True w)(hk:k+1<=k')(hb:b'):InK bad ae cnt l k' b' w:=Cnt.skip h (by omega) ⟨fun _=>.inr hb,fun _=>trivial⟩
theorem InK.stop {bad:Ev->Prop}{ae cnt:Nat}{l:List Ev}{w:World}{k:Nat}{b:Prop}{ev:Ev}(h:InK bad ae cnt l k b w)(hk:k<=4194304)(hb:b↔bad ev):StK bad ae cnt (l++[ev]) w:=
 Cnt.skip h (by rw [List.length_append,List.length_cons,List.length_nil];omega) (Iff.trans ⟨fun k=>k.imp id hb.1,fun k=>k.imp id hb.2⟩ ex_snoc.symm)
end Go.VC
namespace Go.VC
open Go Go.Proofs
set_option maxRecDepth 100000
theorem q_World_dir (a:OA)(b:BA)(w:World)(R:EW)(h:
 True/\(let c:=w.alloc (.cells #[(.string (⟨#[]⟩:BA)),(.string (⟨#[]⟩:BA)),.slice none 0 0,.slice none 0 0,.bool false] 112);
 ∀ d,d=c.drew->Pt a fun e=>Ll d (e.add 2) fun f g i=>CP 51 #[] d (fun j k=>∃ l m n,∃ o p q,∃ r s t,∃ u v x,∃ y z A,j=.returned (.agg #[.slice l m n,.slice o p q,.slice r s t,.slice u v x,.slice y z A])/\(KeepT 112 d k/\True)/\((k.cell? (e.add 2)=d.cell? (e.add 2))/\True)/\∃ B C D,∃ E,(Go.builtin .append #[23,23] 23 #[false,false] #[.slice r s t,.slice f g i]).run Tryz.prog k=.ok (.value (.slice B C D)) E/\(KeepT 112 k E/\True)/\True/\∃ (F:Int->BA->BA->OA->Nat->Nat->OA->Nat->Nat->Bool->World->Prop) (G:Int->BA->BA->OA->Nat->Nat->OA->Nat->Nat->Bool->World->Nat),F 0 (⟨#[]⟩:BA) (⟨#[]⟩:BA) none 0 0 none 0 0 false E/\
 (∀ H:Int,∀ I:BA,∀ J:BA,∀ (K:OA) (L M:Nat),∀ (N:OA) (O P:Nat),∀ Q:Bool,∀ S:World,F H I J K L M N O P Q S->
 (Br (decide (H<(C:Int))) (Ix B H C fun U=>L_ssllb S (U.add (H.toNat*5)) fun V W X Y Z aa ab ac ad=>True/\(let ae:=S.alloc (.cells #[(.string (⟨#[]⟩:BA)),(.string (⟨#[]⟩:BA)),.slice none 0 0,.slice none 0 0,.bool false] 112);
 True/\(let af:=S.alloc (.cells #[.string V,.string W,.slice X Y Z,.slice aa ab ac,.bool ad] 112);
 (Br (W.toList==b.toList) (True/\(let ag:=setB af (w.heap.size) [.string V,.string W,.slice X Y Z,.slice aa ab ac,.bool ad] 112;
 R (.returned (.tuple #[(.agg #[.string V,.string W,.slice X Y Z,.slice aa ab ac,.bool ad]),.bool true])) ag)) ((F (IntKind.i64.wrap (H+1)) I J K L M N O P Q af/\G (IntKind.i64.wrap (H+1)) I J K L M N O P Q af<G H I J K L M N O P Q S)))))) (True/\True/\(let ah:=setB S (w.heap.size) [(.string (⟨#[]⟩:BA)),(.string (⟨#[]⟩:BA)),.slice none 0 0,.slice none 0 0,.bool false] 112;
 R (.returned (.tuple #[(.agg #[(.string (⟨#[]⟩:BA)),(.string (⟨#[]⟩:BA)),.slice none 0 0,.slice none 0 0,.bool false]),.bool false])) ah))))))):CP 74 #[.pointer a,.string b] w R:=
 vcq Tryz.func74 [4,7] [(6,⟨[(16,.int .i64)],[(0,[.str,.str,.slice,.slice,.bool])]⟩)] [.l (.optr a),.l (.str b)] h
theorem q_World_NoDir (a:OA)(b:OA)(c d:Nat)(e:OA)(f g:Nat)(w:World)(R:EW)(h:
 True/\(let i:=w.alloc (.cells #[.slice b c d,.slice e f g] 30);
 Cl 73 #[(.agg #[.slice b c d,.slice e f g])] i (fun j k l m=>(KeepT 30 i m/\True)/\∃ (n:Int->World->Prop) (o:Int->World->Nat),n 0 m/\
 (∀ p:Int,∀ q:World,n p q->
 (Br (decide (p<(k:Int))) (Ix j p k fun r=>Ll q (r.add (p.toNat*2)) fun s t u=>Ls q ((r.add (p.toNat*2)).add 1) fun v=>True/\(let x:=q.alloc (.cells #[.slice none 0 0,(.string (⟨#[]⟩:BA))] 108);
 True/\(let y:=q.alloc (.cells #[.slice s t u,.string v] 108);
 ∃ (z:Int->World->Prop) (A:Int->World->Nat),z 0 y/\
 (∀ B:Int,∀ C:World,z B C->
 (Br (decide (B<(t:Int))) (Ix s B t fun D=>L_sl C (D.add (B.toNat*2)) fun E F G H=>True/\(let I:=C.alloc (.cells #[(.string (⟨#[]⟩:BA)),.slice none 0 0] 110);
 True/\(let J:=C.alloc (.cells #[.string E,.slice F G H] 110);
 CP 74 #[.pointer a,.string E] J (fun K L=>∃ M,∃ N,∃ O P Q,∃ S U V,∃ W,∃ X,K=.returned (.tuple #[(.agg #[.string M,.string N,.slice O P Q,.slice S U V,.bool W]),.bool X])/\(KeepT 30 J L/\KeepT 108 J L/\KeepT 110 J L/\True)/\True/\(let Y:=L.alloc (.cells #[(.string (⟨#[]⟩:BA)),(.string (⟨#[]⟩:BA)),.slice none 0 0,.slice none 0 0,.bool false] 112);
 True/\(let Z:=L.alloc (.cells #[.string M,.string N,.slice O P Q,.slice S U V,.bool W] 112);
 (Br (!X) (R (.returned (.bool true)) Z) ((z (IntKind.i64.wrap (B+1)) Z/\A (IntKind.i64.wrap (B+1)) Z<A B C))))))))) ((n (IntKind.i64.wrap (p+1)) C/\o (IntKind.i64.wrap (p+1)) C<o p q))))))) (R (.returned (.bool false)) q)))))):CP 28 #[.pointer a,(.agg #[.slice b c d,.slice e f g])] w R:=
 vcq Tryz.func28 [3,6,8,9] [(6,⟨[(14,.int .i64)],[]⟩),(20,⟨[(21,.int .i64)],[]⟩)] [.l (.optr a),.agg [.slice b c d,.slice e f g]] h
theorem q_World_DirsTwice (a:OA)(b:OA)(c d:Nat)(e:OA)(f g:Nat)(w:World)(R:EW)(h:
 True/\(let i:=w.alloc (.cells #[.slice b c d,.slice e f g] 30);
 Cl 73 #[(.agg #[.slice b c d,.slice e f g])] i (fun j k l m=>(KeepT 30 i m/\True)/\∃ (n:Int->World->Prop) (o:Int->World->Nat),n 0 m/\
 (∀ p:Int,∀ q:World,n p q->
 (Br (decide (p<(k:Int))) (Ix j p k fun r=>Ll q (r.add (p.toNat*2)) fun s t u=>Ls q ((r.add (p.toNat*2)).add 1) fun v=>True/\(let x:=q.alloc (.cells #[.slice none 0 0,(.string (⟨#[]⟩:BA))] 108);
 True/\(let y:=q.alloc (.cells #[.slice s t u,.string v] 108);
 ∃ (z:OA->Nat->Nat->Int->World->Prop) (A:OA->Nat->Nat->Int->World->Nat),z none 0 0 0 y/\
 (∀ (B:OA) (C D:Nat),∀ E:Int,∀ F:World,z B C D E F->
 (Br (decide (E<(t:Int))) (∀ G:OA->Nat->Nat->World->Prop,(∀ (H:OA) (I J:Nat),∀ K:World,
 ((z H I J (IntKind.i64.wrap (E+1)) K/\A H I J (IntKind.i64.wrap (E+1)) K<A B C D E F))->
 G H I J K)->
 Ix s E t fun L=>L_sl F (L.add (E.toNat*2)) fun M N O P=>True/\(let Q:=F.alloc (.cells #[(.string (⟨#[]⟩:BA)),.slice none 0 0] 110);
 True/\(let S:=F.alloc (.cells #[.string M,.slice N O P] 110);
 CP 74 #[.pointer a,.string M] S (fun U V=>∃ W,∃ X,∃ Y Z aa,∃ ab ac ad,∃ ae,∃ af,U=.returned (.tuple #[(.agg #[.string W,.string X,.slice Y Z aa,.slice ab ac ad,.bool ae]),.bool af])/\(KeepT 30 S V/\KeepT 108 S V/\KeepT 110 S V/\True)/\True/\(let ag:=V.alloc (.cells #[(.string (⟨#[]⟩:BA)),(.string (⟨#[]⟩:BA)),.slice none 0 0,.slice none 0 0,.bool false] 112);
 True/\(let ah:=V.alloc (.cells #[.string W,.string X,.slice Y Z aa,.slice ab ac ad,.bool ae] 112);
 ∀ ai:Bool->World->Prop,(∀ aj:Bool,∀ ak:World,
 ((Br aj (True/\(let al:=ak.alloc (.cells #[.string M] 9);
 ∃ am an ao,∃ ap,(Go.builtin .append #[71,71] 71 #[false,false] #[.slice B C D,(.slice (some (adr ak.heap.size)) 1 1)]).run Tryz.prog al=.ok (.value (.slice am an ao)) ap/\(KeepT 30 al ap/\KeepT 108 al ap/\KeepT 110 al ap/\KeepT 112 al ap/\True)/\G am an ao ap)) (G B C D ak)))->
 ai aj ak)->
 (Br af (ai (!ae) ah) (ai false ah)))))))) (Cb 76 #[.slice B C D] F (fun aq ar=>(KeepT 30 F ar/\KeepT 108 F ar/\True)/\(Br aq (R (.returned (.bool true)) ar) ((n (IntKind.i64.wrap (p+1)) ar/\o (IntKind.i64.wrap (p+1)) ar<o p q)))))))))) (R (.returned (.bool false)) q)))))):CP 30 #[.pointer a,(.agg #[.slice b c d,.slice e f g])] w R:=
 vcq Tryz.func30 [3,6,9,10] [(6,⟨[(15,.int .i64)],[]⟩),(23,⟨[(7,.slice),(22,.int .i64)],[]⟩),(30,⟨[(7,.slice)],[]⟩),(36,⟨[(38,.bool)],[]⟩)] [.l (.optr a),.agg [.slice b c d,.slice e f g]] h
set_option maxRecDepth 100000
theorem q_uses (a:OA)(b c:Nat)(d:OA)(e f:Nat)(w:World)(R:EW)(h:
 True/\(let g:=w.alloc (.cells #[.slice a b c,.slice d e f] 30);
 ∃ (i:OA->Nat->Nat->Int->World->Prop) (j:OA->Nat->Nat->Int->World->Nat),i none 0 0 0 g/\
 (∀ (k:OA) (l m:Nat),∀ n:Int,∀ o:World,i k l m n o->
 (Br (decide (n<(b:Int))) (Ix a n b fun p=>L_sslll o (p.add (n.toNat*5)) fun q r s t u v x y z A B=>True/\(let C:=o.alloc (.cells #[(.string (⟨#[]⟩:BA)),(.string (⟨#[]⟩:BA)),.slice none 0 0,.slice none 0 0,.slice none 0 0] 51);
 True/\(let D:=o.alloc (.cells #[.string q,.string r,.slice s t u,.slice v x y,.slice z A B] 51);
 ∀ E,E=D.drew->Cs 123 #[.string q] E (fun F G=>(KeepT 30 E G/\KeepT 51 E G/\True)/\((1=1)/\True)/\True/\True/\(let H:=G.alloc (.cells #[.slice v x y,.string F] 108);
 True/\∃ I J K,∃ L,(Go.builtin .append #[105,105] 105 #[false,false] #[.slice k l m,(.slice (some (adr G.heap.size)) 1 1)]).run Tryz.prog H=.ok (.value (.slice I J K)) L/\(KeepT 30 H L/\KeepT 51 H L/\True)/\True/\True/\∃ (M:OA->Nat->Nat->Int->World->Prop) (N:OA->Nat->Nat->Int->World->Nat),M I J K 0 L/\
 (∀ (O:OA) (P Q:Nat),∀ S:Int,∀ U:World,M O P Q S U->
 (Br (decide (S<(t:Int))) (Ix s S t fun V=>Ls U (V.add (S.toNat*6)) fun W=>Ls U ((V.add (S.toNat*6)).add 1) fun X=>Ll U ((V.add (S.toNat*6)).add 2) fun Y Z aa=>Lb U ((V.add (S.toNat*6)).add 3) fun ab=>Ll U ((V.add (S.toNat*6)).add 4) fun ac ad ae=>Ll U ((V.add (S.toNat*6)).add 5) fun af ag ah=>True/\(let ai:=U.alloc (.cells #[(.string (⟨#[]⟩:BA)),(.string (⟨#[]⟩:BA)),.slice none 0 0,.bool false,.slice none 0 0,.slice none 0 0] 59);
 True/\(let aj:=U.alloc (.cells #[.string W,.string X,.slice Y Z aa,.bool ab,.slice ac ad ae,.slice af ag ah] 59);
 True/\True/\(let ak:=aj.alloc (.cells #[.slice af ag ah,(.string (⟨#[86,65,82,73,65,66,76,69,95,68,69,70,73,78,73,84,73,79,78]⟩:BA))] 108);
 ∃ al am an,∃ ao,(Go.builtin .append #[105,105] 105 #[false,false] #[.slice O P Q,(.slice (some (adr aj.heap.size)) 1 1)]).run Tryz.prog ak=.ok (.value (.slice al am an)) ao/\(KeepT 30 ak ao/\KeepT 51 ak ao/\KeepT 59 ak ao/\True)/\(M al am an (IntKind.i64.wrap (S+1)) ao/\N al am an (IntKind.i64.wrap (S+1)) ao<N O P Q S U))))) (Cl 124 #[.slice z A B] U (fun ap aq ar au=>(KeepT 30 U au/\KeepT 51 U au/\True)/\∃ av ax ay,∃ az,(Go.builtin .append #[105,105] 105 #[false,false] #[.slice O P Q,.slice ap aq ar]).run Tryz.prog au=.ok (.value (.slice av ax ay)) az/\(KeepT 30 au az/\KeepT 51 au az/\True)/\(i av ax ay (IntKind.i64.wrap (n+1)) az/\j av ax ay (IntKind.i64.wrap (n+1)) az<j k l m n o)))))))))) (∃ (aA:OA->Nat->Nat->Int->World->Prop) (aB:OA->Nat->Nat->Int->World->Nat),aA k l m 0 o/\
 (∀ (aC:OA) (aD aE:Nat),∀ aF:Int,∀ aG:World,aA aC aD aE aF aG->
 (Br (decide (aF<(e:Int))) (Ix d aF e fun aH=>L_ssll aG (aH.add (aF.toNat*4)) fun aI aJ aK aL aM aN aO aP=>True/\(let aQ:=aG.alloc (.cells #[(.string (⟨#[]⟩:BA)),(.string (⟨#[]⟩:BA)),.slice none 0 0,.slice none 0 0] 63);
 True/\(let aS:=aG.alloc (.cells #[.string aI,.string aJ,.slice aK aL aM,.slice aN aO aP] 63);
 True/\True/\(let aU:=aS.alloc (.cells #[.slice aK aL aM,(.string (⟨#[70,82,65,71,77,69,78,84,95,68,69,70,73,78,73,84,73,79,78]⟩:BA))] 108);
 ∃ aV aW aX,∃ aY,(Go.builtin .append #[105,105] 105 #[false,false] #[.slice aC aD aE,(.slice (some (adr aS.heap.size)) 1 1)]).run Tryz.prog aU=.ok (.value (.slice aV aW aX)) aY/\(KeepT 30 aU aY/\KeepT 63 aU aY/\True)/\Cl 124 #[.slice aN aO aP] aY (fun aZ ba bb bc=>(KeepT 30 aY bc/\KeepT 63 aY bc/\True)/\∃ bd be bf,∃ bg,(Go.builtin .append #[105,105] 105 #[false,false] #[.slice aV aW aX,.slice aZ ba bb]).run Tryz.prog bc=.ok (.value (.slice bd be bf)) bg/\(KeepT 30 bc bg/\KeepT 63 bc bg/\True)/\(aA bd be bf (IntKind.i64.wrap (aF+1)) bg/\aB bd be bf (IntKind.i64.wrap (aF+1)) bg<aB aC aD aE aF aG)))))) (R (.returned (.slice aC aD aE)) aG)))))))):CP 73 #[(.agg #[.slice a b c,.slice d e f])] w R:=
 vcq Tryz.func73 [1,5,7,9] [(8,⟨[(3,.slice),(13,.int .i64)],[]⟩),(25,⟨[(3,.slice),(29,.int .i64)],[]⟩),(44,⟨[(3,.slice),(49,.int .i64)],[]⟩)] [.agg [.slice a b c,.slice d e f]] h
theorem q_usesOf (a:OA)(b c:Nat)(w:World)(R:EW)(h:
 ∃ (d:OA->Nat->Nat->Int->World->Prop) (e:OA->Nat->Nat->Int->World->Nat),d none 0 0 0 w/\
 (∀ (f:OA) (g i:Nat),∀ j:Int,∀ k:World,d f g i j k->
 (Br (decide (j<(b:Int))) (Ix a j b fun l=>L_issslll k (l.add (j.toNat*7)) fun m n o p q r s t u v x y z=>True/\(let A:=k.alloc (.cells #[.int .i64 0,(.string (⟨#[]⟩:BA)),(.string (⟨#[]⟩:BA)),(.string (⟨#[]⟩:BA)),.slice none 0 0,.slice none 0 0,.slice none 0 0] 84);
 True/\(let B:=k.alloc (.cells #[.int .i64 m,.string n,.string o,.string p,.slice q r s,.slice t u v,.slice x y z] 84);
 ∀ C,C=B.drew->True/\(let D:=C.alloc (.cells #[(.string (⟨#[70,73,69,76,68]⟩:BA)),(.string (⟨#[70,82,65,71,77,69,78,84,95,83,80,82,69,65,68]⟩:BA)),(.string (⟨#[73,78,76,73,78,69,95,70,82,65,71,77,69,78,84]⟩:BA))] 9);
 ((1=1)/\(1=1)/\True)/\Ix (some (adr C.heap.size)) m 3 fun E=>Ls D (E.add (m.toNat*1)) fun F=>True/\True/\(let G:=D.alloc (.cells #[.slice t u v,.string F] 108);
 True/\∃ H I J,∃ K,(Go.builtin .append #[105,105] 105 #[false,false] #[.slice f g i,(.slice (some (adr D.heap.size)) 1 1)]).run Tryz.prog G=.ok (.value (.slice H I J)) K/\(KeepT 84 G K/\True)/\True/\True/\Cl 124 #[.slice x y z] K (fun L M N O=>(KeepT 84 K O/\True)/\∃ P Q S,∃ U,(Go.builtin .append #[105,105] 105 #[false,false] #[.slice H I J,.slice L M N]).run Tryz.prog O=.ok (.value (.slice P Q S)) U/\(KeepT 84 O U/\True)/\(d P Q S (IntKind.i64.wrap (j+1)) U/\e P Q S (IntKind.i64.wrap (j+1)) U<e f g i j k))))))) (R (.returned (.slice f g i)) k)))):CP 124 #[.slice a b c] w R:=
 vcq Tryz.func124 [5] [(8,⟨[(3,.slice),(8,.int .i64)],[]⟩)] [.l (.slice a b c)] h
theorem q_location (a:BA)(w:World)(R:EW)(h:
 (Br (a.toList==(⟨#[109,117,116,97,116,105,111,110]⟩:BA).toList) (R (.returned (.string (⟨#[77,85,84,65,84,73,79,78]⟩:BA))) w) ((Br (a.toList==(⟨#[115,117,98,115,99,114,105,112,116,105,111,110]⟩:BA).toList) (R (.returned (.string (⟨#[83,85,66,83,67,82,73,80,84,73,79,78]⟩:BA))) w) (R (.returned (.string (⟨#[81,85,69,82,89]⟩:BA))) w))))):CP 123 #[.string a] w R:=
 vcq Tryz.func123 [] [] [.l (.str a)] h
variable [DB]
def AppT (t T n:Nat):Prop:=∃ (i:TypeInfo) (z:Value) (bytes:Nat),Tryz.prog.underlying t=some (.slice T)/\Tryz.prog.info? T=some i/\i.zero=some z/\i.size=n/\i.bytes=bytes/\z.cells.size=n/\0<n/\bytes<=4096
def Acc {α:Type}(wb w:World)(T n:Nat)(R:α->List Value->Prop)(A:OA)(L C:Nat)(xs:List α):Prop:=
 EF wb w/\L=xs.length/\∃ cells,Own wb.heap.size w T n A L C cells/\Flat n R xs cells
section
variable {α:Type} {wb w w':World} {t T n:Nat} {R:α->List Value->Prop} {A:OA} {L C:Nat} {xs ys:List α} {x:α}
theorem Acc.nil (h:EF wb w):Acc wb w T n R none 0 0 ([]:List α):=⟨h,rfl,[],Own.nil ..,.nil⟩
theorem Acc.step (h:Acc wb w T n R A L C xs)(hx:EF w w'):Acc wb w' T n R A L C xs:=by
 obtain ⟨h1,h2,cells,h3,h4⟩:=h
 exact ⟨h1.then hx,h2,cells,h3.keep hx fun _ _=>id,h4⟩
theorem Acc.sl (h:Acc wb w T n R A L C xs)(hn:0<n)(hl:xs.length<=4194304):SlL w T n R A L C xs:=by
 obtain ⟨h1,h2,cells,h3,h4⟩:=h
 exact h3.sl h4 hn (by omega)
theorem Acc.one (ha:AppT t T n)(hlen:∀ x cs,R x cs->cs.length=n)(h:Acc wb w T n R A L C xs){cs:List Value}(hr:R x cs)(hsm:∀ v∈cs,smallV v)(h2:xs.length<16777216):
  ∃ (A':OA) (C':Nat) (w':World),(Go.builtin .append #[t,t] t #[false,false] #[.slice A L C,.slice (some (adr w.heap.size)) 1 1]).run Tryz.prog (w.alloc (.cells cs.toArray T))=.ok (.value (.slice A' (L+1) C')) w'/\
   Acc wb w' T n R A' (L+1) C' (xs++[x])/\∀ T',T'≠T->KeepT T' (w.alloc (.cells cs.toArray T)) w':=by
 obtain ⟨i,z,bytes,a1,a2,a3,a4,a5,a6,a7,a8⟩:=ha
 obtain ⟨h1,hL,cells,h3,h4⟩:=h
 obtain ⟨A',C',w',r,⟨cells',o',f'⟩,hx,hk⟩:=append_one t T i z n bytes a1 a2 a3 a4 a5 a6 a7 a8 h3 h1.size h4 (hlen _ _ hr) hsm hr hlen (by omega) t #[false,false]
 refine ⟨A',C',w',r,⟨h1.trans hx fun b hb hbl=>?_,by rw [List.length_append,hL];rfl,cells',o',f'⟩,hk⟩
 have:=(h3.base b hbl).1
 omega
theorem Acc.more (ha:AppT t T n)(hlen:∀ x cs,R x cs->cs.length=n)(h:Acc wb w T n R A L C xs){a:OA}{l c:Nat}(hr:SlL w T n R a l c ys)(h2:xs.length+ys.length<=16777216):
  ∃ (A':OA) (C':Nat) (w':World),(Go.builtin .append #[t,t] t #[false,false] #[.slice A L C,.slice a l c]).run Tryz.prog w=.ok (.value (.slice A' (L+l) C')) w'/\
   Acc wb w' T n R A' (L+l) C' (xs++ys)/\∀ T',T'≠T->KeepT T' w w':=by
 obtain ⟨i,z,bytes,a1,a2,a3,a4,a5,a6,a7,a8⟩:=ha
 obtain ⟨h1,hL,cells,h3,h4⟩:=h
 have hl:=hr.len.1
 obtain ⟨A',C',w',r,⟨cells',o',f'⟩,hx,-⟩:=append_sl t T i z n bytes a1 a2 a3 a4 a5 a6 a7 a8 h3 h1.size h4 hr hlen (by omega) t #[false,false]
 refine ⟨A',C',w',r,⟨h1.trans hx fun b hb hbl=>?_,by rw [List.length_append,hL,hl],cells',o',f'⟩,fun T' hT=>h3.keepT hx hT⟩
 have:=(h3.base b hbl).1
 omega
theorem Acc.get (h:Acc wb w T n R A L C xs){i:Int}(h0:0<=i)(hi:i<(L:Int)):∃ (p:Addr) (x:α) (cs:List Value),A=some p/\xs[i.toNat]? =some x/\R x cs/\∀ k u,cs[k]? =some u->At w T ((p.add (i.toNat*n)).add k) u:=by
 obtain ⟨h1,h2,cells,h3,h4⟩:=h
 obtain ⟨x,hx⟩:∃ x,xs[i.toNat]? =some x:=⟨_,List.getElem?_eq_getElem (by omega)⟩
 obtain ⟨cs,g1,g2,g3,g4⟩:=h4.get _ x hx
 have hp:∃ p,A=some p:=by
  obtain ⟨-, h|⟨g,cap,cur,e1,-⟩⟩:=h3
  ·obtain ⟨h,-⟩:=h
   simp only [Value.slice.injEq] at h
   omega
  ·simp only [Value.slice.injEq] at e1
   exact ⟨_,e1.1⟩
 obtain ⟨p,rfl⟩:=hp
 refine ⟨p,x,cs,rfl,hx,g3,fun k u hu=>?_⟩
 obtain ⟨p',hp',ha⟩:=h3.at (g4 k u hu)
 obtain rfl:p=p':=Option.some.inj hp'
 rw [add_add']
 exact ha
theorem KeepT.at {w w':World}{T:TypeId}(h:KeepT T w w'){a:Addr}{v:Value}(ha:At w T a v):At w' T a v:=by
 obtain ⟨cs,fr,h1,h2⟩:=ha
 exact ⟨cs,fr,h _ _ _ h1,h2⟩
theorem KeepT.then {w w' w'':World}{T:TypeId}(h:KeepT T w w')(h':KeepT T w' w''):KeepT T w w'':=fun b c fr hb=>h' b c fr (h b c fr hb)
end
def RUse (w0:World)(x:List Dir × BA)(cs:List Value):Prop:=∃ (a:OA) (l c:Nat),cs=[.slice a l c,.string x.2]/\RDirs w0 a l c x.1
theorem appU:AppT 105 108 2:=⟨Tryz.t108,_,_,by kernel_rfl,by kernel_rfl,rfl,by kernel_rfl,rfl,by kernel_rfl,by omega,by decide⟩
theorem RUse.len {w0:World}(x:List Dir × BA)(cs:List Value):RUse w0 x cs->cs.length=2:=fun ⟨_,_,_,h,_⟩=>by rw [h];rfl
def selLoc (k:Int):BA:=if k=0 then bField else if k=1 then bSpread else bInline
def spLoc (k:BA):BA:=if k=bMut then bMLoc else if k=bSub then bSLoc else bQLoc
mutual
def usS:Sel->List (List Dir × BA)
 | .mk k _ _ _ _ dirs kids=>(dirs,selLoc k)::usL kids
def usL:List Sel->List (List Dir × BA)
 | []=>[]
 | s::l=>usS s++usL l
end
theorem usL_flat:∀ l:List Sel,usL l=l.flatMap usS
 | []=>rfl
 | s::l=>by simp [usL,usL_flat l]
theorem usL_len:∀ l:List Sel,(usL l).length=selL l
 | []=>rfl
 | .mk k al n on args dirs kids::l=>by
  simp only [usL,usS,selL,selS,List.length_append,List.length_cons,usL_len kids,usL_len l]
  omega
theorem take_snoc' {α:Type}{xs:List α}{i:Int}{x:α}(h0:0<=i)(hx:xs[i.toNat]? =some x):xs.take (i+1).toNat=xs.take i.toNat++[x]:=by
 rw [show (i+1).toNat=i.toNat+1 by omega,List.take_add_one,hx];rfl
theorem fm_snoc {α β:Type}(f:α->List β){xs:List α}{i:Int}{x:α}(h0:0<=i)(hx:xs[i.toNat]? =some x):(xs.take (i+1).toNat).flatMap f=(xs.take i.toNat).flatMap f++f x:=by
 rw [take_snoc' h0 hx,List.flatMap_append]
 simp
theorem fm_take {α β:Type}(f:α->List β)(xs:List α)(j:Nat):((xs.take j).flatMap f).length<=(xs.flatMap f).length:=by
 have:xs.flatMap f=(xs.take j).flatMap f++(xs.drop j).flatMap f:=by rw [<- List.flatMap_append,List.take_append_drop]
 rw [this,List.length_append]
 omega
theorem selL_in {s:Sel}:∀ {l:List Sel},s∈l->selS s<=selL l
 | t::l,h=>by
  simp only [selL]
  rcases List.mem_cons.1 h with rfl|h
  ·omega
  ·have:=selL_in h
   omega
abbrev USof (w0:World)(xs:List Sel):Prop:=∀ (a:OA) (l c:Nat) (w:World),EF w0 w->RSels w0 a l c xs->okSels xs->selL xs<=2097152->
 CP 124 #[.slice a l c] w fun e w'=>∃ A L C,e=.returned (.slice A L C)/\Acc w w' 108 2 (RUse w0) A L C (usL xs)
theorem small_use {a:OA}{l c:Nat}{s:BA}(h:s.size<=4194304):∀ v∈[Value.slice a l c,.string s],smallV v:=fun v hv=>by
 simp only [List.mem_cons,List.not_mem_nil,or_false] at hv
 rcases hv with rfl|rfl
 ·rfl
 ·exact h
theorem c_usesOf_of {w0:World}{xs:List Sel}(IH:∀ k al n on args dirs kids,Sel.mk k al n on args dirs kids∈xs->USof w0 kids):USof w0 xs:=by
 intro a l c w hw0 hl hok hfew
 obtain ⟨e1,e3⟩:=hl.len
 rw [<- usL_len,usL_flat] at hfew
 rw [usL_flat]
 refine q_usesOf a l c w _ ⟨fun A L C i w1=>0<=i/\i<=l/\Acc w w1 108 2 (RUse w0) A L C ((xs.take i.toNat).flatMap usS),fun _ _ _ i _=>((l:Int)-i).toNat,⟨by omega,by omega,Acc.nil (Ext.refl w)⟩,?_⟩
 rintro A L C i w1 ⟨h0,hi,ac⟩
 refine ⟨fun hlt=>?_,fun hge=>?_⟩
 ·have hlt:=odt hlt
  have x1:=hw0.then ac.1
  obtain ⟨p,x,hp,hxs,cs,hc,hv⟩:=hl.get h0 hlt
  have hmem:=List.mem_of_getElem? hxs
  have hokx:=okSels_iff.1 hok x hmem
  have hsn:=fm_snoc usS h0 hxs
  have hle:=fm_take usS xs (i+1).toNat
  have hsel:=selL_in hmem
  rw [<- usL_len xs,usL_flat] at hsel
  obtain ⟨k,al,n,on,args,dirs,kids⟩:=x
  have IHk:=IH k al n on args dirs kids hmem
  obtain ⟨a1,l1,c1,a2,l2,c2,a3,l3,c3,rfl,hv1,hv2,hv3⟩:=RSel_mk.1 hv
  obtain ⟨⟨_,_,hc0⟩,hs0,⟨_,_,hc1⟩,hs1,⟨_,_,hc2⟩,hs2,⟨_,_,hc3⟩,hs3,⟨_,_,hc4⟩,hs4,⟨_,_,hc5⟩,hs5,⟨_,_,hc6⟩,-⟩:=hc
  simp only [okSel] at hokx
  obtain ⟨hk,-, -, hkids,-⟩:=hokx
  simp only [selS] at hsel
  rw [hsn,show usS (.mk k al n on args dirs kids)=(dirs,selLoc k)::usL kids by simp only [usS],List.length_append,List.length_cons,usL_len] at hle
  refine ⟨p,hp,⟨h0,hlt⟩,_,x1.cell hc0 id,_,x1.cell hc1 id,_,x1.cell hc2 id,_,x1.cell hc3 id,_,_,_,x1.cell hc4 id,_,_,_,x1.cell hc5 id,_,_,_,x1.cell hc6 id,trivial,trivial,fun w17 e17=>⟨trivial,?_⟩⟩
  have hx17:EF w1 w17:=by rw [e17];exact ((Ext.refl w1).alloc _).drew
  have B18:=Blk.made w17 9 [.string bField,.string bSpread,.string bInline]
  have hx18:EF w17 (w17.alloc (.cells #[.string bField,.string bSpread,.string bInline] 9)):=(Ext.refl w17).alloc _
  have hs:(selLoc k).size<=4194304:=by rcases hk with rfl|rfl|rfl<;>exact Nat.le_of_ble_eq_true rfl
  have hsc:(w17.alloc (.cells #[.string bField,.string bSpread,.string bInline] 9)).cell? ((adr w17.heap.size).add (k.toNat*1))=some (.string (selLoc k)):=by
   rcases hk with rfl|rfl|rfl
   ·exact (B18.at (j:=0) rfl).cell
   ·exact (B18.at (j:=1) rfl).cell
   ·exact (B18.at (j:=2) rfl).cell
  refine ⟨⟨rfl,rfl,trivial⟩,_,rfl,⟨by omega,by omega⟩,selLoc k,hsc,trivial,trivial,trivial,?_⟩
  obtain ⟨A2,C2,w23,r23,ac23,k23⟩:=((ac.step hx17).step hx18).one appU RUse.len (x:=(dirs,selLoc k)) (cs:=[.slice a2 l2 c2,.string (selLoc k)]) ⟨a2,l2,c2,rfl,hv2⟩ (small_use hs) (by omega)
  refine ⟨A2,L+1,C2,w23,r23,⟨k23 _ (by decide),trivial⟩,trivial,trivial,?_⟩
  refine (IHk a3 l3 c3 w23 (hw0.then ac23.1) hv3 hkids (by omega)).mono ?_
  rintro _ w25 ⟨A3,L3,C3,rfl,ac25⟩
  have hlk:=usL_len kids
  obtain ⟨A4,C4,w28,r28,ac28,k28⟩:=(ac23.step ac25.1).more appU RUse.len (ac25.sl (by omega) (by omega)) (by rw [List.length_append,List.length_cons,List.length_nil];omega)
  refine ⟨A3,L3,C3,rfl,⟨ac25.1.keepT _,trivial⟩,A4,L+1+L3,C4,w28,r28,⟨k28 _ (by decide),trivial⟩,?_⟩
  rw [wrap_lt h0 (by omega)]
  refine next h0 hlt ?_
  rw [hsn,show usS (.mk k al n on args dirs kids)=[(dirs,selLoc k)]++usL kids by simp only [usS];rfl,<- List.append_assoc]
  exact ac28
 ·have hle:=odf hge
  rw [List.take_of_length_le (by omega)] at ac
  exact ⟨A,L,C,rfl,ac⟩
theorem c_usesOf_all {w0:World}:∀ (d:Nat) (xs:List Sel),SizeOf.sizeOf xs<d->USof w0 xs
 | 0,_,h=>by omega
 | d+1,xs,h=>c_usesOf_of fun k al n on args dirs kids hm=>c_usesOf_all d kids (by
   have:=List.sizeOf_lt_of_mem hm
   simp only [Sel.mk.sizeOf_spec] at this
   omega)
theorem c_usesOf (w0:World)(xs:List Sel):USof w0 xs:=c_usesOf_all _ xs (Nat.lt_succ_self _)
theorem c_location (s:BA)(w:World):CP 123 #[.string s] w fun e w'=>e=.returned (.string (spLoc s))/\w'=w:=by
 refine q_location s w _ ⟨fun h=>⟨?_,rfl⟩,fun h=>⟨fun h'=>⟨?_,rfl⟩,fun h'=>⟨?_,rfl⟩⟩⟩
 ·rw [spLoc,if_pos (bytes_beq_t.1 h)]
 ·rw [spLoc,if_neg (bytes_beq_f.1 h),if_pos (bytes_beq_t.1 h')]
 ·rw [spLoc,if_neg (bytes_beq_f.1 h),if_neg (bytes_beq_f.1 h')]
theorem spLoc_small (s:BA):(spLoc s).size<=4194304:=by
 unfold spLoc
 split
 ·exact Nat.le_of_ble_eq_true rfl
 ·split<;>exact Nat.le_of_ble_eq_true rfl
def usO (x:OpD):List (List Dir × BA):=[(x.dirs,spLoc x.kind)]++(x.vars.map fun v=>(v.dirs,bVarLoc))++usL x.kids
def usF (x:Frag):List (List Dir × BA):=[(x.dirs,bFragLoc)]++usL x.kids
def usesD (ops:List OpD)(frags:List Frag):List (List Dir × BA):=ops.flatMap usO++frags.flatMap usF
theorem fm_le {α β:Type}{f:α->List β}{g:α->Nat}:∀ {l:List α},(∀ x∈l,(f x).length<=g x)->(l.flatMap f).length<=(l.map g).sum
 | [],_=>by simp
 | x::l,h=>by
  have h1:=h x (by simp)
  have h2:=fm_le (l:=l) (f:=f) (g:=g) fun y hy=>h y (by simp [hy])
  simp only [List.flatMap_cons,List.length_append,List.map_cons,List.sum_cons]
  omega
theorem usO_len (x:OpD):(usO x).length<=opW x:=by
 have h1:=selL_W x.kids
 have h2:x.vars.length<=varsW x.vars:=lenW_sum fun y _=>by simp only [varW];omega
 simp only [usO,opW,List.length_append,List.length_cons,List.length_nil,List.length_map,usL_len]
 omega
theorem usF_len (x:Frag):(usF x).length<=fragW x:=by
 have h1:=selL_W x.kids
 simp only [usF,fragW,List.length_append,List.length_cons,List.length_nil,usL_len]
 omega
theorem uses_len (ops:List OpD)(frags:List Frag):(usesD ops frags).length<=docW ops frags:=by
 have h1:=fm_le (l:=ops) fun x _=>usO_len x
 have h2:=fm_le (l:=frags) fun x _=>usF_len x
 simp only [usesD,docW,List.length_append]
 omega
theorem c_uses {w0 w:World}{a:OA}{l c:Nat}{a':OA}{l' c':Nat}{ops:List OpD}{frags:List Frag}(hw0:EF w0 w)(hl:ROps w0 a l c ops)(hl':RFrags w0 a' l' c' frags)(ok1:∀ x∈ops,okOp x)(ok2:∀ x∈frags,okFrag x)(hs:docW ops frags<=2097152):
  CP 73 #[.agg #[.slice a l c,.slice a' l' c']] w fun e w'=>∃ A L C,e=.returned (.slice A L C)/\Acc w w' 108 2 (RUse w0) A L C (usesD ops frags):=by
 obtain ⟨e1,e3⟩:=hl.len
 obtain ⟨e1',e3'⟩:=hl'.len
 have hul:=Nat.le_trans (uses_len ops frags) hs
 have hsel:=Nat.le_trans (selTot_W ops frags) hs
 unfold selTot at hsel
 have hs1:∀ x∈ops,selL x.kids<=2097152:=fun x hx=>by
  have:=memW_sum (fun x:OpD=>selL x.kids) hx
  omega
 have hs2:∀ x∈frags,selL x.kids<=2097152:=fun x hx=>by
  have:=memW_sum (fun x:Frag=>selL x.kids) hx
  omega
 simp only [usesD,List.length_append] at hul
 have hx0:=(Ext.refl (X:=fun _=>False) w).alloc (.cells #[.slice a l c,.slice a' l' c'] 30)
 refine q_uses a l c a' l' c' w _ ⟨trivial,?_⟩
 refine ⟨fun A L C i w1=>0<=i/\i<=l/\Acc w w1 108 2 (RUse w0) A L C ((ops.take i.toNat).flatMap usO),fun _ _ _ i _=>((l:Int)-i).toNat,⟨by omega,by omega,Acc.nil hx0⟩,?_⟩
 rintro A L C i w1 ⟨h0,hi,ac⟩
 refine ⟨fun hlt=>?_,fun hge=>?_⟩
 ·have hlt:=odt hlt
  have x1:=hw0.then ac.1
  obtain ⟨p,x,hp,hxs,cs,hc,a1,l1,c1,a2,l2,c2,a3,l3,c3,rfl,hv1,hv2,hv3⟩:=hl.get h0 hlt
  obtain ⟨⟨_,_,hc0⟩,hs0,⟨_,_,hc1⟩,hs1',⟨_,_,hc2⟩,hs2',⟨_,_,hc3⟩,hs3,⟨_,_,hc4⟩,-⟩:=hc
  have hmem:=List.mem_of_getElem? hxs
  have hsn:=fm_snoc usO h0 hxs
  have hle:=fm_take usO ops (i+1).toNat
  have hkl:=hs1 x hmem
  obtain ⟨d1,d3⟩:=hv1.len
  rw [hsn] at hle
  simp only [usO,List.length_append,List.length_cons,List.length_nil,List.length_map,usL_len] at hle
  refine ⟨p,hp,⟨h0,hlt⟩,_,x1.cell hc0 id,_,x1.cell hc1 id,_,_,_,x1.cell hc2 id,_,_,_,x1.cell hc3 id,_,_,_,x1.cell hc4 id,trivial,trivial,fun w17 e17=>?_⟩
  have hx17:EF w1 w17:=by rw [e17];exact ((Ext.refl w1).alloc _).drew
  refine (c_location x.kind w17).mono ?_
  rintro _ w19 ⟨rfl,rfl⟩
  obtain ⟨A2,C2,w23,r23,ac23,k23⟩:=(ac.step hx17).one appU RUse.len (x:=(x.dirs,spLoc x.kind)) (cs:=[.slice a2 l2 c2,.string (spLoc x.kind)]) ⟨a2,l2,c2,rfl,hv2⟩ (small_use (spLoc_small _)) (by omega)
  refine ⟨_,rfl,⟨(Ext.refl _).keepT _,(Ext.refl _).keepT _,trivial⟩,⟨rfl,trivial⟩,trivial,trivial,trivial,A2,L+1,C2,w23,r23,⟨k23 _ (by decide),k23 _ (by decide),trivial⟩,trivial,trivial,?_⟩
  refine ⟨fun A L C j w2=>0<=j/\j<=l1/\Acc w w2 108 2 (RUse w0) A L C ((ops.take i.toNat).flatMap usO++[(x.dirs,spLoc x.kind)]++(x.vars.take j.toNat).map fun v=>(v.dirs,bVarLoc)),fun _ _ _ j _=>((l1:Int)-j).toNat,⟨by omega,by omega,by simpa using ac23⟩,?_⟩
  rintro A3 L3 C3 j w2 ⟨j0,hj,ac2⟩
  refine ⟨fun hjl=>?_,fun hjg=>?_⟩
  ·have hjl:=odt hjl
   have x2:=hw0.then ac2.1
   obtain ⟨p2,y,hp2,hys,cs2,hc',n,b1,m1,g1,nn,b2,m2,g2,b3,m3,g3,rfl,hw1,hw2,hw3⟩:=hv1.get j0 hjl
   obtain ⟨⟨_,_,hd0⟩,hz0,⟨_,_,hd1⟩,hz1,⟨_,_,hd2⟩,hz2,⟨_,_,hd3⟩,hz3,⟨_,_,hd4⟩,hz4,⟨_,_,hd5⟩,-⟩:=hc'
   have hy37:EF w2 (w2.alloc (.cells #[.string y.name,.string n,.slice b1 m1 g1,.bool nn,.slice b2 m2 g2,.slice b3 m3 g3] 59)):=(Ext.refl w2).alloc _
   obtain ⟨A4,C4,w40,r40,ac40,k40⟩:=(ac2.step hy37).one appU RUse.len (x:=(y.dirs,bVarLoc)) (cs:=[.slice b3 m3 g3,.string bVarLoc]) ⟨b3,m3,g3,rfl,hw3⟩ (small_use (by decide)) (by
    simp only [List.length_append,List.length_cons,List.length_nil,List.length_map,List.length_take]
    omega)
   refine ⟨p2,hp2,⟨j0,hjl⟩,_,x2.cell hd0 id,_,x2.cell hd1 id,_,_,_,x2.cell hd2 id,_,x2.cell hd3 id,_,_,_,x2.cell hd4 id,_,_,_,x2.cell hd5 id,trivial,trivial,trivial,trivial,A4,L3+1,C4,w40,r40,⟨k40 _ (by decide),k40 _ (by decide),k40 _ (by decide),trivial⟩,?_⟩
   rw [wrap_lt j0 (by omega)]
   refine next j0 hjl ?_
   rw [take_snoc' j0 hys,List.map_append,<- List.append_assoc]
   exact ac40
  ·have hje:=odf hjg
   rw [List.take_of_length_le (l:=x.vars) (by omega)] at ac2
   refine (c_usesOf w0 x.kids a3 l3 c3 w2 (hw0.then ac2.1) hv3 (ok1 x hmem).2.2.2 hkl).mono ?_
   rintro _ w42 ⟨A5,L5,C5,rfl,ac42⟩
   have hlk:=usL_len x.kids
   obtain ⟨A6,C6,w45,r45,ac45,k45⟩:=(ac2.step ac42.1).more appU RUse.len (ac42.sl (by omega) (by omega)) (by
    simp only [List.length_append,List.length_cons,List.length_nil,List.length_map,usL_len]
    omega)
   refine ⟨A5,L5,C5,rfl,⟨ac42.1.keepT _,ac42.1.keepT _,trivial⟩,A6,L3+L5,C6,w45,r45,⟨k45 _ (by decide),k45 _ (by decide),trivial⟩,?_⟩
   rw [wrap_lt h0 (by omega)]
   refine next h0 hlt ?_
   rw [hsn]
   simpa only [usO,List.append_assoc] using ac45
 ·have hle:=odf hge
  rw [List.take_of_length_le (by omega)] at ac
  refine ⟨fun A L C i w1=>0<=i/\i<=l'/\Acc w w1 108 2 (RUse w0) A L C (ops.flatMap usO++(frags.take i.toNat).flatMap usF),fun _ _ _ i _=>((l':Int)-i).toNat,⟨by omega,by omega,by simpa using ac⟩,?_⟩
  clear ac hle hge h0 hi
  rintro A L C i w1 ⟨h0,hi,ac⟩
  refine ⟨fun hlt=>?_,fun hge=>?_⟩
  ·have hlt:=odt hlt
   have x1:=hw0.then ac.1
   obtain ⟨p,x,hp,hxs,cs,hc,a2,l2,c2,a3,l3,c3,rfl,hv2,hv3⟩:=hl'.get h0 hlt
   obtain ⟨⟨_,_,hc0⟩,hs0,⟨_,_,hc1⟩,hs1',⟨_,_,hc2⟩,hs2',⟨_,_,hc3⟩,-⟩:=hc
   have hmem:=List.mem_of_getElem? hxs
   have hsn:=fm_snoc usF h0 hxs
   have hle:=fm_take usF frags (i+1).toNat
   have hkl:=hs2 x hmem
   rw [hsn] at hle
   simp only [usF,List.length_append,List.length_cons,List.length_nil,usL_len] at hle
   have hx57:EF w1 (w1.alloc (.cells #[.string x.name,.string x.on,.slice a2 l2 c2,.slice a3 l3 c3] 63)):=(Ext.refl w1).alloc _
   obtain ⟨A2,C2,w60,r60,ac60,k60⟩:=(ac.step hx57).one appU RUse.len (x:=(x.dirs,bFragLoc)) (cs:=[.slice a2 l2 c2,.string bFragLoc]) ⟨a2,l2,c2,rfl,hv2⟩ (small_use (by decide)) (by
    simp only [List.length_append,usF]
    omega)
   refine ⟨p,hp,⟨h0,hlt⟩,_,x1.cell hc0 id,_,x1.cell hc1 id,_,_,_,x1.cell hc2 id,_,_,_,x1.cell hc3 id,trivial,trivial,trivial,trivial,A2,L+1,C2,w60,r60,⟨k60 _ (by decide),k60 _ (by decide),trivial⟩,?_⟩
   refine (c_usesOf w0 x.kids a3 l3 c3 w60 (hw0.then ac60.1) hv3 (ok2 x hmem).2.1 hkl).mono ?_
   rintro _ w62 ⟨A5,L5,C5,rfl,ac62⟩
   have hlk:=usL_len x.kids
   obtain ⟨A6,C6,w65,r65,ac65,k65⟩:=(ac60.step ac62.1).more appU RUse.len (ac62.sl (by omega) (by omega)) (by
    simp only [List.length_append,List.length_cons,List.length_nil,usL_len,usF]
    omega)
   refine ⟨A5,L5,C5,rfl,⟨ac62.1.keepT _,ac62.1.keepT _,trivial⟩,A6,L+1+L5,C6,w65,r65,⟨k65 _ (by decide),k65 _ (by decide),trivial⟩,?_⟩
   rw [wrap_lt h0 (by omega)]
   refine next h0 hlt ?_
   rw [hsn]
   simpa only [usF,List.append_assoc] using ac65
  ·have hle:=odf hge
   rw [List.take_of_length_le (by omega)] at ac
   exact ⟨A,L,C,rfl,ac⟩
theorem Own.le {b2 b:Nat}{w:World}{T n:Nat}{a:OA}{l c:Nat}{xs:List Value}(h:Own b2 w T n a l c xs)(hb:b<=b2):Own b w T n a l c xs:=
 ⟨h.1,h.2.imp id fun ⟨g,cap,cur,e1,e2,e⟩=>⟨g,cap,cur,e1,Nat.le_trans hb e2,e⟩⟩
theorem app_full {α:Type}(t T:TypeId)(i:TypeInfo)(z:Value)(n bytes:Nat)(ht:Tryz.prog.underlying t=some (.slice T))(hi:Tryz.prog.info? T=some i)(hz:i.zero=some z)
  (hsize:i.size=n) (hby:i.bytes=bytes) (hzs:z.cells.size=n) (hn:0<n) (h3:bytes<=4096) {base:Nat} {w:World} {A:OA} {l:Nat} {cells:List Value} {R:α->List Value->Prop} {xs ys:List α}
  (hown:Own base w T n A l l cells) (hb:base<=w.heap.size) (h0:0<l) (hf:Flat n R xs cells) {a':OA} {l' c':Nat} (hl:SlL w T n R a' l' c' ys) (hlen:∀ x cs,R x cs->cs.length=n) (h2:l+l'<=16777216) (ty:TypeId) (fs:Array Bool):
  ∃ (A':OA) (C':Nat) (w':World),(Go.builtin .append #[t,t] ty fs #[.slice A l l,.slice a' l' c']).run Tryz.prog w=.ok (.value (.slice A' (l+l') C')) w'/\
   (∃ cells',Own base w' T n A' (l+l') C' cells'/\Flat n R (xs++ys) cells')/\EF w w':=by
 have hown0:=hown
 obtain ⟨news,hfn,hnews⟩:=hl.flat hlen
 have e:=hl.len.1
 obtain ⟨hc,⟨h1,-⟩|⟨g,cap,cur,e1,e2,e3,e4,e5,e6,e7⟩⟩:=hown
 ·simp only [Value.slice.injEq] at h1
  omega
 simp only [Value.slice.injEq] at e1
 obtain ⟨rfl,-, rfl⟩:=e1
 rcases Nat.eq_zero_or_pos l' with h|h
 ·subst h
  have hys:ys=[]:=List.length_eq_zero_iff.1 e.symm
  subst hys
  cases a' with
  | none=>
   exact ⟨_,_,_,run_append_none t T i ht hi (Nat.le_refl _) ty fs,⟨cells,hown0,by simpa using hf⟩,Ext.refl w⟩
  | some p=>
   have r:=run_append_room_cells (P:=Tryz.prog) w t ty T i ht hi g 0 l l p 0 c' [] (by simp) (by simp) (by simp) (Nat.le_refl _) (fun j hj=>by simp at hj) (fun j hj=>by simp at hj)
   refine ⟨some ⟨g,0,none⟩,l,w,?_,⟨cells,hown0,by simpa using hf⟩,Ext.refl w⟩
   have r':(Builtin.append_ #[t,t] ty #[.slice (some ⟨g,0,none⟩) l l,.slice (some p) 0 c']).run Tryz.prog w=.ok (.slice (some ⟨g,0,none⟩) (l+0) l) w:=r
   simp only [Go.builtin,Sem.run_bind,r',Result.andThen_ok,Sem.run_pure]
 ·cases a' with
  | none=>
   cases ys with
   | nil=>simp at e;omega
   | cons y ys=>
    obtain ⟨p,hp,_⟩:=hl.2.2.2 0 y rfl
    cases hp
  | some p=>
   obtain ⟨v',w',r,o,gr⟩:=run_append_arg_grows (P:=Tryz.prog) w t ty T i z n bytes ht hi hz hsize hby hzs hn ⟨g,0,none⟩ l l cells hc (fun j u hu=>by
    obtain ⟨q,hq,ha⟩:=Own.at hown0 hu
    cases hq
    exact ha.cell) p l' c' news (by rw [hfn.len,e]) (fun j u hu=>by
    obtain ⟨p',hp',_,ha⟩:=hnews j u hu
    cases hp'
    exact ha.cell) (by omega) (by simp only [maxLen];omega) (by
     have:(l+l')*bytes<=16777216*4096:=Nat.mul_le_mul h2 h3
     omega)
   have hv:∃ A C,v'=.slice A (l+l') C:=by
    obtain ⟨_,h|⟨g,cap,cur,h,_⟩⟩:=o
    ·exact ⟨none,0,by rw [h.1,h.2]⟩
    ·exact ⟨_,_,h⟩
   obtain ⟨A',C',rfl⟩:=hv
   refine ⟨A',C',w',?_,⟨_,Own.le o hb,hf.append hfn⟩,Ext.of_grown gr fun k hk=>by cases hk⟩
   simp only [Go.builtin,Sem.run_bind,r,Result.andThen_ok,Sem.run_pure]
def noDirDef:DirDef:=⟨E0,E0,[],[],false⟩
def dirS (dirs:List DirDef)(n:BA):Option DirDef:=firstN DirDef.name (preDirs++dirs) n
def dirG (dirs:List DirDef)(n:BA):DirDef × Bool:=match dirS dirs n with
 | some d=>(d,true)
 | none=>(noDirDef,false)
theorem dirG_some {dirs:List DirDef}{n:BA}{f:DirDef}(h:dirS dirs n=some f):dirG dirs n=(f,true):=by rw [dirG,h]
theorem dirG_none {dirs:List DirDef}{n:BA}(h:dirS dirs n=none):dirG dirs n=(noDirDef,false):=by rw [dirG,h]
theorem RPre.shape {w:World}{k1 k2 k3 k4 k5 k6 k7 k8:Nat}{x:DirDef}{cs:List Value}(h:RPre w (preCells k1 k2 k3 k4 k5 k6 k7 k8) x cs):∃ a l c a' l' c',cs=[.string x.doc,.string x.name,.slice a l c,.slice a' l' c',.bool x.rep]:=by
 rcases h with ⟨a,l,c,a',l',c',rfl,-⟩|h
 ·exact ⟨_,_,_,_,_,_,rfl⟩
 ·simp only [preCells,List.mem_cons,List.not_mem_nil,or_false,Prod.mk.injEq] at h
  rcases h with ⟨rfl,rfl⟩|⟨rfl,rfl⟩|⟨rfl,rfl⟩|⟨rfl,rfl⟩<;>exact ⟨_,_,_,_,_,_,rfl⟩
section
variable {k:Nat} {A4:OA} {L4 C4:Nat} {A:OA} {L C:Nat} {A3:OA} {L3 C3:Nat} {dirs:List DirDef}
theorem c_World_dir {n:BA}{w:World}(hDB:DB.B<=w.heap.size)(hB:Blk w k 69 [.slice A4 L4 C4,.slice A L C,.slice A3 L3 C3])(hD:RDirDefs w A3 L3 C3 dirs)(few:dirs.length<=12):
  CP 74 #[.pointer (some (adr k)),.string n] w fun e w'=>∃ cs,e=.returned (.tuple #[.agg cs.toArray,.bool (dirG dirs n).2])/\RDirDef w' (dirG dirs n).1 cs/\EF w w':=by
 have x3:EF w (w.alloc (.cells #[.string ⟨#[]⟩,.string ⟨#[]⟩,.slice none 0 0,.slice none 0 0,.bool false] 112)):=(Ext.refl w).alloc _
 have hz3:=(Blk.made w 112 [.string ⟨#[]⟩,.string ⟨#[]⟩,.slice none 0 0,.slice none 0 0,.bool false]).lt
 refine q_World_dir (some (adr k)) n w _ ⟨trivial,fun w4 e4=>?_⟩
 have x4:EF w w4:=by rw [e4];exact x3.drew
 have hz4:w.heap.size<w4.heap.size:=Nat.lt_of_lt_of_le hz3 (by rw [e4];exact ((Ext.refl _).drew (X:=fun _=>False)).size)
 have a4:=(hB.ext x4 id).at (j:=2) rfl
 refine ⟨adr k,rfl,_,_,_,a4.cell,?_⟩
 refine (c_Prelude w w4 (Nat.le_trans hDB x4.size)).mono ?_
 rintro _ w8 ⟨D,T,L0,C0,k1,k2,k3,k4,k5,k6,k7,k8,rfl,x8,-, ⟨cells,oD,fD⟩,hbl,hge⟩
 have y8:=x4.then x8
 obtain ⟨A14,C14,w15,r15,⟨cells',o15,f15⟩,x15⟩:=app_full 23 112 Tryz.t112 _ 5 _ (by kernel_rfl) (by kernel_rfl) rfl (by kernel_rfl) rfl (by kernel_rfl) (by omega) (by decide) oD x8.size (by omega) fD (R:=RPre w (preCells k1 k2 k3 k4 k5 k6 k7 k8)) (SlL.keep y8.keep (by decide) hD fun _ _ _ h=>.inl h) (fun x cs h=>by
  obtain ⟨a,l,c,a',l',c',rfl⟩:=RPre.shape h
  rfl) (by have:=hD.len;omega) 23 #[false,false]
 have y15:=y8.then x15
 have bl15:=hbl.keep x15 fun _ _=>id
 have hlen:=hD.len
 have acc:Acc w4 w15 112 5 (RPre w (preCells k1 k2 k3 k4 k5 k6 k7 k8)) A14 (4+L3) C14 (preDirs++dirs):=⟨x8.then x15,by rw [List.length_append];simp [preDirs];omega,cells',o15,f15⟩
 refine ⟨_,_,_,_,_,_,_,_,_,_,_,_,_,_,_,rfl,⟨x8.keepT _,trivial⟩,⟨x8.cell_eq id a4.cell,trivial⟩,A14,4+L3,C14,w15,r15,⟨x15.keepT _,trivial⟩,trivial,fun i _ _ _ _ _ _ _ _ _ w1=>0<=i/\i<=((4+L3:Nat):Int)/\EF w15 w1/\firstN DirDef.name ((preDirs++dirs).take i.toNat) n=none,fun i _ _ _ _ _ _ _ _ _ _=>(((4+L3:Nat):Int)-i).toNat,⟨by omega,by omega,Ext.refl w15,by simp [firstN]⟩,?_⟩
 rintro i s19 s20 a21 l21 c21 a22 l22 c22 b23 w1 ⟨h0,hi,hx,hf1⟩
 have y1:=y15.then hx
 refine ⟨fun hlt=>?_,fun hge'=>?_⟩
 ·have hlt:=odt hlt
  obtain ⟨p,x,cs,hp,hxs,hr,hat⟩:=(acc.step hx).get h0 hlt
  obtain ⟨a,l,c,a',l',c',rfl⟩:=RPre.shape hr
  have y32:=y1.alloc (.cells #[.string x.doc,.string x.name,.slice a l c,.slice a' l' c',.bool x.rep] 112)
  have h32:=hx.alloc (.cells #[.string x.doc,.string x.name,.slice a l c,.slice a' l' c',.bool x.rep] 112)
  refine ⟨p,hp,⟨h0,hlt⟩,_,(hat 0 _ rfl).cell,_,(hat 1 _ rfl).cell,_,_,_,(hat 2 _ rfl).cell,_,_,_,(hat 3 _ rfl).cell,_,(hat 4 _ rfl).cell,trivial,trivial,fun he=>?_,fun hne=>?_⟩
  ·rw [dirG_some (show dirS dirs n=some x from firstN_hit hf1 hxs (bytes_beq_t.1 he))]
   have yE:=y32.setB (b:=w.heap.size) (.inr (Nat.le_refl _)) [.string x.doc,.string x.name,.slice a l c,.slice a' l' c',.bool x.rep] 112
   refine ⟨trivial,_,rfl,?_,yE⟩
   rcases hr with hr|hr
   ·exact hr.keep yE.keep
   ·refine pre_sound (fun y hy=>?_) _ hr
    have hs:Ext (fun b=>b=w.heap.size) _ (setB (w1.alloc (.cells #[.string x.doc,.string x.name,.slice a l c,.slice a' l' c',.bool x.rep] 112)) w.heap.size [.string x.doc,.string x.name,.slice a l c,.slice a' l' c',.bool x.rep] 112):=Ext.setB (X:=fun b=>b=w.heap.size) (Ext.refl _) (.inl rfl) _ _
    exact ((bl15 y hy).ext h32 id).ext hs fun e=>by
     have:=hge y hy
     have e':y.1=w.heap.size:=e
     omega
  ·rw [wrap_lt h0 (by omega)]
   exact next h0 hlt ⟨h32,firstN_take h0 hf1 hxs (bytes_beq_f.1 hne)⟩
 ·have hle:=odf hge'
  have hl4:(preDirs++dirs).length=4+L3:=by rw [List.length_append];simp [preDirs];omega
  rw [List.take_of_length_le (by omega)] at hf1
  rw [dirG_none (show dirS dirs n=none from hf1)]
  have yE:=y1.setB (b:=w.heap.size) (.inr (Nat.le_refl _)) [.string ⟨#[]⟩,.string ⟨#[]⟩,.slice none 0 0,.slice none 0 0,.bool false] 112
  exact ⟨trivial,trivial,_,rfl,⟨none,0,0,none,0,0,rfl,SlL.nil ..,SlL.nil ..⟩,yE⟩
variable {a:OA} {l c:Nat} {a':OA} {l' c':Nat} {ops:List OpD} {frags:List Frag} {w:World}
theorem c_World_NoDir (hDB:DB.B<=w.heap.size)(hB:Blk w k 69 [.slice A4 L4 C4,.slice A L C,.slice A3 L3 C3])(hD:RDirDefs w A3 L3 C3 dirs)(few:dirs.length<=12)(hl:ROps w a l c ops)(hl':RFrags w a' l' c' frags)(ok1:∀ x∈ops,okOp x)(ok2:∀ x∈frags,okFrag x)(hs:docW ops frags<=2097152):
  CP 28 #[.pointer (some (adr k)),.agg #[.slice a l c,.slice a' l' c']] w (RetB w fun b=>b=true↔∃ u∈usesD ops frags,∃ d∈u.1,dirS dirs d.name=none):=by
 have hx4:=(Ext.refl (X:=fun _=>False) w).alloc (.cells #[.slice a l c,.slice a' l' c'] 30)
 have hul:=Nat.le_trans (uses_len ops frags) hs
 refine q_World_NoDir (some (adr k)) a l c a' l' c' w _ ⟨trivial,?_⟩
 refine (c_uses hx4 hl hl' ok1 ok2 hs).mono ?_
 rintro _ w6 ⟨A7,L7,C7,rfl,ac⟩
 have hL7:=ac.2.1
 have y6:=hx4.then ac.1
 refine ⟨A7,L7,C7,rfl,⟨ac.1.keepT _,trivial⟩,fun i w1=>0<=i/\i<=L7/\EF w6 w1/\∀ u∈(usesD ops frags).take i.toNat,¬ ∃ d∈u.1,dirS dirs d.name=none,fun i _=>((L7:Int)-i).toNat,⟨by omega,by omega,Ext.refl w6,by simp⟩,?_⟩
 rintro i w1 ⟨h0,hi,hx,hn⟩
 refine ⟨fun hlt=>?_,fun hge=>?_⟩
 ·have hlt:=odt hlt
  obtain ⟨p,⟨ds,loc⟩,cs,hp,hus,hr,hat⟩:=(ac.step hx).get h0 hlt
  obtain ⟨b1,m1,d1,rfl,hds⟩:=hr
  obtain ⟨e1,e3⟩:=hds.len
  replace e1:m1=ds.length:=e1
  have hx16:=hx.alloc (.cells #[.slice b1 m1 d1,.string loc] 108)
  refine ⟨p,hp,⟨h0,hlt⟩,_,_,_,(hat 0 _ rfl).cell,_,(hat 1 _ rfl).cell,trivial,trivial,fun j w2=>0<=j/\j<=m1/\EF w6 w2/\∀ d∈ds.take j.toNat,¬ dirS dirs d.name=none,fun j _=>((m1:Int)-j).toNat,⟨by omega,by omega,hx16,by simp⟩,?_⟩
  rintro j w2 ⟨j0,hj,hy,hm⟩
  refine ⟨fun hjl=>?_,fun hjg=>?_⟩
  ·have hjl:=odt hjl
   obtain ⟨p2,d,hp2,hd,cs2,hc,b2,m2,d2,rfl,hargs⟩:=hds.get j0 hjl
   obtain ⟨⟨_,_,hc0⟩,hs0,⟨_,_,hc1⟩,-⟩:=hc
   have yy:=y6.then hy
   have y25:=hy.alloc (.cells #[.string d.name,.slice b2 m2 d2] 110)
   have yy25:=y6.then y25
   refine ⟨p2,hp2,⟨j0,hjl⟩,_,yy.cell hc0 id,_,_,_,yy.cell hc1 id,trivial,trivial,?_⟩
   refine (c_World_dir (n:=d.name) (Nat.le_trans hDB yy25.size) (hB.ext yy25 id) (hD.keep yy25.keep) few).mono ?_
   rintro _ w27 ⟨cs27,rfl,⟨a0,l0,c0,a1,l1,c1,rfl,-⟩,x27⟩
   have y35:=(y25.then x27).alloc (.cells #[.string (dirG dirs d.name).1.doc,.string (dirG dirs d.name).1.name,.slice a0 l0 c0,.slice a1 l1 c1,.bool (dirG dirs d.name).1.rep] 112)
   refine ⟨_,_,_,_,_,_,_,_,_,_,rfl,⟨x27.keepT _,x27.keepT _,x27.keepT _,trivial⟩,trivial,trivial,fun h=>?_,fun h=>?_⟩
   ·refine ⟨true,rfl,y6.then y35,fun _=>⟨_,List.mem_of_getElem? hus,d,List.mem_of_getElem? hd,?_⟩,fun _=>rfl⟩
    cases hS:dirS dirs d.name with
    | none=>rfl
    | some f=>rw [dirG_some hS] at h;cases h
   ·rw [wrap_lt j0 (by omega)]
    refine next j0 hjl ⟨y35,take_all_int j0 hm hd fun hno=>?_⟩
    rw [dirG_none hno] at h
    cases h
  ·have hall:=take_end e1 hjg hm
   rw [wrap_lt h0 (by omega)]
   exact next h0 hlt ⟨hy,take_all_int h0 hn hus fun ⟨d,hd,hno⟩=>hall d hd hno⟩
 ·have hall:=take_end hL7 hge hn
  exact ⟨false,rfl,y6.then hx,nofun,fun ⟨u,hu,hb⟩=>absurd hb (hall u hu)⟩
def onceN (dirs:List DirDef)(ds:List Dir):List BA:=(ds.filter fun d=>(dirG dirs d.name).2&& !(dirG dirs d.name).1.rep).map Dir.name
theorem c_World_DirsTwice (hDB:DB.B<=w.heap.size)(hB:Blk w k 69 [.slice A4 L4 C4,.slice A L C,.slice A3 L3 C3])(hD:RDirDefs w A3 L3 C3 dirs)(few:dirs.length<=12)(hl:ROps w a l c ops)(hl':RFrags w a' l' c' frags)(ok1:∀ x∈ops,okOp x)(ok2:∀ x∈frags,okFrag x)(hs:docW ops frags<=2097152):
  CP 30 #[.pointer (some (adr k)),.agg #[.slice a l c,.slice a' l' c']] w (RetB w fun b=>b=true↔∃ u∈usesD ops frags,¬ (nz (onceN dirs u.1)).Nodup):=by
 have hx4:=(Ext.refl (X:=fun _=>False) w).alloc (.cells #[.slice a l c,.slice a' l' c'] 30)
 have hul:=Nat.le_trans (uses_len ops frags) hs
 refine q_World_DirsTwice (some (adr k)) a l c a' l' c' w _ ⟨trivial,?_⟩
 refine (c_uses hx4 hl hl' ok1 ok2 hs).mono ?_
 rintro _ w6 ⟨A7,L7,C7,rfl,ac⟩
 have hL7:=ac.2.1
 have y6:=hx4.then ac.1
 refine ⟨A7,L7,C7,rfl,⟨ac.1.keepT _,trivial⟩,fun i w1=>0<=i/\i<=L7/\EF w6 w1/\∀ u∈(usesD ops frags).take i.toNat,¬ ¬ (nz (onceN dirs u.1)).Nodup,fun i _=>((L7:Int)-i).toNat,⟨by omega,by omega,Ext.refl w6,by simp⟩,?_⟩
 rintro i w1 ⟨h0,hi,hx,hn⟩
 refine ⟨fun hlt=>?_,fun hge=>?_⟩
 ·have hlt:=odt hlt
  obtain ⟨p,⟨ds,loc⟩,cs,hp,hus,hr,hat⟩:=(ac.step hx).get h0 hlt
  obtain ⟨b1,m1,d1,rfl,hds⟩:=hr
  obtain ⟨e1,e3⟩:=hds.len
  replace e1:m1=ds.length:=e1
  have hx16:=hx.alloc (.cells #[.slice b1 m1 d1,.string loc] 108)
  refine ⟨p,hp,⟨h0,hlt⟩,_,_,_,(hat 0 _ rfl).cell,_,(hat 1 _ rfl).cell,trivial,trivial,fun A L C j w2=>0<=j/\j<=m1/\EF w6 w2/\∃ cells,Own w6.heap.size w2 9 1 A L C cells/\Flat 1 RS (onceN dirs (ds.take j.toNat)) cells,fun _ _ _ j _=>((m1:Int)-j).toNat,⟨by omega,by omega,hx16,[],Own.nil ..,.nil⟩,?_⟩
  rintro A19 L19 C19 j w2 ⟨j0,hj,hy,cells,hown,hf⟩
  have hL19:=Flat.len hf
  have hoL:=hown.len
  have hfew:(onceN dirs (ds.take j.toNat)).length<=j.toNat:=by
   unfold onceN
   rw [List.length_map]
   exact Nat.le_trans (List.length_filter_le _ _) (by rw [List.length_take];exact Nat.min_le_left _ _)
  refine ⟨fun hjl=>fun K22 hK22=>?_,fun hjg=>?_⟩
  ·have hjl:=odt hjl
   obtain ⟨p2,d,hp2,hd,cs2,hc,b2,m2,d2,rfl,hargs⟩:=hds.get j0 hjl
   obtain ⟨⟨_,_,hc0⟩,hs0,⟨_,_,hc1⟩,-⟩:=hc
   have yy:=y6.then hy
   have h25:EF w2 (w2.alloc (.cells #[.string d.name,.slice b2 m2 d2] 110)):=(Ext.refl w2).alloc _
   have yy25:=yy.then h25
   have hsn:onceN dirs (ds.take (j+1).toNat)=onceN dirs (ds.take j.toNat)++if ((dirG dirs d.name).2&& !(dirG dirs d.name).1.rep)=true then [d.name] else []:=by
    rw [take_snoc' j0 hd]
    unfold onceN
    rw [List.filter_append,List.map_append]
    congr 1
    by_cases hq:((dirG dirs d.name).2&& !(dirG dirs d.name).1.rep)=true
    ·rw [if_pos hq];simp only [List.filter_cons,if_pos hq,List.filter_nil,List.map_cons,List.map_nil]
    ·rw [if_neg hq];simp only [List.filter_cons,if_neg hq,List.filter_nil,List.map_nil]
   have key22:∀ A L C w',EF w6 w'->(∃ cells,Own w6.heap.size w' 9 1 A L C cells/\Flat 1 RS (onceN dirs (ds.take (j+1).toNat)) cells)->K22 A L C w':=by
    intro A L C w' x' h'
    refine hK22 A L C w' ?_
    rw [wrap_lt j0 (by omega)]
    exact next j0 hjl ⟨x',h'⟩
   refine ⟨p2,hp2,⟨j0,hjl⟩,_,yy.cell hc0 id,_,_,_,yy.cell hc1 id,trivial,trivial,?_⟩
   refine (c_World_dir (n:=d.name) (Nat.le_trans hDB yy25.size) (hB.ext yy25 id) (hD.keep yy25.keep) few).mono ?_
   rintro _ w31 ⟨cs31,rfl,⟨a0,l0,c0,a1,l1,c1,rfl,-⟩,x31⟩
   have h39:=(h25.then x31).alloc (.cells #[.string (dirG dirs d.name).1.doc,.string (dirG dirs d.name).1.name,.slice a0 l0 c0,.slice a1 l1 c1,.bool (dirG dirs d.name).1.rep] 112)
   refine ⟨_,_,_,_,_,_,_,_,_,_,rfl,⟨x31.keepT _,x31.keepT _,x31.keepT _,trivial⟩,trivial,trivial,fun K40 hK40=>?_⟩
   have key40:∀ (b:Bool),b=((dirG dirs d.name).2&& !(dirG dirs d.name).1.rep)->K40 b _:=fun b hb=>hK40 b _ ⟨fun h=>⟨trivial,by
    obtain ⟨A2,C2,w45,r1,⟨cells2,o2,f2⟩,x2,k2⟩:=append_str (hown.keep h39 fun _ _=>id) (Nat.le_trans hy.size h39.size) hf (s:=d.name) hs0 (by omega)
    refine ⟨A2,L19+1,C2,w45,r1,⟨k2 _ (by decide),k2 _ (by decide),k2 _ (by decide),k2 _ (by decide),trivial⟩,key22 A2 (L19+1) C2 w45 ((hy.then h39).trans x2 fun b hb hbl=>?_) ⟨cells2,o2,?_⟩⟩
    ·have:=((hown.keep h39 fun _ _=>id).base b hbl).1
     omega
    ·rw [hsn,if_pos (hb▸h)]
     exact f2⟩,fun h=>key22 A19 L19 C19 _ (hy.then h39) ⟨cells,hown.keep h39 fun _ _=>id,by
    rw [hsn,if_neg (by rw [<- hb,h];simp),List.append_nil]
    exact hf⟩⟩
   exact ⟨fun h=>key40 _ (by rw [h];simp),fun h=>key40 _ (by rw [h];simp)⟩
  ·have hje:=odf hjg
   rw [List.take_of_length_le (by omega)] at hf hfew
   have hLm:L19<=4194304:=by
    have:=hown.len.1
    rw [hf.len] at this
    omega
   refine (c_twice (hown.sl hf (by omega) hLm)).mono ?_
   rintro _ w47 ⟨b48,rfl,x47,hb48⟩
   refine ⟨b48,rfl,⟨x47.keepT _,x47.keepT _,trivial⟩,fun h=>⟨true,rfl,(y6.then hy).then x47,fun _=>⟨_,List.mem_of_getElem? hus,hb48.1 h⟩,fun _=>rfl⟩,fun h=>?_⟩
   rw [wrap_lt h0 (by omega)]
   refine next h0 hlt ⟨hy.then x47,take_all_int h0 hn hus fun hbad=>?_⟩
   rw [hb48.2 hbad] at h
   cases h
 ·have hall:=take_end hL7 hge hn
  exact ⟨false,rfl,y6.then hx,nofun,fun ⟨u,hu,hb⟩=>absurd hb (hall u hu)⟩
end
def dirE (u:List Dir × BA)(e:Ev):Prop:=e=.dirs u.1∨∃ d∈u.1,e=.dir d u.2
section
variable {tys:List Def} {fs:List Frag} {cx:Option OpD} {e:Ev}
theorem dirE_ds {loc:BA}{ds:List Dir}(he:slot e=5∨slot e=6):e∈evDs cx loc ds↔dirE (ds,loc) e:=by
 unfold evDs dirE
 rw [List.mem_append,List.mem_flatMap]
 constructor
 ·rintro (⟨d,hd,h⟩|h)
  ·rcases List.mem_append.1 h with h|h
   ·have:=evArgs_slot e h;omega
   ·exact .inr ⟨d,hd,by simpa using h⟩
  ·exact .inl (by simpa using h)
 ·rintro (rfl|⟨d,hd,rfl⟩)
  ·exact .inr (by simp)
  ·exact .inl ⟨d,hd,List.mem_append.2 (.inr (by simp))⟩
theorem dirE_L (he:slot e=5∨slot e=6):∀ (ks:List Sel) (pd:Option Def),okSels ks->(e∈evL tys fs cx pd ks↔∃ u∈usL ks,dirE u e)
 | [],pd,_=>by simp [evL,usL]
 | .mk k al n on args dirs kids::l,pd,ok=>by
  simp only [okSels,okSel] at ok
  have ihl:=dirE_L he l pd ok.2
  have hA:e∉evArgs cx args:=fun h=>by have:=evArgs_slot e h;omega
  have hD:∀ loc,e∈evDs cx loc dirs↔dirE (dirs,loc) e:=fun loc=>dirE_ds he
  have hF:∀ s pd',e≠ .fld s pd':=fun s pd' h=>by subst h;simp [slot] at he
  have hI:∀ s pd',e≠ .inl s pd':=fun s pd' h=>by subst h;simp [slot] at he
  have hS:∀ n b pd',e≠ .spread n b pd':=fun n b pd' h=>by subst h;simp [slot] at he
  have key:e∈evS tys fs cx pd (.mk k al n on args dirs kids)↔∃ u∈usS (.mk k al n on args dirs kids),dirE u e:=by
   simp only [evS,usS,List.mem_cons,exists_eq_or_imp]
   by_cases hk0:k=0
   ·have ih:=dirE_L he kids (nextD tys pd n) ok.1.2.2.2.1
    rw [if_pos hk0,selLoc,if_pos hk0,List.mem_append,List.mem_append,List.mem_append,hD,ih]
    simp [hA,hF]
   ·by_cases hk1:k=1
    ·have hkk:=(ok.1.2.2.2.2.1 hk1).2
     subst hkk
     rw [if_neg hk0,if_pos hk1,selLoc,if_neg hk0,if_pos hk1,List.mem_append,hD]
     simp [hS,usL]
    ·have ih:=dirE_L he kids (inlD tys pd on) ok.1.2.2.2.1
     rw [if_neg hk0,if_neg hk1,selLoc,if_neg hk0,if_neg hk1,List.mem_append,List.mem_append,hD,ih]
     simp [hI]
  simp only [evL,usL,List.mem_append]
  rw [key,ihl]
  constructor
  ·rintro (⟨u,hu,h⟩|⟨u,hu,h⟩)
   ·exact ⟨u,.inl hu,h⟩
   ·exact ⟨u,.inr hu,h⟩
  ·rintro ⟨u,hu|hu,h⟩
   ·exact .inl ⟨u,hu,h⟩
   ·exact .inr ⟨u,hu,h⟩
theorem dirE_fr (he:slot e=5∨slot e=6){f:Frag}(ok:okFrag f):e∈evFr tys fs cx f↔∃ u∈usF f,dirE u e:=by
 unfold evFr usF
 rw [List.mem_append,dirE_ds he,dirE_L he _ _ ok.2.1]
 simp
end
theorem spLoc_op {k:BA}(h:okKind k):spLoc k=opLoc k:=by
 rcases h with rfl|rfl|rfl<;>decide
theorem dirE_op {c:WCtx}{x:OpD}{e:Ev}(he:slot e=5∨slot e=6)(ok:okOp x):e∈evOp c x↔∃ u∈usO x,dirE u e:=by
 have hV:e∈evVars (some x) x.vars↔∃ v∈x.vars,dirE (v.dirs,bVarLoc) e:=by
  unfold evVars
  rw [List.mem_append,List.mem_flatMap]
  constructor
  ·rintro (h|⟨v,hv,h⟩)
   ·obtain ⟨v,-, rfl⟩:=List.mem_map.1 h
    simp [slot] at he
   ·rcases List.mem_append.1 h with h|h
    ·have:=evDef_slot e h;omega
    ·exact ⟨v,hv,(dirE_ds he).1 h⟩
  ·rintro ⟨v,hv,h⟩
   exact .inr ⟨v,hv,List.mem_append.2 (.inr ((dirE_ds he).2 h))⟩
 have hO:e∉[Ev.op x]:=fun h=>by
  obtain rfl:e=.op x:=by simpa using h
  simp [slot] at he
 unfold evOp usO
 rw [List.mem_append,List.mem_append,List.mem_append,hV,dirE_ds he,dirE_L he _ _ ok.2.2.2,spLoc_op ok.1]
 constructor
 ·rintro (⟨v,hv,h⟩|h|⟨u,hu,h⟩|h)
  ·exact ⟨_,by simp only [List.mem_append,List.mem_map];exact .inl (.inr ⟨v,hv,rfl⟩),h⟩
  ·exact ⟨_,by simp,h⟩
  ·exact ⟨u,by simp [hu],h⟩
  ·exact absurd h hO
 ·rintro ⟨u,hu,h⟩
  simp only [List.mem_append,List.mem_map,List.mem_singleton] at hu
  rcases hu with (rfl|⟨v,hv,rfl⟩)|hu
  ·exact .inr (.inl h)
  ·exact .inl ⟨v,hv,h⟩
  ·exact .inr (.inr (.inl ⟨u,hu,h⟩))
theorem dirE_doc {c:WCtx}{e:Ev}(he:slot e=5∨slot e=6)(ok1:∀ x∈c.ops,okOp x)(ok2:∀ x∈c.frags,okFrag x):DocEv c e↔∃ u∈usesD c.ops c.frags,dirE u e:=by
 have hf:∀ n f,firstN Frag.name c.frags n=some f->∀ cx,e∈evFr c.types c.frags cx f->∃ u∈usesD c.ops c.frags,dirE u e:=fun n f h cx k=>by
  have hm:=(firstN_mem h).1
  obtain ⟨u,hu,hd⟩:=(dirE_fr he (ok2 f hm)).1 k
  exact ⟨u,List.mem_append.2 (.inr (List.mem_flatMap.2 ⟨f,hm,hu⟩)),hd⟩
 constructor
 ·rintro (⟨x,hx,h|⟨n,f,-, h1,h2⟩⟩|⟨f,hfm,(h|⟨n,g,-, h1,h2⟩)|rfl⟩)
  ·obtain ⟨u,hu,hd⟩:=(dirE_op he (ok1 x hx)).1 h
   exact ⟨u,List.mem_append.2 (.inl (List.mem_flatMap.2 ⟨x,hx,hu⟩)),hd⟩
  ·exact hf n f h1 _ h2
  ·obtain ⟨u,hu,hd⟩:=(dirE_fr he (ok2 f hfm)).1 h
   exact ⟨u,List.mem_append.2 (.inr (List.mem_flatMap.2 ⟨f,hfm,hu⟩)),hd⟩
  ·exact hf n g h1 _ h2
  ·simp [slot] at he
 ·rintro ⟨u,hu,hd⟩
  rcases List.mem_append.1 hu with hu|hu
  ·obtain ⟨x,hx,hu⟩:=List.mem_flatMap.1 hu
   exact .inl ⟨x,hx,.inl ((dirE_op he (ok1 x hx)).2 ⟨u,hu,hd⟩)⟩
  ·obtain ⟨f,hfm,hu⟩:=List.mem_flatMap.1 hu
   exact .inr ⟨f,hfm,.inl (.inl ((dirE_fr he (ok2 f hfm)).2 ⟨u,hu,hd⟩))⟩
theorem lastN_nodup {α:Type}{nm:α->BA}{l:List α}(h:(l.map nm).Nodup)(k:BA):lastN nm l k=firstN nm l k:=by
 cases hf:firstN nm l k with
 | none=>
  unfold lastN
  have:(l.filter fun d=>decide (nm d=k))=[]:=by
   rw [List.filter_eq_nil_iff]
   intro x hx he
   have:=List.find?_eq_none.1 hf x hx
   exact this he
  rw [this];rfl
 | some x=>
  obtain ⟨hx,hk⟩:=firstN_mem hf
  cases hl:lastN nm l k with
  | none=>
   unfold lastN at hl
   have:x∈(l.filter fun d=>decide (nm d=k)):=List.mem_filter.2 ⟨hx,by simpa using hk⟩
   rw [List.getLast?_eq_none_iff.1 hl] at this
   simp at this
  | some y=>
   have hy:=List.mem_of_getLast? hl
   obtain ⟨hy1,hy2⟩:=List.mem_filter.1 hy
   rw [nodup_map_inj h hy1 hx (by rw [hk];simpa using hy2)]
theorem wide_dir {types:List Def}{dirs:List DirDef}{defs:List SchemaDef}(h:OkSchema types dirs defs)(n:BA):lastN DirDef.name (preDirs++dirs) n=dirS dirs n:=by
 refine lastN_nodup ?_ n
 rw [List.map_append,List.nodup_append]
 refine ⟨by decide,h.marks.1,fun a ha b hb e=>?_⟩
 subst e
 obtain ⟨d,hd,rfl⟩:=List.mem_map.1 hb
 refine (h.okdirs d hd).1 ?_
 simp only [preDirs,List.map_cons,List.map_nil,List.mem_cons,List.not_mem_nil,or_false] at ha
 rcases ha with e|e|e|e
 ·rw [e];exact .tail _ (.head _)
 ·rw [e];exact .head _
 ·rw [e];exact .tail _ (.tail _ (.head _))
 ·rw [e];exact .tail _ (.tail _ (.tail _ (.head _)))
def twD (c:WCtx)(l:List Dir)(j:Nat):Prop:=∃ x,l[j]? =some x/\(∀ f,lastN DirDef.name c.dirs x.name=some f->f.rep=false)/\x.name∈(l.take j).map Dir.name
def badDt (c:WCtx):Ev->Prop
 | .dirs l=>∃ j,twD c l j
 | _=>False
section
variable {c:WCtx} {ae cnt:Nat} {bad:Ev->Prop} {l:List Ev} {w:World} {cx:Option OpD} {co:OA} {vm:Nat} {evs:List Value} {node:Value} {ev:Ev}
theorem c_Dt_1 (hVM:∀ b,b=cnt∨b=ae->¬ c.M b)(hbad:∀ e,bad e↔badDt c e)(hne:ae≠cnt)(hc:StK bad ae cnt l w)(hw:Wst c cx co vm evs w)(hk:slot ev=6)(hn:evNode c cx w node ev):
  CP 126 #[.pointer (some (adr c.wb)),node,.pointer (some (adr ae))] w fun e w'=>e=.returned (.tuple #[])/\Ext (fun b=>b=cnt∨b=ae) w w'/\StK bad ae cnt (l++[ev]) w':=by
 cases ev with
 | dirs ds=>
  obtain ⟨A,L,C,rfl,hps,hel⟩:=hn
  have hL:=hps.1
  have hL2:=hps.2.2.1
  have S4:=SMap.made w
  have x4:EF w (w.alloc (.map #[] 0)):=(Ext.refl w).alloc _
  have hlt4:=S4.lt
  have hae:=hc.1.lt
  have hcn:=hc.2.choose_spec.1.lt
  refine q_rules_UniqueDirectivesPerLocationRule_1 (some (adr c.wb)) A L C (adr ae) w _ ⟨fun i w1=>0<=i/\i<=L/\Ext (fun b=>b=cnt∨b=ae) w w1/\w.heap.size<w1.heap.size/\(∃ vs,VM w1 w.heap.size vs/\∀ n,n∈vs↔n∈(ds.take i.toNat).map Dir.name)/\InK bad ae cnt l i.toNat (∃ j,j<i.toNat/\twD c ds j) w1,fun i _=>((L:Int)-i).toNat,⟨by omega,by omega,x4.toM _,hlt4,⟨[],⟨[],S4,fun k=>⟨fun h=>by simp at h,fun _=>rfl⟩⟩,by simp⟩,InK.start (Cnt.ext hc x4 id id) (by simp)⟩,?_⟩
  rintro i w1 ⟨h0,hi,hx,hz1,⟨vs,hvm,hvs⟩,hin⟩
  refine ⟨fun hlt=>?_,fun hge=>?_⟩
  ·have hlt:=odt hlt
   have hj:i.toNat<ds.length:=by omega
   have hxs:ds[i.toNat]? =some ds[i.toNat]:=List.getElem?_eq_getElem hj
   generalize ds[i.toNat]=x at hxs
   obtain ⟨p,db,q,rfl,hpM,hpa,hpd,hq4,hq⟩:=hel i.toNat x hxs
   obtain ⟨A2,L2,C2,pos,hdM,hdB,-⟩:=hpd
   have k1:Wk c w w1:=Wk.ofExt hx fun b hb e=>hVM b e hb
   have kw:=hw.wk.trans k1
   have hq4':w1.cell? ⟨db,4,none⟩=some (.pointer q):=by
    rw [hx.cell_eq (a:=⟨db,4,none⟩) (fun e=>hVM _ e hdM) hq4,hq4]
   have nm:∀ w',Ext (fun b=>b=cnt∨b=ae) w1 w'->w'.cell? ⟨db,0,none⟩=some (.string x.name):=fun w' x'=>(kw.trans (Wk.ofExt x' fun b hb e=>hVM b e hb)).nd hdM hdB (j:=0) rfl rfl
   have htk:(ds.take (i+1).toNat).map Dir.name=(ds.take i.toNat).map Dir.name++[x.name]:=by
    rw [take_snoc' h0 hxs,List.map_append];rfl
   have hstep:(∃ j,j<(i+1).toNat/\twD c ds j)↔(∃ j,j<i.toNat/\twD c ds j)∨twD c ds i.toNat:=by
    constructor
    ·rintro ⟨j,hj,h⟩
     rcases Nat.lt_or_ge j i.toNat with h'|h'
     ·exact .inl ⟨j,h',h⟩
     ·obtain rfl:j=i.toNat:=by omega
      exact .inr h
    ·rintro (⟨j,hj,h⟩|h)
     ·exact ⟨j,by omega,h⟩
     ·exact ⟨_,by omega,h⟩
   have htw:twD c ds i.toNat↔(∀ f,lastN DirDef.name c.dirs x.name=some f->f.rep=false)/\x.name∈vs:=by
    unfold twD
    rw [hvs]
    constructor
    ·rintro ⟨y,hy,h1,h2⟩
     rw [hxs] at hy
     cases hy
     exact ⟨h1,h2⟩
    ·rintro ⟨h1,h2⟩
     exact ⟨x,hxs,h1,h2⟩
   refine ⟨p,rfl,⟨h0,hlt⟩,some (adr db),?_,fun K11 hK11=>fun K16 hK16=>?_⟩
   ·rw [Nat.mul_one]
    exact (kw.at (a:=p.add i.toNat) (by rw [add_block];exact hpM) hpa rfl).cell
   have key11:∀ w',Ext (fun b=>b=cnt∨b=ae) w1 w'->InK bad ae cnt l (i+1).toNat (∃ j,j<(i+1).toNat/\twD c ds j) w'->K11 w':=by
    intro w' x' c'
    have hvm':=hvm.ext x' fun e=>by
     have e:w.heap.size=cnt∨w.heap.size=ae:=e
     omega
    obtain ⟨w15,r15,v15,x15⟩:=hvm'.put x.name
    have hz15:=x15.size
    have hz':=x'.size
    refine hK11 w' ⟨adr db,rfl,x.name,nm w' x',w15,r15,trivial,?_⟩
    rw [wrap_lt h0 (by omega)]
    refine next h0 hlt ⟨(hx.trans x' fun _ _ e=>e).trans x15 fun b hb e=>?_,by omega,⟨_,v15,fun n=>?_⟩,Cnt.ext c' x15 (fun e=>?_) fun e=>?_⟩
    ·have e:b=w.heap.size:=e
     omega
    ·rw [htk,List.mem_append,List.mem_cons,hvs n,List.mem_singleton]
     exact Or.comm
    ·have e:ae=w.heap.size:=e
     omega
    ·have e:cnt=w.heap.size:=e
     omega
   have key16:∀ b:Bool,(b=true↔twD c ds i.toNat)->K16 b w1:=by
    intro b hb
    refine hK16 b w1 ⟨fun h=>?_,fun h=>key11 w1 (Ext.refl w1) (InK.good hin (by omega) ?_)⟩
    ·intro w19 e19
     have x19:EF w1 w19:=by rw [e19];exact (Ext.refl w1).drew
     have c19:=Cnt.ext hin x19 id id
     have a19:=(kw.trans (Wk.ofExt x19 fun _ _=>id)).at (a:=⟨db,2,none⟩) hdM (hdB.at (j:=2) rfl) rfl
     refine ⟨_,(c19.1.at (j:=0) rfl).cell,adr db,rfl,x.name,nm w19 (x19.toM _),adr db,rfl,pos,a19.cell,trivial,?_⟩
     refine tell c19 a19 hne ((Ext.refl w19).alloc _) rfl fun w' x' c'=>key11 w' ((x19.toM _).trans x' fun _ _ e=>e) (InK.told c' (by omega) ?_)
     exact hstep.2 (.inr (hb.1 h))
    ·rw [hstep]
     exact ⟨.inl,fun k=>k.resolve_right fun k=>by rw [hb.2 k] at h;cases h⟩
   obtain ⟨z,r,hz⟩:=hvm.look x.name
   refine ⟨adr db,rfl,q,hq4',fun hq0=>?_,fun hq0=>?_⟩
   ·cases hd:lastN DirDef.name c.dirs x.name with
    | none=>
     rw [hd] at hq
     rw [show q=none from hq] at hq0
     cases hq0
    | some f=>
     rw [hd] at hq htw
     obtain ⟨fb,rfl,_,_,_,_,_,_,_,hfM,hfB,-⟩:=hq
     refine ⟨adr db,rfl,_,hq4',adr fb,rfl,f.rep,kw.nd hfM hfB (j:=5) rfl rfl,fun hr=>?_,fun hr=>key16 false ⟨nofun,fun k=>?_⟩⟩
     ·refine ⟨adr db,rfl,x.name,nm w1 (Ext.refl w1),z,r,key16 z (hz.trans ⟨fun k=>htw.2 ⟨fun f' e=>?_,k⟩,fun k=>(htw.1 k).2⟩)⟩
      cases e
      simpa using hr
     ·have:=(htw.1 k).1 f rfl
      rw [this] at hr
      cases hr
   ·have hd:=hq.isNone.1 hq0
    refine ⟨adr db,rfl,x.name,nm w1 (Ext.refl w1),z,r,key16 z (hz.trans ⟨fun k=>htw.2 ⟨fun f e=>?_,k⟩,fun k=>(htw.1 k).2⟩)⟩
    rw [hd] at e
    cases e
  ·have hle:=odf hge
   refine ⟨rfl,hx,InK.stop hin (by omega) ?_⟩
   rw [hbad]
   constructor
   ·rintro ⟨j,-, h⟩
    exact ⟨j,h⟩
   ·rintro ⟨j,h⟩
    refine ⟨j,?_,h⟩
    obtain ⟨y,hy,-⟩:=h
    have:=(List.getElem?_eq_some_iff.1 hy).1
    omega
 | _=>cases hk
end
theorem snoc_ind {α:Type}{P:List α->Prop}(h0:P [])(h1:∀ xs x,P xs->P (xs++[x]))(l:List α):P l:=by
 have h:∀ r:List α,P r.reverse:=fun r=>by
  induction r with
  | nil=>exact h0
  | cons x r ih=>rw [List.reverse_cons];exact h1 _ _ ih
 have:=h l.reverse
 rwa [List.reverse_reverse] at this
theorem tw_iff {c:WCtx}{dirs:List DirDef}(hd:∀ n,lastN DirDef.name c.dirs n=dirS dirs n){ds:List Dir}(hk:∀ d∈ds,dirS dirs d.name≠none):(∃ j,twD c ds j)↔¬ (onceN dirs ds).Nodup:=by
 induction ds using snoc_ind with
 | h0=>simp [twD,onceN]
 | h1 ds d ih=>
  have ih:=ih fun d hd=>hk d (by simp [hd])
  have hon:onceN dirs (ds++[d])=onceN dirs ds++if ((dirG dirs d.name).2&& !(dirG dirs d.name).1.rep)=true then [d.name] else []:=by
   unfold onceN
   rw [List.filter_append,List.map_append]
   congr 1
   by_cases hq:((dirG dirs d.name).2&& !(dirG dirs d.name).1.rep)=true
   ·rw [if_pos hq];simp only [List.filter_cons,if_pos hq,List.filter_nil,List.map_cons,List.map_nil]
   ·rw [if_neg hq];simp only [List.filter_cons,if_neg hq,List.filter_nil,List.map_nil]
  obtain ⟨f,hf⟩:=Option.ne_none_iff_exists'.1 (hk d (by simp))
  rw [dirG_some hf] at hon
  have hpre:∀ j,j<ds.length->(twD c (ds++[d]) j↔twD c ds j):=fun j hj=>by
   unfold twD
   rw [List.getElem?_append_left hj,List.take_append_of_le_length (by omega)]
  have hlast:twD c (ds++[d]) ds.length↔f.rep=false/\d.name∈ds.map Dir.name:=by
   unfold twD
   rw [show (ds++[d])[ds.length]? =some d by simp,show (ds++[d]).take ds.length=ds by simp]
   constructor
   ·rintro ⟨x,hx,h1,h2⟩
    cases hx
    exact ⟨h1 f (by rw [hd,hf]),h2⟩
   ·rintro ⟨h1,h2⟩
    refine ⟨d,rfl,fun f' e=>?_,h2⟩
    rw [hd,hf] at e
    cases e
    exact h1
  have hsplit:(∃ j,twD c (ds++[d]) j)↔(∃ j,twD c ds j)∨(f.rep=false/\d.name∈ds.map Dir.name):=by
   constructor
   ·rintro ⟨j,h⟩
    rcases Nat.lt_or_ge j ds.length with hj|hj
    ·exact .inl ⟨j,(hpre j hj).1 h⟩
    ·have:j=ds.length:=by
      obtain ⟨x,hx,-⟩:=h
      have:=(List.getElem?_eq_some_iff.1 hx).1
      simp at this
      omega
     subst this
     exact .inr (hlast.1 h)
   ·rintro (⟨j,h⟩|h)
    ·have hj:j<ds.length:=by
      obtain ⟨x,hx,-⟩:=h
      exact (List.getElem?_eq_some_iff.1 hx).1
     exact ⟨j,(hpre j hj).2 h⟩
    ·exact ⟨_,hlast.2 h⟩
  rw [hsplit,ih,hon]
  cases hr:f.rep with
  | true=>simp
  | false=>
   have hmem:d.name∈onceN dirs ds↔d.name∈ds.map Dir.name:=by
    unfold onceN
    simp only [List.mem_map,List.mem_filter]
    constructor
    ·rintro ⟨y,⟨hy,-⟩,e⟩
     exact ⟨y,hy,e⟩
    ·rintro ⟨y,hy,e⟩
     exact ⟨y,⟨hy,by rw [e,dirG_some hf,hr];rfl⟩,e⟩
   rw [if_pos (by simp),nodup_snoc,hmem]
   constructor
   ·rintro (h|⟨-, h⟩) ⟨k1,k2⟩
    ·exact h k1
    ·exact k2 h
   ·intro h
    by_cases hin:d.name∈ds.map Dir.name
    ·exact .inr ⟨rfl,hin⟩
    ·exact .inl fun k=>h ⟨k,hin⟩
abbrev unkD (dirs:List DirDef)(ops:List OpD)(frags:List Frag):Prop:=∃ u∈usesD ops frags,∃ d∈u.1,dirS dirs d.name=none
abbrev twiceD (dirs:List DirDef)(ops:List OpD)(frags:List Frag):Prop:=∃ u∈usesD ops frags,¬ (nz (onceN dirs u.1)).Nodup
theorem nz_once {types:List Def}{dirs:List DirDef}{defs:List SchemaDef}(hO:OkSchema types dirs defs)(ds:List Dir):nz (onceN dirs ds)=onceN dirs ds:=by
 refine nz_all fun n hn=>?_
 obtain ⟨d,hd,rfl⟩:=List.mem_map.1 hn
 intro e
 have h1:=(List.mem_filter.1 hd).2
 rw [e] at h1
 have:dirS dirs E0=none:=by
  unfold dirS firstN
  rw [List.find?_eq_none]
  intro x hx he
  rcases List.mem_append.1 hx with hx|hx
  ·simp only [preDirs,List.mem_cons,List.not_mem_nil,or_false] at hx
   rcases hx with rfl|rfl|rfl|rfl<;>exact absurd he (by decide)
  ·exact (hO.marks.2 x.name (List.mem_map.2 ⟨x,hx,rfl⟩)).1 (by simpa using he)
 rw [dirG_none this] at h1
 cases h1
theorem dtRule (types:List Def)(dirs:List DirDef)(defs:List SchemaDef)(ops:List OpD)(frags:List Frag)(hO:OkSchema types dirs defs)(h12:ops.length<=12)(h12':frags.length<=12)(ok1:∀ x∈ops,okOp x)(ok2:∀ x∈frags,okFrag x)(hs:docW ops frags<=2097152)(hS:SoundD types (rootsOf types defs) ops frags)(hN:¬ unkD dirs ops frags):
  RuleOK 75 (wideD types dirs (rootsOf types defs)) ops frags fun n=>0<=n/\(n>0↔twiceD dirs ops frags):=by
 refine ⟨⟨_,Tryz.func75,by kernel_rfl⟩,?_⟩
 intro c cnt hops hfrags hwd hb hB hcnt hne hMc hMe
 subst hops
 subst hfrags
 obtain ⟨rf,hrf⟩:=acyclic_rf hS.ac
 have x3:EF c.w0 (c.w0.alloc (.cells #[.func (.func 102) #[] #[.pointer (some (adr cnt))]] 152)):=(Ext.refl c.w0).alloc _
 have Bae:=Blk.made c.w0 152 [.func (.func 102) #[] #[.pointer (some (adr cnt))]]
 refine q_rules_UniqueDirectivesPerLocationRule (some (adr c.eb)) _ c.w0 _ ⟨⟨rfl,trivial⟩,?_⟩
 have hlc:=hcnt.lt
 have hle:=hB.lt
 generalize hw3:c.w0.alloc (.cells #[.func (.func 102) #[] #[.pointer (some (adr cnt))]] 152)=w3
 replace x3:EF c.w0 w3:=by rw [<- hw3];exact x3
 replace Bae:Blk w3 c.w0.heap.size 152 [.func (.func 102) #[] #[.pointer (some (adr cnt))]]:=by rw [<- hw3];exact Bae
 clear hw3
 have hla:=Bae.lt
 refine (c_core_Events_OnDirectiveList (f:=.func (.func 126) #[] #[.pointer (some (adr c.w0.heap.size))]) rfl (hB.ext x3 id) rfl).mono ?_
 rintro _ w5 ⟨rfl,p,C,B5,ap,hpb,x5⟩
 have y5:Ext (fun b=>b=c.eb) c.w0 w5:=(x3.toM _).trans x5 fun _ _ e=>e
 have hz5:=x5.size
 have hz3:=x3.size
 have hae:c.w0.heap.size≠cnt:=by omega
 have Bae5:=Bae.ext x5 (by show ¬ c.w0.heap.size=c.eb;omega)
 have Bc5:=hcnt.ext y5 hne
 have hVM:∀ b,b=cnt∨b=c.w0.heap.size->¬ c.M b:=fun b hV hM=>by
  have:=hb.m b hM
  rcases hV with rfl|rfl
  ·exact hMc hM
  ·omega
 refine ⟨rfl,trivial,rfl,y5,fun b=>b=cnt∨b=c.w0.heap.size,StK (badDt c) c.w0.heap.size cnt,obL [(6,p,C)],rf,?_,fun b hb'=>?_,fun b hb' T cs fr ho=>?_,fun l w'' hl ht=>?_⟩
 ·refine rule_one hb hrf hMe y5 (fun b hb'=>hb'.imp id fun e=>by omega) hlc hne hMc hle (fun l w w'' h hx=>Cnt.ext h hx (fun e=>e (.inr rfl)) fun e=>e (.inl rfl)) (Cnt.zero Bae5 Bc5 (by simp)) B5 fun b5 wb fm fl j=>vis_all (fun x hx=>?_) j
  simp only [List.mem_cons,List.not_mem_nil,or_false] at hx
  subst hx
  refine ⟨_,_,[.pointer (some (adr c.w0.heap.size))],_,ap,fun h=>?_,fun h=>?_,Tryz.func126,by kernel_rfl,fun l w1 cx co vm evs node ev hl hw hk hn=>c_Dt_1 hVM (fun e=>Iff.rfl) hae hl hw hk hn⟩
  ·have:p.block<c.w0.heap.size:=hb.m _ h
   omega
  ·have:p.block=cnt∨p.block=c.w0.heap.size:=h
   omega
 ·rcases hb' with rfl|rfl
  ·exact .inr (Nat.le_refl _)
  ·exact .inr (by omega)
 ·rcases hb' with rfl|rfl
  ·rw [Bc5.type ho];decide
  ·rw [Bae5.type ho];decide
 ·obtain ⟨-, n,hn,hk⟩:=hl
  have hsm:=spN_few (c:={ c with V:=fun b=>b=cnt∨b=c.w0.heap.size,St:=StK (badDt c) c.w0.heap.size cnt,w0:=w5,rf:=rf}) (ob:=obL [(6,p,C)]) h12 h12' hs
  have hfew:=Nat.le_trans ht.few hsm
  obtain ⟨k1,k2,k3⟩:=hk (Nat.le_trans (Nat.mul_le_mul_right 4194304 hfew) (by decide))
  refine ⟨n,hn,k1,k3.trans ((ht.bad fun e hbad=>?_).trans ?_)⟩
  ·cases e with
   | dirs s=>rfl
   | _=>cases hbad
  ·have hd:∀ n,lastN DirDef.name c.dirs n=dirS dirs n:=fun n=>by
    rw [hwd.2.1]
    exact wide_dir hO n
   have hiff:∀ u∈usesD c.ops c.frags,((∃ j,twD c u.1 j)↔¬ (nz (onceN dirs u.1)).Nodup):=fun u hu=>by
    rw [nz_once hO]
    exact tw_iff hd fun d hdm h=>hN ⟨u,hu,d,hdm,h⟩
   constructor
   ·rintro ⟨e,hdoc,hbad⟩
    cases e with
    | dirs ds=>
     obtain ⟨u,hu,h|⟨d,-, h⟩⟩:=(dirE_doc (.inr rfl) ok1 ok2).1 hdoc
     ·cases h
      exact ⟨u,hu,(hiff u hu).1 hbad⟩
     ·cases h
    | _=>cases hbad
   ·rintro ⟨u,hu,h⟩
    exact ⟨.dirs u.1,(dirE_doc (.inr rfl) ok1 ok2).2 ⟨u,hu,.inl rfl⟩,(hiff u hu).2 h⟩
theorem c_impl_RUniqueDirectivesPerLocation {P:Int->Prop}{wd:WorldD}{a1:OA}{l1 c1:Nat}{a2:OA}{l2 c2:Nat}{a6:OA}{l6 c6:Nat}{a7:OA}{l7 c7:Nat}{q8:OA}{q8l q8c:Nat}{q9:OA}{q9l q9c:Nat}{ops:List OpD}{frags:List Frag}{w:World}
  (hw:RWorld w wd [.slice a1 l1 c1,.slice a2 l2 c2,.string wd.query,.string wd.mutation,.string wd.subscription,.slice a6 l6 c6,.slice a7 l7 c7]) (ok3:∀ x∈wd.dirs,∀ y∈x.args,okArgDef y) (ok4:∀ x∈wd.types,okDef x)
  (few6:(pushD wd.types wd.possible).length<=4194304) (few7:(pushD wd.types wd.implements).length<=4194304) (hl1:ROps w q8 q8l q8c ops) (hl2:RFrags w q9 q9l q9c frags) (ok1:∀ x∈ops,okOp x) (ok2:∀ x∈frags,okFrag x) (hr:RuleOK 75 wd ops frags P) (hB0:DB.B<=w.heap.size):
  CP 29 #[.agg #[.slice a1 l1 c1,.slice a2 l2 c2,.string wd.query,.string wd.mutation,.string wd.subscription,.slice a6 l6 c6,.slice a7 l7 c7],.agg #[.slice q8 q8l q8c,.slice q9 q9l q9c]] w fun e w'=>
   ∃ n,e=.returned (.tuple #[.int .i64 n,.bool true])/\P n/\EF w w':=by
 have x11:EF w (w.alloc (.cells #[.slice a1 l1 c1,.slice a2 l2 c2,.string wd.query,.string wd.mutation,.string wd.subscription,.slice a6 l6 c6,.slice a7 l7 c7] 40)):=(Ext.refl w).alloc _
 have x12:=x11.alloc (.cells #[.slice q8 q8l q8c,.slice q9 q9l q9c] 30)
 refine q_impl_RUniqueDirectivesPerLocation a1 l1 c1 a2 l2 c2 wd.query wd.mutation wd.subscription a6 l6 c6 a7 l7 c7 q8 q8l q8c q9 q9l q9c w _ ⟨trivial,trivial,?_⟩
 refine (c_impl_found (RWorld.keep x12.keep hw) ok3 ok4 few6 few7 (hl1.keep x12.keep) (hl2.keep x12.keep) ok1 ok2 hr (Nat.le_trans hB0 x12.size)).mono ?_
 rintro _ w' ⟨n,rfl,hp,hx⟩
 exact ⟨n,true,rfl,⟨hx.keepT _,hx.keepT _,trivial⟩,n,rfl,hp,x12.then hx⟩
theorem c_FnRuleDirsTwice
  {d1:OA} {d1l d1c:Nat} {d2:OA} {d2l d2c:Nat} {d3:OA} {d3l d3c:Nat} {d4:OA} {d4l d4c:Nat} {d5:OA} {d5l d5c:Nat} {q6:OA} {q6l q6c:Nat} {q7:OA} {q7l q7c:Nat} {defs exts:List SchemaDef} {dirs:List DirDef} {types texts:List Def} {ops:List OpD} {frags:List Frag} {w:World}
  (h1:RSchemaDefs w d1 d1l d1c defs) (h2:RSchemaDefs w d2 d2l d2c exts) (h3:RDirDefs w d3 d3l d3c dirs) (h4:RDefs w d4 d4l d4c types) (h5:RDefs w d5 d5l d5c texts) (hs:d1l+d2l<=4194304) (hsp:docW ops frags<=2097152) (h6:ROps w q6 q6l q6c ops) (h7:RFrags w q7 q7l q7c frags) (hB0:DB.B<=w.heap.size):
  CP 8 #[.agg #[.slice d1 d1l d1c,.slice d2 d2l d2c,.slice d3 d3l d3c,.slice d4 d4l d4c,.slice d5 d5l d5c],.agg #[.slice q6 q6l q6c,.slice q7 q7l q7c]] w fun e w'=>e=.returned (.bool true)/\EF w w':=by
 have x8:EF w (w.alloc (.cells #[.slice d1 d1l d1c,.slice d2 d2l d2c,.slice d3 d3l d3c,.slice d4 d4l d4c,.slice d5 d5l d5c] 26)):=(Ext.refl w).alloc _
 have x9:=x8.alloc (.cells #[.slice q6 q6l q6c,.slice q7 q7l q7c] 30)
 refine q_laws_FnRuleDirsTwice d1 d1l d1c d2 d2l d2c d3 d3l d3c d4 d4l d4c d5 d5l d5c q6 q6l q6c q7 q7l q7c w _ ⟨trivial,trivial,fun K10 hK10=>?_⟩
 have key10:∀ b w',EF w w'->K10 b w':=by
  intro b w' xw
  refine hK10 b w' ⟨fun _=>⟨rfl,xw⟩,fun _=>?_⟩
  refine (c_Build (h1.keep xw.keep) (h2.keep xw.keep) (h3.keep xw.keep) (h4.keep xw.keep) (h5.keep xw.keep) hs (Nat.le_trans hB0 xw.size)).mono ?_
  rintro _ w14 ⟨q15,b16,rfl,x14,hok⟩
  refine ⟨q15,b16,rfl,⟨x14.keepT _,x14.keepT _,trivial⟩,fun K17 hK17=>?_⟩
  have y14:=xw.then x14
  have key17:∀ b w',EF w14 w'->(b=false->b16=true/\ops.length<=12/\frags.length<=12/\(∀ x∈ops,okOp x)/\(∀ x∈frags,okFrag x)/\SoundD types (rootsOf types defs) ops frags/\¬ unkD dirs ops frags)->K17 b w':=by
   intro b w19 x19 hb
   have y19:=y14.then x19
   refine hK17 b w19 ⟨fun _=>⟨rfl,y19⟩,fun hbf=>?_⟩
   obtain ⟨hb16,n1,n2,ok1,ok2,hS,hP⟩:=hb hbf
   obtain ⟨k,rfl,A,L,C,hB,hR,hO⟩:=hok hb16
   intro w20 e20
   have x20:EF w19 w20:=by rw [e20];exact (Ext.refl w19).drew
   have y20:=y19.then x20
   have z20:=x19.then x20
   refine (c_World_Wide (hB.ext z20 id) (h4.keep y20.keep) (hR.keep z20.keep) (h3.keep y20.keep) hO.few.1 (fun t ht=>by have:=hO.small t ht;omega) hO.few.2 (Nat.le_trans hB0 y20.size)).mono ?_
   rintro _ w22 ⟨cs,rfl,hW,x22⟩
   obtain ⟨ok3,ok4,few6,few7⟩:=wide_ok hO
   have hW':=hW
   obtain ⟨a1,l1,c1,a2,l2,c2,a6,l6,c6,a7,l7,c7,rfl,-⟩:=hW'
   have y22:=y20.then x22
   refine ⟨a1,l1,c1,a2,l2,c2,_,_,_,a6,l6,c6,a7,l7,c7,rfl,⟨x22.keepT _,x22.keepT _,trivial⟩,⟨rfl,trivial⟩,?_⟩
   refine (c_impl_RUniqueDirectivesPerLocation hW ok3 ok4 few6 few7 (h6.keep y22.keep) (h7.keep y22.keep) ok1 ok2 (dtRule types dirs defs ops frags hO n1 n2 ok1 ok2 hsp hS hP) (Nat.le_trans hB0 y22.size)).mono ?_
   rintro _ w31 ⟨n,rfl,⟨hn0,hn⟩,x31⟩
   have y31:=y22.then x31
   refine ⟨n,true,rfl,⟨x31.keepT _,x31.keepT _,trivial⟩,trivial,trivial,trivial,?_⟩
   have z31:=(z20.then x22).then x31
   refine (c_World_DirsTwice (Nat.le_trans hB0 y31.size) (hB.ext z31 id) (h3.keep y31.keep) hO.few.2 (h6.keep y31.keep) (h7.keep y31.keep) ok1 ok2 hsp).mono ?_
   rintro _ w35 ⟨b36,rfl,x35,hb36⟩
   have y35:=y31.then x35
   refine ⟨b36,rfl,⟨x35.keepT _,x35.keepT _,trivial⟩,?_⟩
   refine (c_laws_told n true b36 w35).mono ?_
   rintro _ w38 ⟨rfl,rfl⟩
   refine ⟨_,rfl,⟨(Ext.refl _).keepT _,(Ext.refl _).keepT _,trivial⟩,?_,y35⟩
   rw [told_true hn0 (hn.trans hb36.symm)]
  refine ⟨fun hb=>?_,fun hb=>key17 true w14 (Ext.refl w14) nofun⟩
  refine (c_Small (h6.keep y14.keep) (h7.keep y14.keep)).mono ?_
  rintro _ w41 ⟨b42,rfl,x41,hsm⟩
  have y41:=y14.then x41
  refine ⟨b42,rfl,⟨x41.keepT _,x41.keepT _,trivial⟩,fun h42=>?_,fun _=>key17 true w41 x41 nofun⟩
  obtain ⟨n1,n2,ok1,ok2⟩:=hsm (by simpa using h42)
  obtain ⟨k,rfl,A,L,C,hB,hR,hO⟩:=hok (by simpa using hb)
  refine (c_World_Sound (hB.ext x41 id) (h4.keep y41.keep) (hR.keep x41.keep) (h6.keep y41.keep) (h7.keep y41.keep) ok1 ok2 n2 hsp).mono ?_
  rintro _ w53 ⟨b54,rfl,x53,hS⟩
  have z53:=x41.then x53
  have y53:=y41.then x53
  refine ⟨b54,rfl,⟨x53.keepT _,x53.keepT _,trivial⟩,fun h54=>?_,fun _=>key17 true w53 z53 nofun⟩
  have hS':=hS (by simpa using h54)
  refine (c_World_NoDir (Nat.le_trans hB0 y53.size) (hB.ext z53 id) (h3.keep y53.keep) hO.few.2 (h6.keep y53.keep) (h7.keep y53.keep) ok1 ok2 hsp).mono ?_
  rintro _ w56 ⟨b57,rfl,x56,hP⟩
  exact ⟨b57,rfl,⟨x56.keepT _,x56.keepT _,trivial⟩,key17 _ w56 (z53.then x56) fun h=>⟨by simpa using hb,n1,n2,ok1,ok2,hS',fun k=>by rw [hP.2 k] at h;cases h⟩⟩
 refine (c_laws_zzFits20 d1 d1l d1c d2 d2l d2c d3 d3l d3c d4 d4l d4c d5 d5l d5c _).mono ?_
 rintro _ w44 ⟨b45,rfl,x44,-⟩
 have y44:=x9.then x44
 refine ⟨b45,rfl,⟨x44.keepT _,x44.keepT _,trivial⟩,fun _=>?_,fun _=>key10 true w44 y44⟩
 refine (c_laws_zzFits21 q6 q6l q6c q7 q7l q7c _).mono ?_
 rintro _ w47 ⟨b48,rfl,x47,-⟩
 exact ⟨b48,rfl,⟨x47.keepT _,x47.keepT _,trivial⟩,key10 _ w47 (y44.then x47)⟩
end Go.VC
