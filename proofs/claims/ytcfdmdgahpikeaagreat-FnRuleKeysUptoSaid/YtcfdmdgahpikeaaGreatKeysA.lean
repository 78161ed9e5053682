/- Part of the proof of a law of a rule over documents (KeysA), where what the arguments hold is of bulk at most 1048576. -/
import Derived.Test.YtcfdmdgahpikeaaGreatBaseB
import Derived.Test.YtcfdmdgahpikeaaGreatWalkD
import Derived.Test.YtcfdmdgahpikeaaGreatLawA
import Derived.Test.YtcfdmdgahpikeaaGreatReadA
set_option linter.unusedVariables false
set_option linter.unusedSimpArgs false
set_option linter.unusedSectionVars false
set_option linter.deprecated false
namespace Go.VC
open Go Go.Proofs
set_option maxRecDepth 100000
theorem q_rules_UniqueInputFieldNamesRule (a:OA)(b:Value)(w:World)(R:EW)(h:
 (b.oneCell'=true/\True)/\(let c:=w.alloc (.cells #[b] 130);
 C0 95 #[.pointer a,(.func (.func 96) #[] #[(.pointer (some (adr w.heap.size)))])] c (fun d=>True/\R (.returned (.tuple #[])) d))):CP 51 #[.pointer a,b] w R:=
 vcq Tryz.func51 [] [] [.l (.optr a),.l (.val b)] h
theorem q_rules_UniqueInputFieldNamesRule_1 (a:OA)(b:OA)(c:Addr)(w:World)(R:EW)(h:
 Pt b fun d=>Li w (d.add 2) fun e=>(Br (e !=9) (R (.returned (.tuple #[])) w) (let f:=w.alloc (.map #[] 0);
 Pt b fun g=>Ll f (g.add 1) fun i j k=>∃ (l:Int->World->Prop) (m:Int->World->Nat),l 0 f/\
 (∀ n:Int,∀ o:World,l n o->
 (Br (decide (n<(j:Int))) (Ix i n j fun p=>Lp o (p.add (n.toNat*1)) fun q=>∀ r:World->Prop,(∀ s:World,
 (Pt q fun t=>Ls s t fun u=>∃ v,(Instr.mapUpdate 151 (.map (some w.heap.size)) (.string u) (.bool true)).run Tryz.prog s=.ok () v/\True/\(l (IntKind.i64.wrap (n+1)) v/\m (IntKind.i64.wrap (n+1)) v<m n o))->
 r s)->
 Pt q fun x=>Ls o x fun y=>∃ z,(Instr.lookup 151 (.map (some w.heap.size)) (.string y) false).run Tryz.prog o=.ok (.bool z) o/\(Br z (∀ A,A=o.drew->Lv A c fun B=>Pt q fun C=>Ls A C fun D=>Pt q fun E=>Lp A (E.add 2) fun F=>True/\(let G:=A.alloc (.cells #[(ifcV (some (9,(.string D))))] 20);
 ((G.cell? (E.add 2)=A.cell? (E.add 2))/\(G.cell? c=A.cell? c)/\True)/\CP 73 #[(.string (⟨#[84,104,101,114,101,32,99,97,110,32,98,101,32,111,110,108,121,32,111,110,101,32,105,110,112,117,116,32,102,105,101,108,100,32,110,97,109,101,100,32,34,37,115,34,46]⟩:BA)),(.slice (some (adr A.heap.size)) 1 1)] G (fun H I=>∃ J:Value,H=.returned J/\True/\((I.cell? (E.add 2)=G.cell? (E.add 2))/\(I.cell? c=G.cell? c)/\True)/\CP 74 #[.pointer F] I (fun K L=>∃ M:Value,K=.returned M/\True/\((L.cell? c=I.cell? c)/\True)/\(J.oneCell'=true/\M.oneCell'=true/\True)/\(let N:=L.alloc (.cells #[J,M] 156);
 ((N.cell? c=L.cell? c)/\True)/\∃ O P,B=.func (.func O) #[] P.toArray/\∃ Q,Tryz.prog.funcs[O]? =some Q/\(Q.name== "runtime.NumGoroutine" ||Q.body.isNone)=false/\CP O ([(.slice (some (adr L.heap.size)) 2 2)]++P).toArray N (fun S U=>S=.returned (.tuple #[])/\True/\True/\r U)))))) (r o))) (R (.returned (.tuple #[])) o)))))):CP 96 #[.pointer a,.pointer b,(.pointer (some c))] w R:=
 vcq Tryz.func96 [] [(11,⟨[(19,.int .i64)],[]⟩),(22,⟨[],[]⟩)] [.l (.optr a),.l (.optr b),.l (.ptr c)] h
theorem q_impl_RUniqueInputFieldNames (a:OA)(b c:Nat)(d:OA)(e f:Nat)(g:BA)(i:BA)(j:BA)(k:OA)(l m:Nat)(n:OA)(o p:Nat)(q:OA)(r s:Nat)(t:OA)(u v:Nat)(w:World)(R:EW)(h:
 True/\(let x:=w.alloc (.cells #[.slice a b c,.slice d e f,.string g,.string i,.string j,.slice k l m,.slice n o p] 40);
 True/\(let y:=x.alloc (.cells #[.slice q r s,.slice t u v] 30);
 CP 33 #[(.agg #[.slice a b c,.slice d e f,.string g,.string i,.string j,.slice k l m,.slice n o p]),(.agg #[.slice q r s,.slice t u v]),(.func (.func 51) #[] #[])] y (fun z A=>∃ B,∃ C,z=.returned (.tuple #[.int .i64 B,.bool C])/\(KeepT 40 y A/\KeepT 30 y A/\True)/\R (.returned (.tuple #[.int .i64 B,.bool C])) A)))):CP 25 #[(.agg #[.slice a b c,.slice d e f,.string g,.string i,.string j,.slice k l m,.slice n o p]),(.agg #[.slice q r s,.slice t u v])] w R:=
 vcq Tryz.func25 [2,3] [] [.agg [.slice a b c,.slice d e f,.str g,.str i,.str j,.slice k l m,.slice n o p],.agg [.slice q r s,.slice t u v]] h
theorem q_KeysTwice (a:OA)(b c:Nat)(d:OA)(e f:Nat)(w:World)(R:EW)(h:
 True/\(let g:=w.alloc (.cells #[.slice a b c,.slice d e f] 30);
 Cl 48 #[(.agg #[.slice a b c,.slice d e f])] g (fun i j k l=>(KeepT 30 g l/\True)/\∃ (m:Int->World->Prop) (n:Int->World->Nat),m 0 l/\
 (∀ o:Int,∀ p:World,m o p->
 (Br (decide (o<(j:Int))) (Ix i o j fun q=>Ll p (q.add (o.toNat*1)) fun r s t=>∃ (u:Int->World->Prop) (v:Int->World->Nat),u 0 p/\
 (∀ x:Int,∀ y:World,u x y->
 (Br (decide (x<(s:Int))) (Ix r x s fun z=>L_sisl y (z.add (x.toNat*4)) fun A B C D E F=>True/\(let G:=y.alloc (.cells #[(.string (⟨#[]⟩:BA)),.int .i64 0,(.string (⟨#[]⟩:BA)),.slice none 0 0] 90);
 True/\(let H:=y.alloc (.cells #[.string A,.int .i64 B,.string C,.slice D E F] 90);
 Cb 52 #[(.agg #[.int .i64 B,.string C,.slice D E F])] H (fun I J=>(KeepT 30 H J/\KeepT 90 H J/\True)/\(Br I (R (.returned (.bool true)) J) ((u (IntKind.i64.wrap (x+1)) J/\v (IntKind.i64.wrap (x+1)) J<v x y))))))) ((m (IntKind.i64.wrap (o+1)) y/\n (IntKind.i64.wrap (o+1)) y<n o p))))) (∃ (K:Int->World->Prop) (L:Int->World->Nat),K 0 p/\
 (∀ M:Int,∀ N:World,K M N->
 (Br (decide (M<(b:Int))) (Ix a M b fun O=>L_sslll N (O.add (M.toNat*5)) fun P Q S U V W X Y Z aa ab=>True/\(let ac:=N.alloc (.cells #[(.string (⟨#[]⟩:BA)),(.string (⟨#[]⟩:BA)),.slice none 0 0,.slice none 0 0,.slice none 0 0] 50);
 True/\(let ad:=N.alloc (.cells #[.string P,.string Q,.slice S U V,.slice W X Y,.slice Z aa ab] 50);
 ∃ (ae:Int->World->Prop) (af:Int->World->Nat),ae 0 ad/\
 (∀ ag:Int,∀ ah:World,ae ag ah->
 (Br (decide (ag<(U:Int))) (Ix S ag U fun ai=>Ls ah (ai.add (ag.toNat*6)) fun aj=>Ls ah ((ai.add (ag.toNat*6)).add 1) fun ak=>Ll ah ((ai.add (ag.toNat*6)).add 2) fun al am an=>Lb ah ((ai.add (ag.toNat*6)).add 3) fun ao=>Ll ah ((ai.add (ag.toNat*6)).add 4) fun ap aq ar=>Ll ah ((ai.add (ag.toNat*6)).add 5) fun au av ax=>True/\(let ay:=ah.alloc (.cells #[(.string (⟨#[]⟩:BA)),(.string (⟨#[]⟩:BA)),.slice none 0 0,.bool false,.slice none 0 0,.slice none 0 0] 58);
 True/\(let az:=ah.alloc (.cells #[.string aj,.string ak,.slice al am an,.bool ao,.slice ap aq ar,.slice au av ax] 58);
 ∃ (aA:Int->World->Prop) (aB:Int->World->Nat),aA 0 az/\
 (∀ aC:Int,∀ aD:World,aA aC aD->
 (Br (decide (aC<(aq:Int))) (Ix ap aC aq fun aE=>L_isl aD (aE.add (aC.toNat*3)) fun aF aG aH aI aJ=>True/\(let aK:=aD.alloc (.cells #[.int .i64 0,(.string (⟨#[]⟩:BA)),.slice none 0 0] 88);
 True/\(let aL:=aD.alloc (.cells #[.int .i64 aF,.string aG,.slice aH aI aJ] 88);
 Cb 52 #[(.agg #[.int .i64 aF,.string aG,.slice aH aI aJ])] aL (fun aM aN=>(KeepT 30 aL aN/\KeepT 50 aL aN/\KeepT 58 aL aN/\KeepT 88 aL aN/\True)/\(Br aM (R (.returned (.bool true)) aN) ((aA (IntKind.i64.wrap (aC+1)) aN/\aB (IntKind.i64.wrap (aC+1)) aN<aB aC aD))))))) ((ae (IntKind.i64.wrap (ag+1)) aD/\af (IntKind.i64.wrap (ag+1)) aD<af ag ah))))))) ((K (IntKind.i64.wrap (M+1)) ah/\L (IntKind.i64.wrap (M+1)) ah<L M N))))))) (R (.returned (.bool false)) N))))))))):CP 26 #[(.agg #[.slice a b c,.slice d e f])] w R:=
 vcq Tryz.func26 [1,6,8,10,12] [(6,⟨[(16,.int .i64)],[]⟩),(20,⟨[(22,.int .i64)],[]⟩),(44,⟨[(34,.int .i64)],[]⟩),(58,⟨[(41,.int .i64)],[]⟩),(72,⟨[(48,.int .i64)],[]⟩)] [.agg [.slice a b c,.slice d e f]] h
theorem q_keysTwice (a:Int)(b:BA)(c:OA)(d e:Nat)(w:World)(R:EW)(h:
 True/\(let f:=w.alloc (.cells #[.int .i64 a,.string b,.slice c d e] 88);
 ∃ (g:OA->Nat->Nat->Int->World->Prop) (i:OA->Nat->Nat->Int->World->Nat),g none 0 0 0 f/\
 (∀ (j:OA) (k l:Nat),∀ m:Int,∀ n:World,g j k l m n->
 (Br (decide (m<(d:Int))) (Ix c m d fun o=>L_sisl n (o.add (m.toNat*4)) fun p q r s t u=>True/\(let v:=n.alloc (.cells #[(.string (⟨#[]⟩:BA)),.int .i64 0,(.string (⟨#[]⟩:BA)),.slice none 0 0] 217);
 True/\(let x:=n.alloc (.cells #[.string p,.int .i64 q,.string r,.slice s t u] 217);
 True/\(let y:=x.alloc (.cells #[.string p] 9);
 ∃ z A B,∃ C,(Go.builtin .append #[70,70] 70 #[false,false] #[.slice j k l,(.slice (some (adr x.heap.size)) 1 1)]).run Tryz.prog y=.ok (.value (.slice z A B)) C/\(KeepT 88 y C/\KeepT 217 y C/\True)/\Cb 52 #[(.agg #[.int .i64 q,.string r,.slice s t u])] C (fun D E=>(KeepT 88 C E/\KeepT 217 C E/\True)/\(Br D (R (.returned (.bool true)) E) ((g z A B (IntKind.i64.wrap (m+1)) E/\i z A B (IntKind.i64.wrap (m+1)) E<i j k l m n)))))))) (∀ F:Bool->World->Prop,(∀ G:Bool,∀ H:World,
 (R (.returned (.bool G)) H)->
 F G H)->
 (Br (a==9) (Cb 49 #[.slice j k l] n (fun I J=>(KeepT 88 n J/\True)/\F I J)) (F false n))))))):CP 52 #[(.agg #[.int .i64 a,.string b,.slice c d e])] w R:=
 vcq Tryz.func52 [1,5] [(8,⟨[(3,.slice),(9,.int .i64)],[]⟩),(29,⟨[(2,.bool)],[]⟩)] [.agg [.int .i64 a,.str b,.slice c d e]] h
theorem q_laws_FnRuleKeys (a:OA)(b c:Nat)(d:OA)(e f:Nat)(g:OA)(i j:Nat)(k:OA)(l m:Nat)(n:OA)(o p:Nat)(q:OA)(r s:Nat)(t:OA)(u v:Nat)(w:World)(R:EW)(h:
 True/\(let x:=w.alloc (.cells #[.slice a b c,.slice d e f,.slice g i j,.slice k l m,.slice n o p] 26);
 True/\(let y:=x.alloc (.cells #[.slice q r s,.slice t u v] 30);
 ∀ z:Bool->World->Prop,(∀ A:Bool,∀ B:World,
 ((Br A (R (.returned (.bool true)) B) (CP 11 #[(.agg #[.slice a b c,.slice d e f,.slice g i j,.slice k l m,.slice n o p])] B (fun C D=>∃ E,∃ F,C=.returned (.tuple #[.pointer E,.bool F])/\(KeepT 26 B D/\KeepT 30 B D/\True)/\∀ G:Bool->World->Prop,(∀ H:Bool,∀ I:World,
 ((Br H (R (.returned (.bool true)) I) (∀ J,J=I.drew->CP 14 #[.pointer E] J (fun K L=>∃ M N O,∃ P Q S,∃ U,∃ V,∃ W,∃ X Y Z,∃ aa ab ac,K=.returned (.agg #[.slice M N O,.slice P Q S,.string U,.string V,.string W,.slice X Y Z,.slice aa ab ac])/\(KeepT 26 J L/\KeepT 30 J L/\True)/\((0=0)/\True)/\CP 25 #[(.agg #[.slice M N O,.slice P Q S,.string U,.string V,.string W,.slice X Y Z,.slice aa ab ac]),(.agg #[.slice q r s,.slice t u v])] L (fun ad ae=>∃ af,∃ ag,ad=.returned (.tuple #[.int .i64 af,.bool ag])/\(KeepT 26 L ae/\KeepT 30 L ae/\True)/\True/\True/\True/\Cb 26 #[(.agg #[.slice q r s,.slice t u v])] ae (fun ah ai=>(KeepT 26 ae ai/\KeepT 30 ae ai/\True)/\Cb 15 #[.int .i64 af,.bool ag,.bool ah] ai (fun aj ak=>(KeepT 26 ai ak/\KeepT 30 ai ak/\True)/\R (.returned (.bool aj)) ak)))))))->
 G H I)->
 (Nr (!F) (Cb 12 #[(.agg #[.slice q r s,.slice t u v])] D (fun al am=>(KeepT 26 D am/\KeepT 30 D am/\True)/\G (!al) am)) (G true D))))))->
 z A B)->
 Cb 9 #[(.agg #[.slice a b c,.slice d e f,.slice g i j,.slice k l m,.slice n o p])] y (fun an ao=>(KeepT 26 y ao/\KeepT 30 y ao/\True)/\(Nr (!an) (Cb 10 #[(.agg #[.slice q r s,.slice t u v])] ao (fun ap aq=>(KeepT 26 ao aq/\KeepT 30 ao aq/\True)/\z (!ap) aq)) (z true ao)))))):CP 8 #[(.agg #[.slice a b c,.slice d e f,.slice g i j,.slice k l m,.slice n o p]),(.agg #[.slice q r s,.slice t u v])] w R:=
 vcq Tryz.func8 [2,3] [(3,⟨[(16,.bool)],[]⟩),(13,⟨[(28,.bool)],[]⟩)] [.agg [.slice a b c,.slice d e f,.slice g i j,.slice k l m,.slice n o p],.agg [.slice q r s,.slice t u v]] h
end Go.VC
namespace Go.VC
open Go Go.Proofs
set_option maxRecDepth 100000
theorem q_core_Events_OnValue (a:OA)(b:Value)(w:World)(R:EW)(h:
 Pt a fun c=>Ll w (c.add 7) fun d e f=>(b.oneCell'=true/\True)/\(let g:=w.alloc (.cells #[b] 216);
 ∃ i j k,∃ l,(Go.builtin .append #[123,123] 123 #[false,false] #[.slice d e f,(.slice (some (adr w.heap.size)) 1 1)]).run Tryz.prog g=.ok (.value (.slice i j k)) l/\True/\Pt a fun m=>Off l (m.add 7) 1 []/\True/\(let n:=(l.setCell (m.add 7) (.slice i j k));
 R (.returned (.tuple #[])) n))):CP 95 #[.pointer a,b] w R:=
 vcq Tryz.func95 [] [] [.l (.optr a),.l (.val b)] h
end Go.VC
namespace Go.VC
open Go Go.Proofs
variable [DB]
theorem c_core_Events_OnValue {eb:Nat}{f:Value}{evs:List Value}{w:World}(hf:smallV f)(hB:Blk w eb 126 evs)(hj:evs[7]? =some (.slice none 0 0)):
  CP 95 #[.pointer (some (adr eb)),f] w fun e w'=>e=.returned (.tuple #[])/\∃ (p:Addr) (C:Nat),Blk w' eb 126 (evs.set 7 (.slice (some p) 1 C))/\At w' 216 p f/\w.heap.size<=p.block/\Ext (fun b=>b=eb) w w':=by
 obtain ⟨p,C,w7,r7,ha,hp,hx,-⟩:=on_append 123 216 Tryz.t216 _ _ (by kernel_rfl) (by kernel_rfl) rfl (by kernel_rfl) rfl (by kernel_rfl) (by decide) (w:=w) hf 123 #[false,false]
 have hB7:=hB.ext hx id
 have hlt:=hB.lt
 have hl:7+1<=evs.length:=(List.getElem?_eq_some_iff.1 hj).1
 have hs:Ext (fun b=>b=eb) w7 (w7.setCell ⟨eb,7,none⟩ (.slice (some p) 1 C)):=Ext.setCell (X:=fun b=>b=eb) (Ext.refl _) (a:=⟨eb,7,none⟩) (.inl rfl) _
 refine q_core_Events_OnValue (some (adr eb)) f w _ ⟨adr eb,rfl,none,0,0,(hB.at (j:=7) hj).cell,⟨hf.one,trivial⟩,some p,1,C,w7,r7,trivial,adr eb,rfl,hB7.off (j:=7) (n:=1) (q:=fun _=>false) hl rfl,trivial,rfl,p,C,hB7.set 7 _,hs.at (by show ¬ p.block=eb;omega) ha,hp,(hx.toM _).trans hs fun _ _ e=>e⟩
end Go.VC
namespace Go.VC
open Go Go.Proofs
variable [DB]
abbrev StK (bad:Ev->Prop)(ae cnt:Nat)(l:List Ev)(w:World):Prop:=Cnt ae cnt (l.length*4194304) (∃ e∈l,bad e) w
abbrev InK (bad:Ev->Prop)(ae cnt:Nat)(l:List Ev)(k:Nat)(b:Prop)(w:World):Prop:=Cnt ae cnt (l.length*4194304+k) ((∃ e∈l,bad e)∨b) w
theorem InK.start {bad:Ev->Prop}{ae cnt:Nat}{l:List Ev}{w:World}{b:Prop}(h:StK bad ae cnt l w)(hb:¬ b):InK bad ae cnt l 0 b w:=Cnt.skip h (by omega) ⟨.inl,fun k=>k.elim id fun k=>absurd k hb⟩
theorem InK.good {bad:Ev->Prop}{ae cnt:Nat}{l:List Ev}{w:World}{k k':Nat}{b b':Prop}(h:InK bad ae cnt l k b w)(hk:k<=k')(hb:b↔b'):InK bad ae cnt l k' b' w:=Cnt.skip h (by omega) ⟨fun k=>k.imp id hb.1,fun k=>k.imp id hb.2⟩
theorem InK.told {bad:Ev->Prop}{ae cnt:Nat}{l:List Ev}{w:World}{k k':Nat}{b':Prop}(h:Cnt ae cnt (l.length*4194304+k+1) True w)(hk:k+1<=k')(hb:b'):InK bad ae cnt l k' b' w:=Cnt.skip h (by omega) ⟨fun _=>.inr hb,fun _=>trivial⟩
theorem InK.stop {bad:Ev->Prop}{ae cnt:Nat}{l:List Ev}{w:World}{k:Nat}{b:Prop}{ev:Ev}(h:InK bad ae cnt l k b w)(hk:k<=4194304)(hb:b↔bad ev):StK bad ae cnt (l++[ev]) w:=
 Cnt.skip h (by rw [List.length_append,List.length_cons,List.length_nil];omega) (Iff.trans ⟨fun k=>k.imp id hb.1,fun k=>k.imp id hb.2⟩ ex_snoc.symm)
end Go.VC
namespace Go.VC
open Go Go.Proofs
set_option maxRecDepth 100000
theorem q_twice (a:OA)(b c:Nat)(w:World)(R:EW)(h:
 ∃ (d:Int->World->Prop) (e:Int->World->Nat),d 0 w/\
 (∀ f:Int,∀ g:World,d f g->
 (Br (decide (f<(b:Int))) (Ix a f b fun i=>Ls g (i.add (f.toNat*1)) fun j=>∀ k:Bool->World->Prop,(∀ l:Bool,∀ m:World,
 ((Br l (R (.returned (.bool true)) m) ((d (IntKind.i64.wrap (f+1)) m/\e (IntKind.i64.wrap (f+1)) m<e f g))))->
 k l m)->
 (Br (!(j.toList==(⟨#[]⟩:BA).toList)) ((0<=(0:Int)/\(0:Int)<=f/\f<=(c:Int))/\Cb 56 #[.string j,(.slice (if c=(0:Int).toNat then a else Option.map (·.add ((0:Int).toNat*1)) a) (f.toNat-(0:Int).toNat) (c-(0:Int).toNat))] g (fun n o=>True/\k n o)) (k false g))) (R (.returned (.bool false)) g)))):CP 49 #[.slice a b c] w R:=
 vcq Tryz.func49 [] [(6,⟨[(7,.int .i64)],[]⟩),(17,⟨[(20,.bool)],[]⟩)] [.l (.slice a b c)] h
end Go.VC
namespace Go.VC
open Go Go.Proofs
variable [DB]
def nz (l:List BA):List BA:=l.filter fun s=> !decide (s=E0)
theorem nz_snoc_e (l:List BA):nz (l++[E0])=nz l:=by
 have:([E0].filter fun s=> !decide (s=E0))=[]:=by simp
 rw [nz,List.filter_append,this,List.append_nil];rfl
theorem nz_snoc {l:List BA}{x:BA}(h:x≠E0):nz (l++[x])=nz l++[x]:=by
 have:([x].filter fun s=> !decide (s=E0))=[x]:=by simp [h]
 rw [nz,List.filter_append,this];rfl
theorem mem_nz {l:List BA}{x:BA}:x∈nz l↔x∈l/\x≠E0:=by simp [nz,List.mem_filter]
theorem nz_all {l:List BA}(h:∀ x∈l,x≠E0):nz l=l:=List.filter_eq_self.2 fun x hx=>by simp [h x hx]
theorem nz_take {l:List BA}{k:Nat}(h:(nz l).Nodup):(nz (l.take k)).Nodup:=h.sublist ((List.take_sublist k l).filter _)
theorem take_snoc {α:Type}{xs:List α}{i:Int}{x:α}(h0:0<=i)(hx:xs[i.toNat]? =some x):xs.take (i+1).toNat=xs.take i.toNat++[x]:=by
 rw [show (i+1).toNat=i.toNat+1 by omega,List.take_add_one,hx];rfl
theorem SlL.take {α:Type}{w:World}{T n:Nat}{R:α->List Value->Prop}{a:OA}{l c:Nat}{xs:List α}(h:SlL w T n R a l c xs){i:Nat}(hi:i<=l):SlL w T n R a i c (xs.take i):=by
 obtain ⟨h1,h2,h3,h4⟩:=h
 refine ⟨?_,by omega,by omega,fun j x hx=>h4 j x ?_⟩
 ·rw [List.length_take];omega
 ·rw [List.getElem?_take] at hx
  split at hx
  ·exact hx
  ·cases hx
theorem slice_same (a:OA)(c:Nat):(if c=(0:Int).toNat then a else Option.map (·.add ((0:Int).toNat*1)) a)=a:=by
 split
 ·rfl
 ·cases a with
  | none=>rfl
  | some a=>rfl
theorem c_twice {a:OA}{l c:Nat}{xs:List BA}{w:World}(hl:RStrs w a l c xs):
  CP 49 #[.slice a l c] w (RetB w fun b=>b=true↔¬ (nz xs).Nodup):=by
 obtain ⟨e1,e3⟩:=hl.len
 have hlc:l<=c:=hl.2.1
 refine q_twice a l c w _ ⟨fun i w1=>0<=i/\i<=l/\Ext (fun _=>False) w w1/\(nz (xs.take i.toNat)).Nodup,fun i _=>((l:Int)-i).toNat,⟨by omega,by omega,Ext.refl w,by simp [nz]⟩,?_⟩
 rintro i w1 ⟨h0,hi,hx,hn⟩
 refine ⟨fun hlt=>?_,fun hge=>?_⟩
 ·have hlt:=of_decide_eq_true hlt
  obtain ⟨p,x,hp,hxs,cs,hc,rfl⟩:=hl.get h0 hlt
  refine ⟨p,hp,⟨h0,hlt⟩,x,hx.cell hc.1.choose_spec.2 id,fun K hK=>?_⟩
  have key:∀ (z:Bool) w',Ext (fun _=>False) w1 w'->(z=true↔x≠E0/\x∈xs.take i.toNat)->K z w':=by
   intro z w' hx' hz
   refine hK z w' ⟨fun h=>⟨true,rfl,hx.then hx',fun _ hnd=>?_,fun _=>rfl⟩,fun h=>?_⟩
   ·obtain ⟨hne,hm⟩:=hz.1 h
    have:=nz_take (k:=(i+1).toNat) hnd
    rw [take_snoc h0 hxs,nz_snoc hne,nodup_snoc] at this
    exact this.2 (mem_nz.2 ⟨hm,hne⟩)
   ·rw [wrap_lt h0 (by omega)]
    refine next h0 hlt ⟨hx.then hx',?_⟩
    rw [take_snoc h0 hxs]
    by_cases he:x=E0
    ·rw [he,nz_snoc_e];exact hn
    ·rw [nz_snoc he,nodup_snoc]
     refine ⟨hn,fun hm=>?_⟩
     rw [hz.2 ⟨he,(mem_nz.1 hm).1⟩] at h
     cases h
  refine ⟨fun hne=>⟨⟨by omega,h0,by omega⟩,?_⟩,fun he=>key false w1 (Ext.refl w1) ⟨nofun,fun h=>absurd (nbeq_f he) h.1⟩⟩
  rw [slice_same]
  have hne:=nbeq_t hne
  have ht:RStrs w1 a (i.toNat-(0:Int).toNat) (c-(0:Int).toNat) (xs.take i.toNat):=SlL.take (T:=9) (n:=1) (R:=fun s cs=>cs=[.string s]) (hl.keep hx.keep) (i:=i.toNat) (by omega)
  refine (c_in x ht).mono ?_
  rintro _ w' ⟨b,rfl,hx',hb⟩
  exact ⟨b,rfl,trivial,key b w' hx' (hb.trans ⟨fun h=>⟨hne,h⟩,fun h=>h.2⟩)⟩
 ·have hle:=of_decide_eq_false hge
  rw [List.take_of_length_le (by omega)] at hn
  exact ⟨false,rfl,hx,nofun,fun h=>absurd hn h⟩
end Go.VC
namespace Go.VC
open Go Go.Proofs
variable [DB]
mutual
theorem evV_len:∀ v:Val,(evV v).length<=valW v
 | .mk k r kids=>by
  have:=evKids_len kids
  simp only [evV,valW,List.length_append,List.length_cons,List.length_nil]
  by_cases h9:k=9
  ·rw [if_pos h9,if_neg (by omega)]
   simp only [List.length_nil]
   omega
  ·rw [if_neg h9]
   by_cases h8:k=8
   ·rw [if_pos h8]
    simp only [List.length_nil]
    omega
   ·rw [if_neg h8]
    simp only [List.length_nil]
    omega
theorem evKids_len:∀ l:List (BA × Val),(evKids l).length<=kidsW l
 | []=>Nat.le_refl _
 | x::l=>by
  have h1:=evV_len x.2
  have h2:=evKids_len l
  simp only [evKids,kidsW,List.length_append]
  omega
end
theorem fm_len {α β:Type}{f:α->List β}{g:α->Nat}:∀ {l:List α},(∀ x∈l,(f x).length<=g x)->(l.flatMap f).length<=(l.map g).sum
 | [],_=>by simp
 | x::l,h=>by
  have h1:=h x (by simp)
  have h2:=fm_len (l:=l) (f:=f) (g:=g) fun y hy=>h y (by simp [hy])
  simp only [List.flatMap_cons,List.length_append,List.map_cons,List.sum_cons]
  omega
theorem evArgs_len (l:List Argm):(evArgs l).length<=argsW l:=fm_len fun x _=>by
 have:=evV_len x.v
 simp only [argW]
 omega
theorem evDs_len (loc:BA)(l:List Dir):(evDs loc l).length<=dirsW l+1:=by
 have:(l.flatMap fun d=>evArgs d.args++[.dir d loc]).length<=(l.map dirW).sum:=fm_len fun x _=>by
  have:=evArgs_len x.args
  simp only [dirW,List.length_append,List.length_cons,List.length_nil]
  omega
 simp only [evDs,dirsW,List.length_append,List.length_cons,List.length_nil]
 omega
theorem evL_len (fs:List Frag):∀ l:List Sel,(evL fs l).length<=2*selsW l
 | []=>Nat.le_refl _
 | .mk k al n on args dirs kids::l=>by
  have h1:=evArgs_len args
  have h2:=evDs_len bField dirs
  have h3:=evDs_len bSpread dirs
  have h4:=evDs_len bInline dirs
  have h5:=evL_len fs kids
  have h6:=evL_len fs l
  simp only [evL,evS,selsW,selW,List.length_append]
  split
  ·simp only [List.length_append,List.length_cons,List.length_nil];omega
  ·split
   ·simp only [List.length_append,List.length_cons,List.length_nil];omega
   ·simp only [List.length_append,List.length_cons,List.length_nil];omega
theorem evOp_len (fs:List Frag)(x:OpD):(evOp fs x).length<=2*opW x:=by
 have h1:(x.vars.flatMap fun v=>evDef v.dflt++evDs bVarLoc v.dirs).length<=varsW x.vars:=fm_len (g:=varW) fun v _=>by
  have h2:=evDs_len bVarLoc v.dirs
  have h3:(evDef v.dflt).length<=valsW v.dflt:=by
   cases v.dflt with
   | nil=>exact Nat.le_refl _
   | cons y r=>
    have:=evV_len y
    simp only [evDef,valsW,List.map_cons,List.sum_cons]
    omega
  rw [List.length_append,varW]
  have:1<=typW v.t:=by cases v.t;simp only [typW];omega
  omega
 have h2:x.vars.length<=varsW x.vars:=lenW_sum fun y _=>by simp only [varW];omega
 have h3:=evDs_len (opLoc x.kind) x.dirs
 have h4:=evL_len fs x.kids
 simp only [evOp,evVars,opW,List.length_append,List.length_map,List.length_cons,List.length_nil] at h1 ⊢
 omega
theorem evFr_len (fs:List Frag)(x:Frag):(evFr fs x).length<=2*fragW x:=by
 have h3:=evDs_len bFragLoc x.dirs
 have h4:=evL_len fs x.kids
 simp only [evFr,fragW,List.length_append,List.length_cons,List.length_nil]
 omega
theorem sum_two {α:Type}(f:α->Nat):∀ l:List α,(l.map fun x=>2*f x).sum=2*(l.map f).sum
 | []=>rfl
 | x::l=>by simp only [List.map_cons,List.sum_cons,sum_two f l];omega
theorem spN_few {c:WCtx}{ob:Obs}(h1:c.ops.length<=12)(h2:c.frags.length<=12)(hs:docW c.ops c.frags<=2097152):spN c ob c.ops c.frags<=1073741824:=by
 have hp:pot c ob []<=2*(c.frags.map fragW).sum:=by
  unfold pot
  rw [<- sum_two fragW]
  exact sum_mono fun f _=>by
   rw [potF_out (by simp)]
   exact Nat.le_trans (cntE_le _ _) (evFr_len c.frags f)
 have ho:(c.ops.map fun x=>cntE ob (evOp c.frags x)+pot c ob []).sum<=2*(c.ops.map opW).sum+c.ops.length*pot c ob []:=by
  rw [<- sum_two opW,<- sum_addk (fun x:OpD=>2*opW x) (pot c ob [])]
  exact sum_mono fun x hx=>Nat.add_le_add_right (Nat.le_trans (cntE_le _ _) (evOp_len c.frags x)) _
 have hf:(c.frags.map fun x=>cntE ob (evFr c.frags x)+pot c ob []).sum<=2*(c.frags.map fragW).sum+c.frags.length*pot c ob []:=by
  rw [<- sum_two fragW,<- sum_addk (fun x:Frag=>2*fragW x) (pot c ob [])]
  exact sum_mono fun x hx=>Nat.add_le_add_right (Nat.le_trans (cntE_le _ _) (evFr_len c.frags x)) _
 unfold docW at hs
 have hpt:pot c ob []<=4194304:=by omega
 have k1:=Nat.mul_le_mul h1 hpt
 have k2:=Nat.mul_le_mul h2 hpt
 unfold spN
 omega
end Go.VC
namespace Go.VC
open Go Go.Proofs
set_option maxRecDepth 100000
theorem q_argLists (a:OA)(b c:Nat)(d:OA)(e f:Nat)(w:World)(R:EW)(h:
 True/\(let g:=w.alloc (.cells #[.slice a b c,.slice d e f] 30);
 ∃ (i:OA->Nat->Nat->Int->World->Prop) (j:OA->Nat->Nat->Int->World->Nat),i none 0 0 0 g/\
 (∀ (k:OA) (l m:Nat),∀ n:Int,∀ o:World,i k l m n o->
 (Br (decide (n<(b:Int))) (Ix a n b fun p=>L_sslll o (p.add (n.toNat*5)) fun q r s t u v x y z A B=>True/\(let C:=o.alloc (.cells #[(.string (⟨#[]⟩:BA)),(.string (⟨#[]⟩:BA)),.slice none 0 0,.slice none 0 0,.slice none 0 0] 50);
 True/\(let D:=o.alloc (.cells #[.string q,.string r,.slice s t u,.slice v x y,.slice z A B] 50);
 Cl 93 #[.slice z A B] D (fun E F G H=>(KeepT 30 D H/\KeepT 50 D H/\True)/\∃ I J K,∃ L,(Go.builtin .append #[81,81] 81 #[false,false] #[.slice k l m,.slice E F G]).run Tryz.prog H=.ok (.value (.slice I J K)) L/\(KeepT 30 H L/\KeepT 50 H L/\True)/\(i I J K (IntKind.i64.wrap (n+1)) L/\j I J K (IntKind.i64.wrap (n+1)) L<j k l m n o))))) (∃ (M:OA->Nat->Nat->Int->World->Prop) (N:OA->Nat->Nat->Int->World->Nat),M k l m 0 o/\
 (∀ (O:OA) (P Q:Nat),∀ S:Int,∀ U:World,M O P Q S U->
 (Br (decide (S<(e:Int))) (Ix d S e fun V=>L_ssll U (V.add (S.toNat*4)) fun W X Y Z aa ab ac ad=>True/\(let ae:=U.alloc (.cells #[(.string (⟨#[]⟩:BA)),(.string (⟨#[]⟩:BA)),.slice none 0 0,.slice none 0 0] 62);
 True/\(let af:=U.alloc (.cells #[.string W,.string X,.slice Y Z aa,.slice ab ac ad] 62);
 Cl 93 #[.slice ab ac ad] af (fun ag ah ai aj=>(KeepT 30 af aj/\KeepT 62 af aj/\True)/\∃ ak al am,∃ an,(Go.builtin .append #[81,81] 81 #[false,false] #[.slice O P Q,.slice ag ah ai]).run Tryz.prog aj=.ok (.value (.slice ak al am)) an/\(KeepT 30 aj an/\KeepT 62 aj an/\True)/\(M ak al am (IntKind.i64.wrap (S+1)) an/\N ak al am (IntKind.i64.wrap (S+1)) an<N O P Q S U))))) (Cl 94 #[(.agg #[.slice a b c,.slice d e f])] U (fun ao ap aq ar=>(KeepT 30 U ar/\True)/\∃ (au:OA->Nat->Nat->Int->World->Prop) (av:OA->Nat->Nat->Int->World->Nat),au O P Q 0 ar/\
 (∀ (ax:OA) (ay az:Nat),∀ aA:Int,∀ aB:World,au ax ay az aA aB->
 (Br (decide (aA<(ap:Int))) (Ix ao aA ap fun aC=>Ll aB (aC.add (aA.toNat*2)) fun aD aE aF=>Ls aB ((aC.add (aA.toNat*2)).add 1) fun aG=>True/\(let aH:=aB.alloc (.cells #[.slice none 0 0,(.string (⟨#[]⟩:BA))] 204);
 True/\(let aI:=aB.alloc (.cells #[.slice aD aE aF,.string aG] 204);
 ∃ (aJ:OA->Nat->Nat->Int->World->Prop) (aK:OA->Nat->Nat->Int->World->Nat),aJ ax ay az 0 aI/\
 (∀ (aL:OA) (aM aN:Nat),∀ aO:Int,∀ aP:World,aJ aL aM aN aO aP->
 (Br (decide (aO<(aE:Int))) (Ix aD aO aE fun aQ=>L_sl aP (aQ.add (aO.toNat*2)) fun aS aU aV aW=>True/\(let aX:=aP.alloc (.cells #[(.string (⟨#[]⟩:BA)),.slice none 0 0] 206);
 True/\(let aY:=aP.alloc (.cells #[.string aS,.slice aU aV aW] 206);
 True/\(let aZ:=aY.alloc (.cells #[.slice aU aV aW] 83);
 ∃ ba bb bc,∃ bd,(Go.builtin .append #[81,81] 81 #[false,false] #[.slice aL aM aN,(.slice (some (adr aY.heap.size)) 1 1)]).run Tryz.prog aZ=.ok (.value (.slice ba bb bc)) bd/\(KeepT 30 aZ bd/\KeepT 204 aZ bd/\KeepT 206 aZ bd/\True)/\(aJ ba bb bc (IntKind.i64.wrap (aO+1)) bd/\aK ba bb bc (IntKind.i64.wrap (aO+1)) bd<aK aL aM aN aO aP))))) ((au aL aM aN (IntKind.i64.wrap (aA+1)) aP/\av aL aM aN (IntKind.i64.wrap (aA+1)) aP<av ax ay az aA aB))))))) (R (.returned (.slice ax ay az)) aB)))))))))))):CP 48 #[(.agg #[.slice a b c,.slice d e f])] w R:=
 vcq Tryz.func48 [1,5,7,9,11] [(8,⟨[(3,.slice),(15,.int .i64)],[]⟩),(25,⟨[(3,.slice),(28,.int .i64)],[]⟩),(42,⟨[(3,.slice),(41,.int .i64)],[]⟩),(56,⟨[(3,.slice),(48,.int .i64)],[]⟩)] [.agg [.slice a b c,.slice d e f]] h
theorem q_argListsOf (a:OA)(b c:Nat)(w:World)(R:EW)(h:
 ∃ (d:OA->Nat->Nat->Int->World->Prop) (e:OA->Nat->Nat->Int->World->Nat),d none 0 0 0 w/\
 (∀ (f:OA) (g i:Nat),∀ j:Int,∀ k:World,d f g i j k->
 (Br (decide (j<(b:Int))) (Ix a j b fun l=>L_issslll k (l.add (j.toNat*7)) fun m n o p q r s t u v x y z=>True/\(let A:=k.alloc (.cells #[.int .i64 0,(.string (⟨#[]⟩:BA)),(.string (⟨#[]⟩:BA)),(.string (⟨#[]⟩:BA)),.slice none 0 0,.slice none 0 0,.slice none 0 0] 104);
 True/\(let B:=k.alloc (.cells #[.int .i64 m,.string n,.string o,.string p,.slice q r s,.slice t u v,.slice x y z] 104);
 True/\(let C:=B.alloc (.cells #[.slice q r s] 83);
 ∃ D E F,∃ G,(Go.builtin .append #[81,81] 81 #[false,false] #[.slice f g i,(.slice (some (adr B.heap.size)) 1 1)]).run Tryz.prog C=.ok (.value (.slice D E F)) G/\(KeepT 104 C G/\True)/\Cl 93 #[.slice x y z] G (fun H I J K=>(KeepT 104 G K/\True)/\∃ L M N,∃ O,(Go.builtin .append #[81,81] 81 #[false,false] #[.slice D E F,.slice H I J]).run Tryz.prog K=.ok (.value (.slice L M N)) O/\(KeepT 104 K O/\True)/\(d L M N (IntKind.i64.wrap (j+1)) O/\e L M N (IntKind.i64.wrap (j+1)) O<e f g i j k)))))) (R (.returned (.slice f g i)) k)))):CP 93 #[.slice a b c] w R:=
 vcq Tryz.func93 [5] [(8,⟨[(3,.slice),(8,.int .i64)],[]⟩)] [.l (.slice a b c)] h
theorem q_uses (a:OA)(b c:Nat)(d:OA)(e f:Nat)(w:World)(R:EW)(h:
 True/\(let g:=w.alloc (.cells #[.slice a b c,.slice d e f] 30);
 ∃ (i:OA->Nat->Nat->Int->World->Prop) (j:OA->Nat->Nat->Int->World->Nat),i none 0 0 0 g/\
 (∀ (k:OA) (l m:Nat),∀ n:Int,∀ o:World,i k l m n o->
 (Br (decide (n<(b:Int))) (Ix a n b fun p=>L_sslll o (p.add (n.toNat*5)) fun q r s t u v x y z A B=>True/\(let C:=o.alloc (.cells #[(.string (⟨#[]⟩:BA)),(.string (⟨#[]⟩:BA)),.slice none 0 0,.slice none 0 0,.slice none 0 0] 50);
 True/\(let D:=o.alloc (.cells #[.string q,.string r,.slice s t u,.slice v x y,.slice z A B] 50);
 ∀ E,E=D.drew->Cs 130 #[.string q] E (fun F G=>(KeepT 30 E G/\KeepT 50 E G/\True)/\((1=1)/\True)/\True/\True/\(let H:=G.alloc (.cells #[.slice v x y,.string F] 204);
 True/\∃ I J K,∃ L,(Go.builtin .append #[201,201] 201 #[false,false] #[.slice k l m,(.slice (some (adr G.heap.size)) 1 1)]).run Tryz.prog H=.ok (.value (.slice I J K)) L/\(KeepT 30 H L/\KeepT 50 H L/\True)/\True/\True/\∃ (M:OA->Nat->Nat->Int->World->Prop) (N:OA->Nat->Nat->Int->World->Nat),M I J K 0 L/\
 (∀ (O:OA) (P Q:Nat),∀ S:Int,∀ U:World,M O P Q S U->
 (Br (decide (S<(t:Int))) (Ix s S t fun V=>Ls U (V.add (S.toNat*6)) fun W=>Ls U ((V.add (S.toNat*6)).add 1) fun X=>Ll U ((V.add (S.toNat*6)).add 2) fun Y Z aa=>Lb U ((V.add (S.toNat*6)).add 3) fun ab=>Ll U ((V.add (S.toNat*6)).add 4) fun ac ad ae=>Ll U ((V.add (S.toNat*6)).add 5) fun af ag ah=>True/\(let ai:=U.alloc (.cells #[(.string (⟨#[]⟩:BA)),(.string (⟨#[]⟩:BA)),.slice none 0 0,.bool false,.slice none 0 0,.slice none 0 0] 58);
 True/\(let aj:=U.alloc (.cells #[.string W,.string X,.slice Y Z aa,.bool ab,.slice ac ad ae,.slice af ag ah] 58);
 True/\True/\(let ak:=aj.alloc (.cells #[.slice af ag ah,(.string (⟨#[86,65,82,73,65,66,76,69,95,68,69,70,73,78,73,84,73,79,78]⟩:BA))] 204);
 ∃ al am an,∃ ao,(Go.builtin .append #[201,201] 201 #[false,false] #[.slice O P Q,(.slice (some (adr aj.heap.size)) 1 1)]).run Tryz.prog ak=.ok (.value (.slice al am an)) ao/\(KeepT 30 ak ao/\KeepT 50 ak ao/\KeepT 58 ak ao/\True)/\(M al am an (IntKind.i64.wrap (S+1)) ao/\N al am an (IntKind.i64.wrap (S+1)) ao<N O P Q S U))))) (Cl 131 #[.slice z A B] U (fun ap aq ar au=>(KeepT 30 U au/\KeepT 50 U au/\True)/\∃ av ax ay,∃ az,(Go.builtin .append #[201,201] 201 #[false,false] #[.slice O P Q,.slice ap aq ar]).run Tryz.prog au=.ok (.value (.slice av ax ay)) az/\(KeepT 30 au az/\KeepT 50 au az/\True)/\(i av ax ay (IntKind.i64.wrap (n+1)) az/\j av ax ay (IntKind.i64.wrap (n+1)) az<j k l m n o)))))))))) (∃ (aA:OA->Nat->Nat->Int->World->Prop) (aB:OA->Nat->Nat->Int->World->Nat),aA k l m 0 o/\
 (∀ (aC:OA) (aD aE:Nat),∀ aF:Int,∀ aG:World,aA aC aD aE aF aG->
 (Br (decide (aF<(e:Int))) (Ix d aF e fun aH=>L_ssll aG (aH.add (aF.toNat*4)) fun aI aJ aK aL aM aN aO aP=>True/\(let aQ:=aG.alloc (.cells #[(.string (⟨#[]⟩:BA)),(.string (⟨#[]⟩:BA)),.slice none 0 0,.slice none 0 0] 62);
 True/\(let aS:=aG.alloc (.cells #[.string aI,.string aJ,.slice aK aL aM,.slice aN aO aP] 62);
 True/\True/\(let aU:=aS.alloc (.cells #[.slice aK aL aM,(.string (⟨#[70,82,65,71,77,69,78,84,95,68,69,70,73,78,73,84,73,79,78]⟩:BA))] 204);
 ∃ aV aW aX,∃ aY,(Go.builtin .append #[201,201] 201 #[false,false] #[.slice aC aD aE,(.slice (some (adr aS.heap.size)) 1 1)]).run Tryz.prog aU=.ok (.value (.slice aV aW aX)) aY/\(KeepT 30 aU aY/\KeepT 62 aU aY/\True)/\Cl 131 #[.slice aN aO aP] aY (fun aZ ba bb bc=>(KeepT 30 aY bc/\KeepT 62 aY bc/\True)/\∃ bd be bf,∃ bg,(Go.builtin .append #[201,201] 201 #[false,false] #[.slice aV aW aX,.slice aZ ba bb]).run Tryz.prog bc=.ok (.value (.slice bd be bf)) bg/\(KeepT 30 bc bg/\KeepT 62 bc bg/\True)/\(aA bd be bf (IntKind.i64.wrap (aF+1)) bg/\aB bd be bf (IntKind.i64.wrap (aF+1)) bg<aB aC aD aE aF aG)))))) (R (.returned (.slice aC aD aE)) aG)))))))):CP 94 #[(.agg #[.slice a b c,.slice d e f])] w R:=
 vcq Tryz.func94 [1,5,7,9] [(8,⟨[(3,.slice),(13,.int .i64)],[]⟩),(25,⟨[(3,.slice),(29,.int .i64)],[]⟩),(44,⟨[(3,.slice),(49,.int .i64)],[]⟩)] [.agg [.slice a b c,.slice d e f]] h
theorem q_usesOf (a:OA)(b c:Nat)(w:World)(R:EW)(h:
 ∃ (d:OA->Nat->Nat->Int->World->Prop) (e:OA->Nat->Nat->Int->World->Nat),d none 0 0 0 w/\
 (∀ (f:OA) (g i:Nat),∀ j:Int,∀ k:World,d f g i j k->
 (Br (decide (j<(b:Int))) (Ix a j b fun l=>L_issslll k (l.add (j.toNat*7)) fun m n o p q r s t u v x y z=>True/\(let A:=k.alloc (.cells #[.int .i64 0,(.string (⟨#[]⟩:BA)),(.string (⟨#[]⟩:BA)),(.string (⟨#[]⟩:BA)),.slice none 0 0,.slice none 0 0,.slice none 0 0] 104);
 True/\(let B:=k.alloc (.cells #[.int .i64 m,.string n,.string o,.string p,.slice q r s,.slice t u v,.slice x y z] 104);
 ∀ C,C=B.drew->True/\(let D:=C.alloc (.cells #[(.string (⟨#[70,73,69,76,68]⟩:BA)),(.string (⟨#[70,82,65,71,77,69,78,84,95,83,80,82,69,65,68]⟩:BA)),(.string (⟨#[73,78,76,73,78,69,95,70,82,65,71,77,69,78,84]⟩:BA))] 9);
 ((1=1)/\(1=1)/\True)/\Ix (some (adr C.heap.size)) m 3 fun E=>Ls D (E.add (m.toNat*1)) fun F=>True/\True/\(let G:=D.alloc (.cells #[.slice t u v,.string F] 204);
 True/\∃ H I J,∃ K,(Go.builtin .append #[201,201] 201 #[false,false] #[.slice f g i,(.slice (some (adr D.heap.size)) 1 1)]).run Tryz.prog G=.ok (.value (.slice H I J)) K/\(KeepT 104 G K/\True)/\True/\True/\Cl 131 #[.slice x y z] K (fun L M N O=>(KeepT 104 K O/\True)/\∃ P Q S,∃ U,(Go.builtin .append #[201,201] 201 #[false,false] #[.slice H I J,.slice L M N]).run Tryz.prog O=.ok (.value (.slice P Q S)) U/\(KeepT 104 O U/\True)/\(d P Q S (IntKind.i64.wrap (j+1)) U/\e P Q S (IntKind.i64.wrap (j+1)) U<e f g i j k))))))) (R (.returned (.slice f g i)) k)))):CP 131 #[.slice a b c] w R:=
 vcq Tryz.func131 [5] [(8,⟨[(3,.slice),(8,.int .i64)],[]⟩)] [.l (.slice a b c)] h
theorem q_location (a:BA)(w:World)(R:EW)(h:
 (Br (a.toList==(⟨#[109,117,116,97,116,105,111,110]⟩:BA).toList) (R (.returned (.string (⟨#[77,85,84,65,84,73,79,78]⟩:BA))) w) ((Br (a.toList==(⟨#[115,117,98,115,99,114,105,112,116,105,111,110]⟩:BA).toList) (R (.returned (.string (⟨#[83,85,66,83,67,82,73,80,84,73,79,78]⟩:BA))) w) (R (.returned (.string (⟨#[81,85,69,82,89]⟩:BA))) w))))):CP 130 #[.string a] w R:=
 vcq Tryz.func130 [] [] [.l (.str a)] h
end Go.VC
namespace Go.VC
open Go Go.Proofs
variable [DB]
def AppT (t T n:Nat):Prop:=∃ (i:TypeInfo) (z:Value) (bytes:Nat),Tryz.prog.underlying t=some (.slice T)/\Tryz.prog.info? T=some i/\i.zero=some z/\i.size=n/\i.bytes=bytes/\z.cells.size=n/\0<n/\bytes<=4096
def Acc {α:Type}(wb w:World)(T n:Nat)(R:α->List Value->Prop)(A:OA)(L C:Nat)(xs:List α):Prop:=
 Ext (fun _=>False) wb w/\L=xs.length/\∃ cells,Own wb.heap.size w T n A L C cells/\Flat n R xs cells
section
variable {α:Type} {wb w w':World} {t T n:Nat} {R:α->List Value->Prop} {A:OA} {L C:Nat} {xs ys:List α} {x:α}
theorem Acc.nil (h:Ext (fun _=>False) wb w):Acc wb w T n R none 0 0 ([]:List α):=⟨h,rfl,[],Own.nil ..,.nil⟩
theorem Acc.step (h:Acc wb w T n R A L C xs)(hx:Ext (fun _=>False) w w'):Acc wb w' T n R A L C xs:=by
 obtain ⟨h1,h2,cells,h3,h4⟩:=h
 exact ⟨h1.then hx,h2,cells,h3.keep hx fun _ _=>id,h4⟩
theorem Acc.sl (h:Acc wb w T n R A L C xs)(hn:0<n)(hl:xs.length<=4194304):SlL w T n R A L C xs:=by
 obtain ⟨h1,h2,cells,h3,h4⟩:=h
 exact h3.sl h4 hn (by omega)
theorem Acc.one (ha:AppT t T n)(hlen:∀ x cs,R x cs->cs.length=n)(h:Acc wb w T n R A L C xs){cs:List Value}(hr:R x cs)(hsm:∀ v∈cs,smallV v)(h2:xs.length<16777216):
  ∃ (A':OA) (C':Nat) (w':World),(Go.builtin .append #[t,t] t #[false,false] #[.slice A L C,.slice (some (adr w.heap.size)) 1 1]).run Tryz.prog (w.alloc (.cells cs.toArray T))=.ok (.value (.slice A' (L+1) C')) w'/\
   Acc wb w' T n R A' (L+1) C' (xs++[x])/\∀ T',T'≠T->KeepT T' (w.alloc (.cells cs.toArray T)) w':=by
 obtain ⟨i,z,bytes,a1,a2,a3,a4,a5,a6,a7,a8⟩:=ha
 obtain ⟨h1,hL,cells,h3,h4⟩:=h
 obtain ⟨A',C',w',r,⟨cells',o',f'⟩,hx,hk⟩:=append_one t T i z n bytes a1 a2 a3 a4 a5 a6 a7 a8 h3 h1.size h4 (hlen _ _ hr) hsm hr hlen (by omega) t #[false,false]
 refine ⟨A',C',w',r,⟨h1.trans hx fun b hb hbl=>?_,by rw [List.length_append,hL];rfl,cells',o',f'⟩,hk⟩
 have:=(h3.base b hbl).1
 omega
theorem Acc.more (ha:AppT t T n)(hlen:∀ x cs,R x cs->cs.length=n)(h:Acc wb w T n R A L C xs){a:OA}{l c:Nat}(hr:SlL w T n R a l c ys)(h2:xs.length+ys.length<=16777216):
  ∃ (A':OA) (C':Nat) (w':World),(Go.builtin .append #[t,t] t #[false,false] #[.slice A L C,.slice a l c]).run Tryz.prog w=.ok (.value (.slice A' (L+l) C')) w'/\
   Acc wb w' T n R A' (L+l) C' (xs++ys)/\∀ T',T'≠T->KeepT T' w w':=by
 obtain ⟨i,z,bytes,a1,a2,a3,a4,a5,a6,a7,a8⟩:=ha
 obtain ⟨h1,hL,cells,h3,h4⟩:=h
 have hl:=hr.len.1
 obtain ⟨A',C',w',r,⟨cells',o',f'⟩,hx,-⟩:=append_sl t T i z n bytes a1 a2 a3 a4 a5 a6 a7 a8 h3 h1.size h4 hr hlen (by omega) t #[false,false]
 refine ⟨A',C',w',r,⟨h1.trans hx fun b hb hbl=>?_,by rw [List.length_append,hL,hl],cells',o',f'⟩,fun T' hT=>h3.keepT hx hT⟩
 have:=(h3.base b hbl).1
 omega
theorem Acc.get (h:Acc wb w T n R A L C xs){i:Int}(h0:0<=i)(hi:i<(L:Int)):∃ (p:Addr) (x:α) (cs:List Value),A=some p/\xs[i.toNat]? =some x/\R x cs/\∀ k u,cs[k]? =some u->At w T ((p.add (i.toNat*n)).add k) u:=by
 obtain ⟨h1,h2,cells,h3,h4⟩:=h
 obtain ⟨x,hx⟩:∃ x,xs[i.toNat]? =some x:=⟨_,List.getElem?_eq_getElem (by omega)⟩
 obtain ⟨cs,g1,g2,g3,g4⟩:=h4.get _ x hx
 have hp:∃ p,A=some p:=by
  obtain ⟨-, h|⟨g,cap,cur,e1,-⟩⟩:=h3
  ·obtain ⟨h,-⟩:=h
   simp only [Value.slice.injEq] at h
   omega
  ·simp only [Value.slice.injEq] at e1
   exact ⟨_,e1.1⟩
 obtain ⟨p,rfl⟩:=hp
 refine ⟨p,x,cs,rfl,hx,g3,fun k u hu=>?_⟩
 obtain ⟨p',hp',ha⟩:=h3.at (g4 k u hu)
 obtain rfl:p=p':=Option.some.inj hp'
 rw [add_add']
 exact ha
theorem KeepT.at {w w':World}{T:TypeId}(h:KeepT T w w'){a:Addr}{v:Value}(ha:At w T a v):At w' T a v:=by
 obtain ⟨cs,fr,h1,h2⟩:=ha
 exact ⟨cs,fr,h _ _ _ h1,h2⟩
theorem KeepT.then {w w' w'':World}{T:TypeId}(h:KeepT T w w')(h':KeepT T w' w''):KeepT T w w'':=fun b c fr hb=>h' b c fr (h b c fr hb)
end
def RAL (w0:World)(xs:List Argm)(cs:List Value):Prop:=∃ (a:OA) (l c:Nat),cs=[.slice a l c]/\RArgms w0 a l c xs
def RUse (w0:World)(ds:List Dir)(cs:List Value):Prop:=∃ (a:OA) (l c:Nat) (s:BA),cs=[.slice a l c,.string s]/\RDirs w0 a l c ds
theorem appAL:AppT 81 83 1:=⟨Tryz.t83,_,_,by kernel_rfl,by kernel_rfl,rfl,by kernel_rfl,rfl,by kernel_rfl,by omega,by decide⟩
theorem appU:AppT 201 204 2:=⟨Tryz.t204,_,_,by kernel_rfl,by kernel_rfl,rfl,by kernel_rfl,rfl,by kernel_rfl,by omega,by decide⟩
theorem RAL.len {w0:World}(x:List Argm)(cs:List Value):RAL w0 x cs->cs.length=1:=fun ⟨_,_,_,h,_⟩=>by rw [h];rfl
theorem RUse.len {w0:World}(x:List Dir)(cs:List Value):RUse w0 x cs->cs.length=2:=fun ⟨_,_,_,_,h,_⟩=>by rw [h];rfl
mutual
def alS:Sel->List (List Argm)
 | .mk _ _ _ _ args _ kids=>args::alL kids
def alL:List Sel->List (List Argm)
 | []=>[]
 | s::l=>alS s++alL l
end
mutual
def usS:Sel->List (List Dir)
 | .mk _ _ _ _ _ dirs kids=>dirs::usL kids
def usL:List Sel->List (List Dir)
 | []=>[]
 | s::l=>usS s++usL l
end
theorem alL_flat:∀ l:List Sel,alL l=l.flatMap alS
 | []=>rfl
 | s::l=>by simp [alL,alL_flat l]
theorem usL_flat:∀ l:List Sel,usL l=l.flatMap usS
 | []=>rfl
 | s::l=>by simp [usL,usL_flat l]
theorem alL_len:∀ l:List Sel,(alL l).length=selL l
 | []=>rfl
 | .mk k al n on args dirs kids::l=>by
  simp only [alL,alS,selL,selS,List.length_append,List.length_cons,alL_len kids,alL_len l]
  omega
theorem usL_len:∀ l:List Sel,(usL l).length=selL l
 | []=>rfl
 | .mk k al n on args dirs kids::l=>by
  simp only [usL,usS,selL,selS,List.length_append,List.length_cons,usL_len kids,usL_len l]
  omega
theorem take_snoc' {α:Type}{xs:List α}{i:Int}{x:α}(h0:0<=i)(hx:xs[i.toNat]? =some x):xs.take (i+1).toNat=xs.take i.toNat++[x]:=by
 rw [show (i+1).toNat=i.toNat+1 by omega,List.take_add_one,hx];rfl
theorem fm_snoc {α β:Type}(f:α->List β){xs:List α}{i:Int}{x:α}(h0:0<=i)(hx:xs[i.toNat]? =some x):(xs.take (i+1).toNat).flatMap f=(xs.take i.toNat).flatMap f++f x:=by
 rw [take_snoc' h0 hx,List.flatMap_append]
 simp
theorem fm_take {α β:Type}(f:α->List β)(xs:List α)(j:Nat):((xs.take j).flatMap f).length<=(xs.flatMap f).length:=by
 have:xs.flatMap f=(xs.take j).flatMap f++(xs.drop j).flatMap f:=by rw [<- List.flatMap_append,List.take_append_drop]
 rw [this,List.length_append]
 omega
theorem selL_in {s:Sel}:∀ {l:List Sel},s∈l->selS s<=selL l
 | t::l,h=>by
  simp only [selL]
  rcases List.mem_cons.1 h with rfl|h
  ·omega
  ·have:=selL_in h
   omega
abbrev ALof (w0:World)(xs:List Sel):Prop:=∀ (a:OA) (l c:Nat) (w:World),Ext (fun _=>False) w0 w->RSels w0 a l c xs->selL xs<=2097152->
 CP 93 #[.slice a l c] w fun e w'=>∃ A L C,e=.returned (.slice A L C)/\Acc w w' 83 1 (RAL w0) A L C (alL xs)
theorem c_argListsOf_of {w0:World}{xs:List Sel}(IH:∀ k al n on args dirs kids,Sel.mk k al n on args dirs kids∈xs->ALof w0 kids):ALof w0 xs:=by
 intro a l c w hw0 hl hfew
 obtain ⟨e1,e3⟩:=hl.len
 rw [<- alL_len,alL_flat] at hfew
 rw [alL_flat]
 refine q_argListsOf a l c w _ ⟨fun A L C i w1=>0<=i/\i<=l/\Acc w w1 83 1 (RAL w0) A L C ((xs.take i.toNat).flatMap alS),fun _ _ _ i _=>((l:Int)-i).toNat,⟨by omega,by omega,Acc.nil (Ext.refl w)⟩,?_⟩
 rintro A L C i w1 ⟨h0,hi,ac⟩
 refine ⟨fun hlt=>?_,fun hge=>?_⟩
 ·have hlt:=of_decide_eq_true hlt
  have x1:=hw0.then ac.1
  obtain ⟨p,x,hp,hxs,cs,hc,hv⟩:=hl.get h0 hlt
  have hmem:=List.mem_of_getElem? hxs
  have hsn:=fm_snoc alS h0 hxs
  have hle:=fm_take alS xs (i+1).toNat
  have hsel:=selL_in hmem
  rw [<- alL_len xs,alL_flat] at hsel
  obtain ⟨k,al,n,on,args,dirs,kids⟩:=x
  have IHk:=IH k al n on args dirs kids hmem
  obtain ⟨a1,l1,c1,a2,l2,c2,a3,l3,c3,rfl,hv1,hv2,hv3⟩:=RSel_mk.1 hv
  obtain ⟨⟨_,_,hc0⟩,hs0,⟨_,_,hc1⟩,hs1,⟨_,_,hc2⟩,hs2,⟨_,_,hc3⟩,hs3,⟨_,_,hc4⟩,hs4,⟨_,_,hc5⟩,hs5,⟨_,_,hc6⟩,-⟩:=hc
  simp only [selS] at hsel
  rw [hsn,show alS (.mk k al n on args dirs kids)=args::alL kids by simp only [alS],List.length_append,List.length_cons,alL_len] at hle
  refine ⟨p,hp,⟨h0,hlt⟩,_,x1.cell hc0 id,_,x1.cell hc1 id,_,x1.cell hc2 id,_,x1.cell hc3 id,_,_,_,x1.cell hc4 id,_,_,_,x1.cell hc5 id,_,_,_,x1.cell hc6 id,trivial,trivial,trivial,?_⟩
  have hx16:Ext (fun _=>False) w1 (w1.alloc (.cells #[.int .i64 k,.string al,.string n,.string on,.slice a1 l1 c1,.slice a2 l2 c2,.slice a3 l3 c3] 104)):=(Ext.refl w1).alloc _
  obtain ⟨A2,C2,w19,r19,ac19,k19⟩:=(ac.step hx16).one appAL RAL.len (x:=args) (cs:=[.slice a1 l1 c1]) ⟨a1,l1,c1,rfl,hv1⟩ (fun v hv=>by simp only [List.mem_singleton] at hv;subst hv;rfl) (by omega)
  refine ⟨A2,L+1,C2,w19,r19,⟨k19 _ (by decide),trivial⟩,?_⟩
  refine (IHk a3 l3 c3 w19 (hw0.then ac19.1) hv3 (by omega)).mono ?_
  rintro _ w21 ⟨A3,L3,C3,rfl,ac21⟩
  have hlk:=alL_len kids
  obtain ⟨A4,C4,w24,r24,ac24,k24⟩:=(ac19.step ac21.1).more appAL RAL.len (ac21.sl (by omega) (by omega)) (by rw [List.length_append,List.length_cons,List.length_nil];omega)
  refine ⟨A3,L3,C3,rfl,⟨ac21.1.keepT _,trivial⟩,A4,L+1+L3,C4,w24,r24,⟨k24 _ (by decide),trivial⟩,?_⟩
  rw [wrap_lt h0 (by omega)]
  refine next h0 hlt ?_
  rw [hsn,show alS (.mk k al n on args dirs kids)=[args]++alL kids by simp only [alS];rfl,<- List.append_assoc]
  exact ac24
 ·have hle:=of_decide_eq_false hge
  rw [List.take_of_length_le (by omega)] at ac
  exact ⟨A,L,C,rfl,ac⟩
theorem c_argListsOf_all {w0:World}:∀ (d:Nat) (xs:List Sel),SizeOf.sizeOf xs<d->ALof w0 xs
 | 0,_,h=>by omega
 | d+1,xs,h=>c_argListsOf_of fun k al n on args dirs kids hm=>c_argListsOf_all d kids (by
   have:=List.sizeOf_lt_of_mem hm
   simp only [Sel.mk.sizeOf_spec] at this
   omega)
theorem c_argListsOf (w0:World)(xs:List Sel):ALof w0 xs:=c_argListsOf_all _ xs (Nat.lt_succ_self _)
abbrev USof (w0:World)(xs:List Sel):Prop:=∀ (a:OA) (l c:Nat) (w:World),Ext (fun _=>False) w0 w->RSels w0 a l c xs->okSels xs->selL xs<=2097152->
 CP 131 #[.slice a l c] w fun e w'=>∃ A L C,e=.returned (.slice A L C)/\Acc w w' 204 2 (RUse w0) A L C (usL xs)
theorem small_use {a:OA}{l c:Nat}{s:BA}(h:s.size<=4194304):∀ v∈[Value.slice a l c,.string s],smallV v:=fun v hv=>by
 simp only [List.mem_cons,List.not_mem_nil,or_false] at hv
 rcases hv with rfl|rfl
 ·rfl
 ·exact h
theorem c_usesOf_of {w0:World}{xs:List Sel}(IH:∀ k al n on args dirs kids,Sel.mk k al n on args dirs kids∈xs->USof w0 kids):USof w0 xs:=by
 intro a l c w hw0 hl hok hfew
 obtain ⟨e1,e3⟩:=hl.len
 rw [<- usL_len,usL_flat] at hfew
 rw [usL_flat]
 refine q_usesOf a l c w _ ⟨fun A L C i w1=>0<=i/\i<=l/\Acc w w1 204 2 (RUse w0) A L C ((xs.take i.toNat).flatMap usS),fun _ _ _ i _=>((l:Int)-i).toNat,⟨by omega,by omega,Acc.nil (Ext.refl w)⟩,?_⟩
 rintro A L C i w1 ⟨h0,hi,ac⟩
 refine ⟨fun hlt=>?_,fun hge=>?_⟩
 ·have hlt:=of_decide_eq_true hlt
  have x1:=hw0.then ac.1
  obtain ⟨p,x,hp,hxs,cs,hc,hv⟩:=hl.get h0 hlt
  have hmem:=List.mem_of_getElem? hxs
  have hokx:=okSels_iff.1 hok x hmem
  have hsn:=fm_snoc usS h0 hxs
  have hle:=fm_take usS xs (i+1).toNat
  have hsel:=selL_in hmem
  rw [<- usL_len xs,usL_flat] at hsel
  obtain ⟨k,al,n,on,args,dirs,kids⟩:=x
  have IHk:=IH k al n on args dirs kids hmem
  obtain ⟨a1,l1,c1,a2,l2,c2,a3,l3,c3,rfl,hv1,hv2,hv3⟩:=RSel_mk.1 hv
  obtain ⟨⟨_,_,hc0⟩,hs0,⟨_,_,hc1⟩,hs1,⟨_,_,hc2⟩,hs2,⟨_,_,hc3⟩,hs3,⟨_,_,hc4⟩,hs4,⟨_,_,hc5⟩,hs5,⟨_,_,hc6⟩,-⟩:=hc
  simp only [okSel] at hokx
  obtain ⟨hk,-, -, hkids,-⟩:=hokx
  simp only [selS] at hsel
  rw [hsn,show usS (.mk k al n on args dirs kids)=dirs::usL kids by simp only [usS],List.length_append,List.length_cons,usL_len] at hle
  refine ⟨p,hp,⟨h0,hlt⟩,_,x1.cell hc0 id,_,x1.cell hc1 id,_,x1.cell hc2 id,_,x1.cell hc3 id,_,_,_,x1.cell hc4 id,_,_,_,x1.cell hc5 id,_,_,_,x1.cell hc6 id,trivial,trivial,fun w17 e17=>⟨trivial,?_⟩⟩
  have hx17:Ext (fun _=>False) w1 w17:=by rw [e17];exact ((Ext.refl w1).alloc _).drew
  have B18:=Blk.made w17 9 [.string bField,.string bSpread,.string bInline]
  have hx18:Ext (fun _=>False) w17 (w17.alloc (.cells #[.string bField,.string bSpread,.string bInline] 9)):=(Ext.refl w17).alloc _
  have hcell:∃ s:BA,s.size<=4194304/\(w17.alloc (.cells #[.string bField,.string bSpread,.string bInline] 9)).cell? ((adr w17.heap.size).add (k.toNat*1))=some (.string s):=by
   rcases hk with rfl|rfl|rfl
   ·exact ⟨bField,by decide,(B18.at (j:=0) rfl).cell⟩
   ·exact ⟨bSpread,by decide,(B18.at (j:=1) rfl).cell⟩
   ·exact ⟨bInline,by decide,(B18.at (j:=2) rfl).cell⟩
  obtain ⟨s,hs,hsc⟩:=hcell
  refine ⟨⟨rfl,rfl,trivial⟩,_,rfl,⟨by omega,by omega⟩,s,hsc,trivial,trivial,trivial,?_⟩
  obtain ⟨A2,C2,w23,r23,ac23,k23⟩:=((ac.step hx17).step hx18).one appU RUse.len (x:=dirs) (cs:=[.slice a2 l2 c2,.string s]) ⟨a2,l2,c2,s,rfl,hv2⟩ (small_use hs) (by omega)
  refine ⟨A2,L+1,C2,w23,r23,⟨k23 _ (by decide),trivial⟩,trivial,trivial,?_⟩
  refine (IHk a3 l3 c3 w23 (hw0.then ac23.1) hv3 hkids (by omega)).mono ?_
  rintro _ w25 ⟨A3,L3,C3,rfl,ac25⟩
  have hlk:=usL_len kids
  obtain ⟨A4,C4,w28,r28,ac28,k28⟩:=(ac23.step ac25.1).more appU RUse.len (ac25.sl (by omega) (by omega)) (by rw [List.length_append,List.length_cons,List.length_nil];omega)
  refine ⟨A3,L3,C3,rfl,⟨ac25.1.keepT _,trivial⟩,A4,L+1+L3,C4,w28,r28,⟨k28 _ (by decide),trivial⟩,?_⟩
  rw [wrap_lt h0 (by omega)]
  refine next h0 hlt ?_
  rw [hsn,show usS (.mk k al n on args dirs kids)=[dirs]++usL kids by simp only [usS];rfl,<- List.append_assoc]
  exact ac28
 ·have hle:=of_decide_eq_false hge
  rw [List.take_of_length_le (by omega)] at ac
  exact ⟨A,L,C,rfl,ac⟩
theorem c_usesOf_all {w0:World}:∀ (d:Nat) (xs:List Sel),SizeOf.sizeOf xs<d->USof w0 xs
 | 0,_,h=>by omega
 | d+1,xs,h=>c_usesOf_of fun k al n on args dirs kids hm=>c_usesOf_all d kids (by
   have:=List.sizeOf_lt_of_mem hm
   simp only [Sel.mk.sizeOf_spec] at this
   omega)
theorem c_usesOf (w0:World)(xs:List Sel):USof w0 xs:=c_usesOf_all _ xs (Nat.lt_succ_self _)
theorem c_location (s:BA)(w:World):CP 130 #[.string s] w fun e w'=>∃ s':BA,e=.returned (.string s')/\s'.size<=4194304/\w'=w:=
 q_location s w _ ⟨fun _=>⟨_,rfl,by decide,rfl⟩,fun _=>⟨fun _=>⟨_,rfl,by decide,rfl⟩,fun _=>⟨_,rfl,by decide,rfl⟩⟩⟩
def usO (x:OpD):List (List Dir):=[x.dirs]++x.vars.map VarD.dirs++usL x.kids
def usF (x:Frag):List (List Dir):=[x.dirs]++usL x.kids
def usesD (ops:List OpD)(frags:List Frag):List (List Dir):=ops.flatMap usO++frags.flatMap usF
theorem fm_le {α β:Type}{f:α->List β}{g:α->Nat}:∀ {l:List α},(∀ x∈l,(f x).length<=g x)->(l.flatMap f).length<=(l.map g).sum
 | [],_=>by simp
 | x::l,h=>by
  have h1:=h x (by simp)
  have h2:=fm_le (l:=l) (f:=f) (g:=g) fun y hy=>h y (by simp [hy])
  simp only [List.flatMap_cons,List.length_append,List.map_cons,List.sum_cons]
  omega
theorem usO_len (x:OpD):(usO x).length<=opW x:=by
 have h1:=selL_W x.kids
 have h2:x.vars.length<=varsW x.vars:=lenW_sum fun y _=>by simp only [varW];omega
 simp only [usO,opW,List.length_append,List.length_cons,List.length_nil,List.length_map,usL_len]
 omega
theorem usF_len (x:Frag):(usF x).length<=fragW x:=by
 have h1:=selL_W x.kids
 simp only [usF,fragW,List.length_append,List.length_cons,List.length_nil,usL_len]
 omega
theorem uses_len (ops:List OpD)(frags:List Frag):(usesD ops frags).length<=docW ops frags:=by
 have h1:=fm_le (l:=ops) fun x _=>usO_len x
 have h2:=fm_le (l:=frags) fun x _=>usF_len x
 simp only [usesD,docW,List.length_append]
 omega
theorem c_uses {w0 w:World}{a:OA}{l c:Nat}{a':OA}{l' c':Nat}{ops:List OpD}{frags:List Frag}(hw0:Ext (fun _=>False) w0 w)(hl:ROps w0 a l c ops)(hl':RFrags w0 a' l' c' frags)(ok1:∀ x∈ops,okOp x)(ok2:∀ x∈frags,okFrag x)(hs:docW ops frags<=2097152):
  CP 94 #[.agg #[.slice a l c,.slice a' l' c']] w fun e w'=>∃ A L C,e=.returned (.slice A L C)/\Acc w w' 204 2 (RUse w0) A L C (usesD ops frags):=by
 obtain ⟨e1,e3⟩:=hl.len
 obtain ⟨e1',e3'⟩:=hl'.len
 have hul:=Nat.le_trans (uses_len ops frags) hs
 have hsel:=Nat.le_trans (selTot_W ops frags) hs
 unfold selTot at hsel
 have hs1:∀ x∈ops,selL x.kids<=2097152:=fun x hx=>by
  have:=memW_sum (fun x:OpD=>selL x.kids) hx
  omega
 have hs2:∀ x∈frags,selL x.kids<=2097152:=fun x hx=>by
  have:=memW_sum (fun x:Frag=>selL x.kids) hx
  omega
 simp only [usesD,List.length_append] at hul
 have hx0:=(Ext.refl (X:=fun _=>False) w).alloc (.cells #[.slice a l c,.slice a' l' c'] 30)
 refine q_uses a l c a' l' c' w _ ⟨trivial,?_⟩
 refine ⟨fun A L C i w1=>0<=i/\i<=l/\Acc w w1 204 2 (RUse w0) A L C ((ops.take i.toNat).flatMap usO),fun _ _ _ i _=>((l:Int)-i).toNat,⟨by omega,by omega,Acc.nil hx0⟩,?_⟩
 rintro A L C i w1 ⟨h0,hi,ac⟩
 refine ⟨fun hlt=>?_,fun hge=>?_⟩
 ·have hlt:=of_decide_eq_true hlt
  have x1:=hw0.then ac.1
  obtain ⟨p,x,hp,hxs,cs,hc,a1,l1,c1,a2,l2,c2,a3,l3,c3,rfl,hv1,hv2,hv3⟩:=hl.get h0 hlt
  obtain ⟨⟨_,_,hc0⟩,hs0,⟨_,_,hc1⟩,hs1',⟨_,_,hc2⟩,hs2',⟨_,_,hc3⟩,hs3,⟨_,_,hc4⟩,-⟩:=hc
  have hmem:=List.mem_of_getElem? hxs
  have hsn:=fm_snoc usO h0 hxs
  have hle:=fm_take usO ops (i+1).toNat
  have hkl:=hs1 x hmem
  obtain ⟨d1,d3⟩:=hv1.len
  rw [hsn] at hle
  simp only [usO,List.length_append,List.length_cons,List.length_nil,List.length_map,usL_len] at hle
  refine ⟨p,hp,⟨h0,hlt⟩,_,x1.cell hc0 id,_,x1.cell hc1 id,_,_,_,x1.cell hc2 id,_,_,_,x1.cell hc3 id,_,_,_,x1.cell hc4 id,trivial,trivial,fun w17 e17=>?_⟩
  have hx17:Ext (fun _=>False) w1 w17:=by rw [e17];exact ((Ext.refl w1).alloc _).drew
  refine (c_location x.kind w17).mono ?_
  rintro _ w19 ⟨s,rfl,hss,rfl⟩
  obtain ⟨A2,C2,w23,r23,ac23,k23⟩:=(ac.step hx17).one appU RUse.len (x:=x.dirs) (cs:=[.slice a2 l2 c2,.string s]) ⟨a2,l2,c2,s,rfl,hv2⟩ (small_use hss) (by omega)
  refine ⟨s,rfl,⟨(Ext.refl _).keepT _,(Ext.refl _).keepT _,trivial⟩,⟨rfl,trivial⟩,trivial,trivial,trivial,A2,L+1,C2,w23,r23,⟨k23 _ (by decide),k23 _ (by decide),trivial⟩,trivial,trivial,?_⟩
  refine ⟨fun A L C j w2=>0<=j/\j<=l1/\Acc w w2 204 2 (RUse w0) A L C ((ops.take i.toNat).flatMap usO++[x.dirs]++(x.vars.take j.toNat).map VarD.dirs),fun _ _ _ j _=>((l1:Int)-j).toNat,⟨by omega,by omega,by simpa using ac23⟩,?_⟩
  rintro A3 L3 C3 j w2 ⟨j0,hj,ac2⟩
  refine ⟨fun hjl=>?_,fun hjg=>?_⟩
  ·have hjl:=of_decide_eq_true hjl
   have x2:=hw0.then ac2.1
   obtain ⟨p2,y,hp2,hys,cs2,hc',n,b1,m1,g1,nn,b2,m2,g2,b3,m3,g3,rfl,hw1,hw2,hw3⟩:=hv1.get j0 hjl
   obtain ⟨⟨_,_,hd0⟩,hz0,⟨_,_,hd1⟩,hz1,⟨_,_,hd2⟩,hz2,⟨_,_,hd3⟩,hz3,⟨_,_,hd4⟩,hz4,⟨_,_,hd5⟩,-⟩:=hc'
   have hy37:Ext (fun _=>False) w2 (w2.alloc (.cells #[.string y.name,.string n,.slice b1 m1 g1,.bool nn,.slice b2 m2 g2,.slice b3 m3 g3] 58)):=(Ext.refl w2).alloc _
   obtain ⟨A4,C4,w40,r40,ac40,k40⟩:=(ac2.step hy37).one appU RUse.len (x:=y.dirs) (cs:=[.slice b3 m3 g3,.string bVarLoc]) ⟨b3,m3,g3,bVarLoc,rfl,hw3⟩ (small_use (by decide)) (by
    simp only [List.length_append,List.length_cons,List.length_nil,List.length_map,List.length_take]
    omega)
   refine ⟨p2,hp2,⟨j0,hjl⟩,_,x2.cell hd0 id,_,x2.cell hd1 id,_,_,_,x2.cell hd2 id,_,x2.cell hd3 id,_,_,_,x2.cell hd4 id,_,_,_,x2.cell hd5 id,trivial,trivial,trivial,trivial,A4,L3+1,C4,w40,r40,⟨k40 _ (by decide),k40 _ (by decide),k40 _ (by decide),trivial⟩,?_⟩
   rw [wrap_lt j0 (by omega)]
   refine next j0 hjl ?_
   rw [take_snoc' j0 hys,List.map_append,<- List.append_assoc]
   exact ac40
  ·have hje:=of_decide_eq_false hjg
   rw [List.take_of_length_le (l:=x.vars) (by omega)] at ac2
   refine (c_usesOf w0 x.kids a3 l3 c3 w2 (hw0.then ac2.1) hv3 (ok1 x hmem).2.2.2 hkl).mono ?_
   rintro _ w42 ⟨A5,L5,C5,rfl,ac42⟩
   have hlk:=usL_len x.kids
   obtain ⟨A6,C6,w45,r45,ac45,k45⟩:=(ac2.step ac42.1).more appU RUse.len (ac42.sl (by omega) (by omega)) (by
    simp only [List.length_append,List.length_cons,List.length_nil,List.length_map,usL_len]
    omega)
   refine ⟨A5,L5,C5,rfl,⟨ac42.1.keepT _,ac42.1.keepT _,trivial⟩,A6,L3+L5,C6,w45,r45,⟨k45 _ (by decide),k45 _ (by decide),trivial⟩,?_⟩
   rw [wrap_lt h0 (by omega)]
   refine next h0 hlt ?_
   rw [hsn]
   simpa only [usO,List.append_assoc] using ac45
 ·have hle:=of_decide_eq_false hge
  rw [List.take_of_length_le (by omega)] at ac
  refine ⟨fun A L C i w1=>0<=i/\i<=l'/\Acc w w1 204 2 (RUse w0) A L C (ops.flatMap usO++(frags.take i.toNat).flatMap usF),fun _ _ _ i _=>((l':Int)-i).toNat,⟨by omega,by omega,by simpa using ac⟩,?_⟩
  clear ac hle hge h0 hi
  rintro A L C i w1 ⟨h0,hi,ac⟩
  refine ⟨fun hlt=>?_,fun hge=>?_⟩
  ·have hlt:=of_decide_eq_true hlt
   have x1:=hw0.then ac.1
   obtain ⟨p,x,hp,hxs,cs,hc,a2,l2,c2,a3,l3,c3,rfl,hv2,hv3⟩:=hl'.get h0 hlt
   obtain ⟨⟨_,_,hc0⟩,hs0,⟨_,_,hc1⟩,hs1',⟨_,_,hc2⟩,hs2',⟨_,_,hc3⟩,-⟩:=hc
   have hmem:=List.mem_of_getElem? hxs
   have hsn:=fm_snoc usF h0 hxs
   have hle:=fm_take usF frags (i+1).toNat
   have hkl:=hs2 x hmem
   rw [hsn] at hle
   simp only [usF,List.length_append,List.length_cons,List.length_nil,usL_len] at hle
   have hx57:Ext (fun _=>False) w1 (w1.alloc (.cells #[.string x.name,.string x.on,.slice a2 l2 c2,.slice a3 l3 c3] 62)):=(Ext.refl w1).alloc _
   obtain ⟨A2,C2,w60,r60,ac60,k60⟩:=(ac.step hx57).one appU RUse.len (x:=x.dirs) (cs:=[.slice a2 l2 c2,.string bFragLoc]) ⟨a2,l2,c2,bFragLoc,rfl,hv2⟩ (small_use (by decide)) (by
    simp only [List.length_append,usF]
    omega)
   refine ⟨p,hp,⟨h0,hlt⟩,_,x1.cell hc0 id,_,x1.cell hc1 id,_,_,_,x1.cell hc2 id,_,_,_,x1.cell hc3 id,trivial,trivial,trivial,trivial,A2,L+1,C2,w60,r60,⟨k60 _ (by decide),k60 _ (by decide),trivial⟩,?_⟩
   refine (c_usesOf w0 x.kids a3 l3 c3 w60 (hw0.then ac60.1) hv3 (ok2 x hmem).2.1 hkl).mono ?_
   rintro _ w62 ⟨A5,L5,C5,rfl,ac62⟩
   have hlk:=usL_len x.kids
   obtain ⟨A6,C6,w65,r65,ac65,k65⟩:=(ac60.step ac62.1).more appU RUse.len (ac62.sl (by omega) (by omega)) (by
    simp only [List.length_append,List.length_cons,List.length_nil,usL_len,usF]
    omega)
   refine ⟨A5,L5,C5,rfl,⟨ac62.1.keepT _,ac62.1.keepT _,trivial⟩,A6,L+1+L5,C6,w65,r65,⟨k65 _ (by decide),k65 _ (by decide),trivial⟩,?_⟩
   rw [wrap_lt h0 (by omega)]
   refine next h0 hlt ?_
   rw [hsn]
   simpa only [usF,List.append_assoc] using ac65
  ·have hle:=of_decide_eq_false hge
   rw [List.take_of_length_le (by omega)] at ac
   exact ⟨A,L,C,rfl,ac⟩
def dArgs (ds:List Dir):List (List Argm):=ds.map Dir.args
def argListsD (ops:List OpD)(frags:List Frag):List (List Argm):=(ops.flatMap fun x=>alL x.kids)++(frags.flatMap fun x=>alL x.kids)++(usesD ops frags).flatMap dArgs
theorem dArgs_len (ds:List Dir):(dArgs ds).length<=dirsW ds:=by
 rw [dArgs,List.length_map]
 exact lenW_sum fun y _=>by simp only [dirW];omega
theorem al_us_len:∀ l:List Sel,(alL l).length+((usL l).flatMap dArgs).length<=selsW l
 | []=>Nat.le_refl _
 | .mk k al n on args dirs kids::l=>by
  have h1:=al_us_len kids
  have h2:=al_us_len l
  have h3:=dArgs_len dirs
  simp only [alL,alS,usL,usS,selsW,selW,List.length_append,List.length_cons,List.flatMap_append,List.flatMap_cons]
  omega
theorem argLists_len (ops:List OpD)(frags:List Frag):(argListsD ops frags).length<=docW ops frags:=by
 have h1:(ops.flatMap fun x=>alL x.kids).length+((ops.flatMap usO).flatMap dArgs).length<=(ops.map opW).sum:=by
  induction ops with
  | nil=>exact Nat.le_refl _
  | cons x r ih=>
   have h2:=al_us_len x.kids
   have h3:=dArgs_len x.dirs
   have h4:((x.vars.map VarD.dirs).flatMap dArgs).length<=varsW x.vars:=by
    rw [List.flatMap_map]
    exact fm_le fun y _=>by
     have:=dArgs_len y.dirs
     simp only [varW]
     omega
   simp only [List.flatMap_cons,List.length_append,List.map_cons,List.sum_cons,List.flatMap_append,usO,List.flatMap_nil,List.length_nil,opW]
   omega
 have h2:(frags.flatMap fun x=>alL x.kids).length+((frags.flatMap usF).flatMap dArgs).length<=(frags.map fragW).sum:=by
  clear h1
  induction frags with
  | nil=>exact Nat.le_refl _
  | cons x r ih=>
   have h2:=al_us_len x.kids
   have h3:=dArgs_len x.dirs
   simp only [List.flatMap_cons,List.length_append,List.map_cons,List.sum_cons,List.flatMap_append,usF,List.flatMap_nil,List.length_nil,fragW]
   omega
 simp only [argListsD,usesD,docW,List.length_append,List.flatMap_append]
 omega
theorem c_argLists {w0 w:World}{a:OA}{l c:Nat}{a':OA}{l' c':Nat}{ops:List OpD}{frags:List Frag}(hw0:Ext (fun _=>False) w0 w)(hl:ROps w0 a l c ops)(hl':RFrags w0 a' l' c' frags)(ok1:∀ x∈ops,okOp x)(ok2:∀ x∈frags,okFrag x)(hs:docW ops frags<=2097152):
  CP 48 #[.agg #[.slice a l c,.slice a' l' c']] w fun e w'=>∃ A L C,e=.returned (.slice A L C)/\Acc w w' 83 1 (RAL w0) A L C (argListsD ops frags):=by
 obtain ⟨e1,e3⟩:=hl.len
 obtain ⟨e1',e3'⟩:=hl'.len
 have hul:=Nat.le_trans (argLists_len ops frags) hs
 have hul2:=Nat.le_trans (uses_len ops frags) hs
 have hsel:=Nat.le_trans (selTot_W ops frags) hs
 unfold selTot at hsel
 have hs1:∀ x∈ops,selL x.kids<=2097152:=fun x hx=>by
  have:=memW_sum (fun x:OpD=>selL x.kids) hx
  omega
 have hs2:∀ x∈frags,selL x.kids<=2097152:=fun x hx=>by
  have:=memW_sum (fun x:Frag=>selL x.kids) hx
  omega
 simp only [argListsD,List.length_append] at hul
 have hx0:=(Ext.refl (X:=fun _=>False) w).alloc (.cells #[.slice a l c,.slice a' l' c'] 30)
 refine q_argLists a l c a' l' c' w _ ⟨trivial,?_⟩
 refine ⟨fun A L C i w1=>0<=i/\i<=l/\Acc w w1 83 1 (RAL w0) A L C ((ops.take i.toNat).flatMap fun x=>alL x.kids),fun _ _ _ i _=>((l:Int)-i).toNat,⟨by omega,by omega,Acc.nil hx0⟩,?_⟩
 rintro A L C i w1 ⟨h0,hi,ac⟩
 refine ⟨fun hlt=>?_,fun hge=>?_⟩
 ·have hlt:=of_decide_eq_true hlt
  have x1:=hw0.then ac.1
  obtain ⟨p,x,hp,hxs,cs,hc,a1,l1,c1,a2,l2,c2,a3,l3,c3,rfl,hv1,hv2,hv3⟩:=hl.get h0 hlt
  obtain ⟨⟨_,_,hc0⟩,hs0,⟨_,_,hc1⟩,hs1',⟨_,_,hc2⟩,hs2',⟨_,_,hc3⟩,hs3,⟨_,_,hc4⟩,-⟩:=hc
  have hmem:=List.mem_of_getElem? hxs
  have hsn:=fm_snoc (fun x:OpD=>alL x.kids) h0 hxs
  have hle:=fm_take (fun x:OpD=>alL x.kids) ops (i+1).toNat
  have hkl:=hs1 x hmem
  rw [hsn,List.length_append] at hle
  refine ⟨p,hp,⟨h0,hlt⟩,_,x1.cell hc0 id,_,x1.cell hc1 id,_,_,_,x1.cell hc2 id,_,_,_,x1.cell hc3 id,_,_,_,x1.cell hc4 id,trivial,trivial,?_⟩
  have hx16:Ext (fun _=>False) w1 (w1.alloc (.cells #[.string x.kind,.string x.name,.slice a1 l1 c1,.slice a2 l2 c2,.slice a3 l3 c3] 50)):=(Ext.refl w1).alloc _
  refine (c_argListsOf w0 x.kids a3 l3 c3 _ (x1.then hx16) hv3 hkl).mono ?_
  rintro _ w18 ⟨A2,L2,C2,rfl,ac18⟩
  have hlk:=alL_len x.kids
  obtain ⟨A6,C6,w21,r21,ac21,k21⟩:=((ac.step hx16).step ac18.1).more appAL RAL.len (ac18.sl (by omega) (by omega)) (by omega)
  refine ⟨A2,L2,C2,rfl,⟨ac18.1.keepT _,ac18.1.keepT _,trivial⟩,A6,L+L2,C6,w21,r21,⟨k21 _ (by decide),k21 _ (by decide),trivial⟩,?_⟩
  rw [wrap_lt h0 (by omega)]
  refine next h0 hlt ?_
  rw [hsn]
  exact ac21
 ·have hle:=of_decide_eq_false hge
  rw [List.take_of_length_le (by omega)] at ac
  refine ⟨fun A L C i w1=>0<=i/\i<=l'/\Acc w w1 83 1 (RAL w0) A L C ((ops.flatMap fun x=>alL x.kids)++(frags.take i.toNat).flatMap fun x=>alL x.kids),fun _ _ _ i _=>((l':Int)-i).toNat,⟨by omega,by omega,by simpa using ac⟩,?_⟩
  clear ac hle hge h0 hi
  rintro A L C i w1 ⟨h0,hi,ac⟩
  refine ⟨fun hlt=>?_,fun hge=>?_⟩
  ·have hlt:=of_decide_eq_true hlt
   have x1:=hw0.then ac.1
   obtain ⟨p,x,hp,hxs,cs,hc,a2,l2,c2,a3,l3,c3,rfl,hv2,hv3⟩:=hl'.get h0 hlt
   obtain ⟨⟨_,_,hc0⟩,hs0,⟨_,_,hc1⟩,hs1',⟨_,_,hc2⟩,hs2',⟨_,_,hc3⟩,-⟩:=hc
   have hmem:=List.mem_of_getElem? hxs
   have hsn:=fm_snoc (fun x:Frag=>alL x.kids) h0 hxs
   have hle:=fm_take (fun x:Frag=>alL x.kids) frags (i+1).toNat
   have hkl:=hs2 x hmem
   rw [hsn,List.length_append] at hle
   refine ⟨p,hp,⟨h0,hlt⟩,_,x1.cell hc0 id,_,x1.cell hc1 id,_,_,_,x1.cell hc2 id,_,_,_,x1.cell hc3 id,trivial,trivial,?_⟩
   have hx33:Ext (fun _=>False) w1 (w1.alloc (.cells #[.string x.name,.string x.on,.slice a2 l2 c2,.slice a3 l3 c3] 62)):=(Ext.refl w1).alloc _
   refine (c_argListsOf w0 x.kids a3 l3 c3 _ (x1.then hx33) hv3 hkl).mono ?_
   rintro _ w18 ⟨A2,L2,C2,rfl,ac18⟩
   have hlk:=alL_len x.kids
   obtain ⟨A6,C6,w21,r21,ac21,k21⟩:=((ac.step hx33).step ac18.1).more appAL RAL.len (ac18.sl (by omega) (by omega)) (by rw [List.length_append];omega)
   refine ⟨A2,L2,C2,rfl,⟨ac18.1.keepT _,ac18.1.keepT _,trivial⟩,A6,L+L2,C6,w21,r21,⟨k21 _ (by decide),k21 _ (by decide),trivial⟩,?_⟩
   rw [wrap_lt h0 (by omega)]
   refine next h0 hlt ?_
   rw [hsn,<- List.append_assoc]
   exact ac21
  ·have hle:=of_decide_eq_false hge
   rw [List.take_of_length_le (by omega)] at ac
   refine (c_uses (hw0.then ac.1) hl hl' ok1 ok2 hs).mono ?_
   rintro _ w40 ⟨AU,LU,CU,rfl,acU⟩
   have f1:=acU.2.1
   refine ⟨AU,LU,CU,rfl,⟨acU.1.keepT _,trivial⟩,?_⟩
   refine ⟨fun A L C i w1=>0<=i/\i<=LU/\KeepT 204 w40 w1/\Acc w w1 83 1 (RAL w0) A L C ((ops.flatMap fun x=>alL x.kids)++(frags.flatMap fun x=>alL x.kids)++((usesD ops frags).take i.toNat).flatMap dArgs),fun _ _ _ i _=>((LU:Int)-i).toNat,⟨by omega,by omega,fun _ _ _ h=>h,by simpa using ac.step acU.1⟩,?_⟩
   clear ac hle hge h0 hi
   rintro A L C i w1 ⟨h0,hi,hx40,ac⟩
   refine ⟨fun hlt=>?_,fun hge=>?_⟩
   ·have hlt:=of_decide_eq_true hlt
    obtain ⟨p,ds,cs,hp,hxs,⟨a2,l2,c2,s,rfl,hv⟩,hc⟩:=acU.get h0 hlt
    have hc0:At w40 204 (p.add (i.toNat*2)) (.slice a2 l2 c2):=by simpa [Addr.add] using hc 0 _ rfl
    have hc1:=hc 1 _ rfl
    have hsn:=fm_snoc dArgs h0 hxs
    have hle:=fm_take dArgs (usesD ops frags) (i+1).toNat
    obtain ⟨d1,d3⟩:=hv.len
    rw [hsn,List.length_append] at hle
    have hdl:(dArgs ds).length=ds.length:=by simp [dArgs]
    refine ⟨p,hp,⟨h0,hlt⟩,_,_,_,(hx40.at hc0).cell,_,(hx40.at hc1).cell,trivial,trivial,?_⟩
    have hy51:Ext (fun _=>False) w1 (w1.alloc (.cells #[.slice a2 l2 c2,.string s] 204)):=(Ext.refl w1).alloc _
    refine ⟨fun A L C j w2=>0<=j/\j<=l2/\KeepT 204 w40 w2/\Acc w w2 83 1 (RAL w0) A L C ((ops.flatMap fun x=>alL x.kids)++(frags.flatMap fun x=>alL x.kids)++((usesD ops frags).take i.toNat).flatMap dArgs++(dArgs ds).take j.toNat),fun _ _ _ j _=>((l2:Int)-j).toNat,⟨by omega,by omega,hx40.then (hy51.keepT _),by simpa using ac.step hy51⟩,?_⟩
    clear ac
    rintro A L C j w2 ⟨j0,hj,hx2,ac⟩
    refine ⟨fun hjl=>?_,fun hjg=>?_⟩
    ·have hjl:=of_decide_eq_true hjl
     have x2:=hw0.then ac.1
     obtain ⟨p2,d,hp2,hds,cs2,hc',a3,l3,c3,rfl,hv3⟩:=hv.get j0 hjl
     obtain ⟨⟨_,_,hd0⟩,hz0,⟨_,_,hd1⟩,-⟩:=hc'
     have hy61:Ext (fun _=>False) w2 (w2.alloc (.cells #[.string d.name,.slice a3 l3 c3] 206)):=(Ext.refl w2).alloc _
     obtain ⟨A4,C4,w64,r64,ac64,k64⟩:=(ac.step hy61).one appAL RAL.len (x:=d.args) (cs:=[.slice a3 l3 c3]) ⟨a3,l3,c3,rfl,hv3⟩ (fun v hv=>by simp only [List.mem_singleton] at hv;subst hv;rfl) (by
      simp only [List.length_append,List.length_take]
      omega)
     refine ⟨p2,hp2,⟨j0,hjl⟩,_,x2.cell hd0 id,_,_,_,x2.cell hd1 id,trivial,trivial,trivial,A4,L+1,C4,w64,r64,⟨k64 _ (by decide),k64 _ (by decide),k64 _ (by decide),trivial⟩,?_⟩
     rw [wrap_lt j0 (by omega)]
     refine next j0 hjl ⟨(hx2.then (hy61.keepT _)).then (KeepT.then (((Ext.refl _).alloc _).keepT _) (k64 _ (by decide))),?_⟩
     ·rw [take_snoc' (xs:=dArgs ds) j0 (x:=d.args) (by simp [dArgs,hds]),<- List.append_assoc]
      exact ac64
    ·have hje:=of_decide_eq_false hjg
     rw [List.take_of_length_le (l:=dArgs ds) (by omega)] at ac
     rw [wrap_lt h0 (by omega)]
     refine next h0 hlt ⟨hx2,?_⟩
     rw [hsn,<- List.append_assoc]
     exact ac
   ·have hle:=of_decide_eq_false hge
    rw [List.take_of_length_le (by omega)] at ac
    exact ⟨A,L,C,rfl,ac⟩
end Go.VC
namespace Go.VC
open Go Go.Proofs
variable [DB]
def badKeys:Ev->Prop
 | .val (.mk k _ kids)=>k=9/\¬ (kids.map (·.1)).Nodup
 | _=>False
section
variable {c:WCtx} {ae cnt:Nat} {bad:Ev->Prop} {l:List Ev} {w:World} {co:OA} {vm:Nat} {evs:List Value} {node:Value} {ev:Ev}
theorem c_Keys_1 (hbad:∀ e,bad e↔badKeys e)(hVM:∀ b,(b=cnt∨b=ae)->¬ c.M b)(hne:ae≠cnt)(hc:StK bad ae cnt l w)(hw:Wst c co vm evs w)(hk:slot ev=7)(hn:evNode c w node ev):
  CP 96 #[.pointer (some (adr c.wb)),node,.pointer (some (adr ae))] w fun e w'=>e=.returned (.tuple #[])/\Ext (fun b=>b=cnt∨b=ae) w w'/\StK bad ae cnt (l++[ev]) w':=by
 cases ev with
 | val v=>
  obtain ⟨b,rfl,hp⟩:=hn
  obtain ⟨k,r,kids⟩:=v
  obtain ⟨A,L,C,pos,hM,hB,hkids⟩:=PVal_mk.1 hp
  have hL0:=hkids.1
  have hL1:=hkids.2.2.1
  have hlt:cnt<w.heap.size/\ae<w.heap.size:=⟨hc.2.choose_spec.1.lt,hc.1.lt⟩
  refine q_rules_UniqueInputFieldNamesRule_1 (some (adr c.wb)) (some (adr b)) (adr ae) w _ ⟨adr b,rfl,k,hw.wk.nd hM hB (j:=2) rfl rfl,fun h9=>?_,fun h9=>?_⟩
  ·have hnb:¬ bad (.val (.mk k r kids)):=fun h=>by
    have:=((hbad _).1 h).1
    rw [this] at h9
    simp at h9
   exact ⟨rfl,Ext.refl w,(InK.start hc hnb).stop (by omega) Iff.rfl⟩
  ·have h9:k=9:=by simpa using h9
   subst h9
   intro w6
   have x6:Ext (fun _=>False) w w6:=(Ext.refl w).alloc _
   have m6:VM w6 w.heap.size []:=⟨[],SMap.made w,fun k=>⟨fun h=>by simp at h,fun _=>rfl⟩⟩
   have z6:w.heap.size<w6.heap.size:=(SMap.made w).lt
   clear_value w6
   have hwk:∀ {w':World},Ext (fun b=>b=cnt∨b=ae) w w'->Wk c c.w0 w':=fun x=>hw.wk.trans (Wk.ofExt x fun b hM hV=>hVM b hV hM)
   refine ⟨adr b,rfl,A,L,C,(hwk (x6.toM _)).nd hM hB (j:=1) rfl rfl,fun i w1=>0<=i/\i<=L/\Ext (fun b=>b=cnt∨b=ae) w w1/\InK bad ae cnt l i.toNat (¬ ((kids.take i.toNat).map (·.1)).Nodup) w1/\∃ vs,VM w1 w.heap.size vs/\∀ u,u∈vs↔u∈(kids.take i.toNat).map (·.1),fun i _=>((L:Int)-i).toNat,
    ⟨by omega,by omega,x6.toM _,InK.start (Cnt.ext hc x6 id id) (by simp),[],m6,by simp⟩,?_⟩
   rintro i w10 ⟨h0,hi,x10,c10,vs,m10,hvs⟩
   refine ⟨fun hlt'=>?_,fun hge=>?_⟩
   ·have hlt':=of_decide_eq_true hlt'
    obtain ⟨p,y,v,hpp,hx,hcell,cb,rfl,vb,pos',hMc,hBc,-⟩:=hkids.wget (hwk x10) (fun _=>rfl) h0 hlt'
    refine ⟨p,hpp,⟨h0,hlt'⟩,_,hcell,fun K15 hK15=>?_⟩
    have nm:∀ w',Ext (fun b=>b=cnt∨b=ae) w w'->w'.cell? ⟨cb,0,none⟩=some (.string y.1):=fun w' x=>(hwk x).nd hMc hBc (j:=0) rfl rfl
    have key:∀ w',Ext (fun b=>b=cnt∨b=ae) w w'->InK bad ae cnt l (i.toNat+1) (¬ ((kids.take i.toNat).map (·.1)++[y.1]).Nodup) w'->VM w' w.heap.size vs->K15 w':=by
     intro w' x' c' m'
     obtain ⟨w18,r18,m18,x18⟩:=m'.put y.1
     refine hK15 w' ⟨adr cb,rfl,y.1,nm w' x',w18,r18,trivial,?_⟩
     rw [wrap_lt h0 (by omega)]
     refine next h0 hlt' ⟨x'.trans x18 fun b hb e=>by
      have:b=w.heap.size:=e
      omega,?_,y.1::vs,m18,fun u=>?_⟩
     ·rw [take_snoc' h0 hx,List.map_append,show (i+1).toNat=i.toNat+1 by omega]
      exact Cnt.ext c' x18 (by show ¬ ae=w.heap.size;omega) (by show ¬ cnt=w.heap.size;omega)
     ·rw [take_snoc' h0 hx,List.map_append,List.mem_cons,List.mem_append,hvs]
      simp only [List.map_cons,List.map_nil,List.mem_cons,List.not_mem_nil,or_false]
      exact Or.comm
    obtain ⟨z,rz,hz⟩:=m10.look y.1
    refine ⟨adr cb,rfl,y.1,nm w10 x10,z,rz,fun h1=>?_,fun h1=>key w10 x10 (c10.good (by omega) ?_) m10⟩
    ·intro w22 e22
     have d22:Ext (fun _=>False) w10 w22:=by rw [e22];exact (Ext.refl w10).drew
     have x22:Ext (fun b=>b=cnt∨b=ae) w w22:=x10.trans d22 fun _ _ e=>e.elim
     have c22:=Cnt.ext c10 d22 id id
     have a22:=(hwk x22).at (a:=⟨cb,2,none⟩) hMc (hBc.at (j:=2) rfl) rfl
     refine ⟨_,(c22.1.at (j:=0) rfl).cell,adr cb,rfl,y.1,nm w22 x22,adr cb,rfl,pos',a22.cell,trivial,?_⟩
     refine tell c22 a22 hne ((Ext.refl w22).alloc _) rfl fun w' x' c'=>key w' (x22.trans x' fun _ _ e=>e) (InK.told c' (by omega) ?_) ((m10.ext d22 id).ext x' fun e=>?_)
     ·rw [nodup_snoc]
      exact fun h=>h.2 ((hvs _).1 (hz.1 h1))
     ·rcases e with e|e<;>omega
    ·have hnin:y.1∉(kids.take i.toNat).map (·.1):=fun h=>by
      rw [hz.2 ((hvs _).2 h)] at h1
      cases h1
     rw [nodup_snoc]
     exact ⟨fun h k=>h k.1,fun h k=>h ⟨k,hnin⟩⟩
   ·have hle:=of_decide_eq_false hge
    rw [List.take_of_length_le (by omega)] at c10
    refine ⟨rfl,x10,c10.stop (by omega) ⟨fun h=>(hbad _).2 ⟨rfl,h⟩,fun h=>((hbad (.val (.mk 9 r kids))).1 h).2⟩⟩
 | _=>cases hk
end
mutual
def dupK:Val->Prop
 | .mk k _ kids=>dupKs kids∨(k=9/\¬ (nz (kids.map (·.1))).Nodup)
def dupKs:List (BA × Val)->Prop
 | []=>False
 | x::l=>dupK x.2∨dupKs l
end
theorem dupKs_iff:∀ {l:List (BA × Val)},dupKs l↔∃ x∈l,dupK x.2
 | []=>by simp [dupKs]
 | x::l=>by simp [dupKs,dupKs_iff (l:=l)]
abbrev anyE (l:List Ev):Prop:=∃ e∈l,badKeys e
theorem anyE_app {a b:List Ev}:anyE (a++b)↔anyE a∨anyE b:=by
 constructor
 ·rintro ⟨e,he,h⟩
  exact (List.mem_append.1 he).imp (fun k=>⟨e,k,h⟩) fun k=>⟨e,k,h⟩
 ·rintro (⟨e,he,h⟩|⟨e,he,h⟩)
  ·exact ⟨e,List.mem_append.2 (.inl he),h⟩
  ·exact ⟨e,List.mem_append.2 (.inr he),h⟩
theorem anyE_one {e:Ev}:anyE [e]↔badKeys e:=by simp [anyE]
theorem anyE_no {l:List Ev}(h:∀ e∈l,slot e≠7):¬ anyE l:=by
 rintro ⟨e,he,hb⟩
 have:=h e he
 cases e with
 | val v=>exact this rfl
 | _=>cases hb
mutual
theorem anyE_val:∀ v:Val,okVal v->(anyE (evV v)↔dupK v)
 | .mk k r kids,h=>by
  simp only [okVal] at h
  obtain ⟨k0,k9,hk,hnm,hlow⟩:=h
  have ih:=anyE_kids kids hk
  have hb:badKeys (.val (.mk k r kids))↔k=9/\¬ (nz (kids.map (·.1))).Nodup:=by
   show (k=9/\¬ (kids.map (·.1)).Nodup)↔_
   constructor
   ·rintro ⟨h9,hd⟩
    refine ⟨h9,?_⟩
    rwa [nz_all fun x hx=>?_]
    obtain ⟨y,hy,rfl⟩:=List.mem_map.1 hx
    exact hnm h9 y hy
   ·rintro ⟨h9,hd⟩
    refine ⟨h9,?_⟩
    rwa [nz_all fun x hx=>?_] at hd
    obtain ⟨y,hy,rfl⟩:=List.mem_map.1 hx
    exact hnm h9 y hy
  rw [evV,anyE_app,anyE_app,anyE_one,hb,dupK]
  have e0:anyE []↔False:=by simp
  by_cases h9:k=9
  ·rw [if_pos h9,if_neg (by omega),ih,e0,false_or]
  ·by_cases h8:k=8
   ·rw [if_neg h9,if_pos h8,ih,e0,false_or]
   ·have hn:kids=[]:=hlow (by omega)
    rw [if_neg h9,if_neg h8,e0,hn]
    simp [dupKs]
theorem anyE_kids:∀ l:List (BA × Val),okKids l->(anyE (evKids l)↔dupKs l)
 | [],_=>by simp [evKids,dupKs]
 | (n,v)::l,h=>by
  simp only [okKids] at h
  rw [evKids,anyE_app,anyE_val v h.1,anyE_kids l h.2,dupKs]
end
abbrev dupZ (l:List Argm):Prop:=∃ a∈l,dupK a.v
theorem dupZ_nil:¬ dupZ []:=by simp
theorem anyE_args {l:List Argm}(h:okArgs l):anyE (evArgs l)↔dupZ l:=by
 constructor
 ·rintro ⟨e,he,hb⟩
  obtain ⟨a,ha,he⟩:=List.mem_flatMap.1 he
  exact ⟨a,ha,(anyE_val a.v (h a ha).2).1 ⟨e,he,hb⟩⟩
 ·rintro ⟨a,ha,hd⟩
  obtain ⟨e,he,hb⟩:=(anyE_val a.v (h a ha).2).2 hd
  exact ⟨e,List.mem_flatMap.2 ⟨a,ha,he⟩,hb⟩
abbrev anyD (ds:List Dir):Prop:=∃ d∈ds,dupZ d.args
theorem anyE_ds {loc:BA}{ds:List Dir}(h:okDirs ds):anyE (evDs loc ds)↔anyD ds:=by
 constructor
 ·rintro ⟨e,he,hb⟩
  rcases List.mem_append.1 he with he|he
  ·obtain ⟨d,hd,he⟩:=List.mem_flatMap.1 he
   rcases List.mem_append.1 he with he|he
   ·exact ⟨d,hd,(anyE_args (h d hd)).1 ⟨e,he,hb⟩⟩
   ·obtain rfl:e=.dir d loc:=by simpa using he
    cases hb
  ·obtain rfl:e=.dirs ds:=by simpa using he
   cases hb
 ·rintro ⟨d,hd,hb⟩
  obtain ⟨e,he,hb⟩:=(anyE_args (h d hd)).2 hb
  exact ⟨e,List.mem_append.2 (.inl (List.mem_flatMap.2 ⟨d,hd,List.mem_append.2 (.inl he)⟩)),hb⟩
abbrev anyA (l:List (List Argm)):Prop:=∃ av∈l,dupZ av
abbrev anyU (l:List (List Dir)):Prop:=∃ ds∈l,anyD ds
theorem anyE_sels (fs:List Frag):∀ l:List Sel,okSels l->(anyE (evL fs l)↔anyA (alL l)∨anyU (usL l))
 | [],_=>by simp [anyE,anyA,anyU,evL,alL,usL]
 | .mk k al n on args dirs kids::l,h=>by
  simp only [okSels,okSel] at h
  obtain ⟨⟨hk,ha,hd,hkids,h1,h2⟩,hl⟩:=h
  have ih1:=anyE_sels fs kids hkids
  have ih2:=anyE_sels fs l hl
  have hA:anyA (alL (.mk k al n on args dirs kids::l))↔dupZ args∨anyA (alL kids)∨anyA (alL l):=by
   simp only [anyA,alL,alS,List.cons_append,List.mem_cons,List.mem_append,exists_eq_left,or_and_right,exists_or]
  have hU:anyU (usL (.mk k al n on args dirs kids::l))↔anyD dirs∨anyU (usL kids)∨anyU (usL l):=by
   simp only [anyU,usL,usS,List.cons_append,List.mem_cons,List.mem_append,exists_eq_left,or_and_right,exists_or]
  rw [hA,hU,evL,anyE_app,ih2]
  have hS:anyE (evS fs (.mk k al n on args dirs kids))↔dupZ args∨anyD dirs∨anyA (alL kids)∨anyU (usL kids):=by
   rcases hk with rfl|rfl|rfl
   ·have:badKeys (.fld (.mk 0 al n on args dirs kids))↔False:=Iff.rfl
    simp only [evS,if_true,anyE_app,anyE_one,this,anyE_ds hd,ih1,anyE_args ha]
    clear hA hU ih1 ih2 this
    constructor
    ·rintro (h|h|(h|h)|h)<;>simp_all
    ·rintro (h|h|h|h)<;>simp_all
   ·obtain ⟨rfl,rfl⟩:=h1 rfl
    have:badKeys (spEv fs n)↔False:=Iff.rfl
    have hz:dupZ []↔False:=iff_false_intro dupZ_nil
    have hn1:anyA (alL [])↔False:=by simp [anyA,alL]
    have hn2:anyU (usL [])↔False:=by simp [anyU,usL]
    rw [evS,if_neg (by decide),if_pos rfl,anyE_app,anyE_one,anyE_ds hd,this,hz,hn1,hn2]
    simp only [or_false,false_or]
   ·obtain rfl:=h2 rfl
    have hz:dupZ []↔False:=iff_false_intro dupZ_nil
    have:badKeys (.inl (.mk 2 al n on [] dirs kids))↔False:=Iff.rfl
    rw [evS,if_neg (by decide),if_neg (by decide),anyE_app,anyE_app,anyE_one,anyE_ds hd,ih1,this,hz]
    simp only [or_false,false_or]
  rw [hS]
  clear hS hA hU ih1 ih2
  constructor
  ·rintro ((h|h|h|h)|h|h)<;>simp_all
  ·rintro ((h|h|h)|h|h|h)<;>simp_all
abbrev anyF (l:List VarD):Prop:=∃ v∈l,∃ d∈v.dflt,dupK d
theorem anyE_op (fs:List Frag){x:OpD}(h:okOp x):anyE (evOp fs x)↔anyA (alL x.kids)∨anyU (usO x)∨anyF x.vars:=by
 obtain ⟨-, hv,hd,hk⟩:=h
 have hV:anyE (evVars x.vars)↔anyU (x.vars.map VarD.dirs)∨anyF x.vars:=by
  constructor
  ·rintro ⟨e,he,hb⟩
   rcases List.mem_append.1 he with he|he
   ·obtain ⟨v,-, rfl⟩:=List.mem_map.1 he
    cases hb
   ·obtain ⟨v,hvm,he⟩:=List.mem_flatMap.1 he
    rcases List.mem_append.1 he with he|he
    ·refine .inr ⟨v,hvm,?_⟩
     have hok:=(hv v hvm).2.1.2
     cases hdl:v.dflt with
     | nil=>rw [hdl] at he;simp [evDef] at he
     | cons d r=>
      rw [hdl] at he hok
      exact ⟨d,by simp,(anyE_val d (hok d (by simp))).1 ⟨e,he,hb⟩⟩
    ·exact .inl ⟨v.dirs,List.mem_map.2 ⟨v,hvm,rfl⟩,(anyE_ds (hv v hvm).2.2.1).1 ⟨e,he,hb⟩⟩
  ·rintro (⟨ds,hm,hb⟩|⟨v,hvm,d,hdm,hb⟩)
   ·obtain ⟨v,hvm,rfl⟩:=List.mem_map.1 hm
    obtain ⟨e,he,hb⟩:=(anyE_ds (loc:=bVarLoc) (hv v hvm).2.2.1).2 hb
    exact ⟨e,List.mem_append.2 (.inr (List.mem_flatMap.2 ⟨v,hvm,List.mem_append.2 (.inr he)⟩)),hb⟩
   ·obtain ⟨h1,hok⟩:=(hv v hvm).2.1
    obtain ⟨e,he,hb⟩:=(anyE_val d (hok d hdm)).2 hb
    refine ⟨e,List.mem_append.2 (.inr (List.mem_flatMap.2 ⟨v,hvm,List.mem_append.2 (.inl ?_)⟩)),hb⟩
    cases hdl:v.dflt with
    | nil=>rw [hdl] at hdm;simp at hdm
    | cons y r=>
     rw [hdl] at hdm h1
     have:r=[]:=List.length_eq_zero_iff.1 (by simpa using h1)
     subst this
     obtain rfl:d=y:=by simpa using hdm
     exact he
 have hU:anyU (usO x)↔anyD x.dirs∨anyU (x.vars.map VarD.dirs)∨anyU (usL x.kids):=by
  simp only [anyU,usO,List.cons_append,List.nil_append,List.mem_cons,List.mem_append,exists_eq_left,or_and_right,exists_or]
 have ho:badKeys (.op x)↔False:=Iff.rfl
 rw [evOp,anyE_app,anyE_app,anyE_app,anyE_one,hV,anyE_ds hd,anyE_sels fs x.kids hk,hU,ho]
 clear hV hU ho
 constructor
 ·rintro ((h|h)|h|(h|h)|h)<;>simp_all
 ·rintro (h|(h|h|h)|h)<;>simp_all
theorem anyE_fr (fs:List Frag){x:Frag}(h:okFrag x):anyE (evFr fs x)↔anyA (alL x.kids)∨anyU (usF x):=by
 obtain ⟨hd,hk,-⟩:=h
 have hU:anyU (usF x)↔anyD x.dirs∨anyU (usL x.kids):=by
  simp only [anyU,usF,List.cons_append,List.nil_append,List.mem_cons,exists_eq_left,or_and_right,exists_or]
 have ho:badKeys (.frag x)↔False:=Iff.rfl
 rw [evFr,anyE_app,anyE_app,anyE_one,anyE_ds hd,anyE_sels fs x.kids hk,hU,ho]
 clear hU ho
 constructor
 ·rintro (h|(h|h)|h)<;>simp_all
 ·rintro (h|h|h)<;>simp_all
def keyVals (ops:List OpD)(frags:List Frag):List Val:=(argListsD ops frags).flatMap (fun l=>l.map Argm.v)++ops.flatMap fun o=>o.vars.flatMap VarD.dflt
theorem keyVals_iff {ops:List OpD}{frags:List Frag}:(∃ v∈keyVals ops frags,dupK v)↔(∃ av∈argListsD ops frags,dupZ av)∨∃ o∈ops,anyF o.vars:=by
 constructor
 ·rintro ⟨v,hv,hb⟩
  rcases List.mem_append.1 hv with hv|hv
  ·obtain ⟨av,hm,hv⟩:=List.mem_flatMap.1 hv
   obtain ⟨a,ha,rfl⟩:=List.mem_map.1 hv
   exact .inl ⟨av,hm,a,ha,hb⟩
  ·obtain ⟨o,ho,hv⟩:=List.mem_flatMap.1 hv
   obtain ⟨y,hy,hv⟩:=List.mem_flatMap.1 hv
   exact .inr ⟨o,ho,y,hy,v,hv,hb⟩
 ·rintro (⟨av,hm,a,ha,hb⟩|⟨o,ho,y,hy,v,hv,hb⟩)
  ·exact ⟨a.v,List.mem_append.2 (.inl (List.mem_flatMap.2 ⟨av,hm,List.mem_map.2 ⟨a,ha,rfl⟩⟩)),hb⟩
  ·exact ⟨v,List.mem_append.2 (.inr (List.mem_flatMap.2 ⟨o,ho,List.mem_flatMap.2 ⟨y,hy,hv⟩⟩)),hb⟩
theorem keys_ev {c:WCtx}(ok1:∀ x∈c.ops,okOp x)(ok2:∀ x∈c.frags,okFrag x):(∃ e,DocEv c e/\badKeys e)↔∃ v∈keyVals c.ops c.frags,dupK v:=by
 rw [keyVals_iff]
 constructor
 ·rintro ⟨e,⟨x,hx,he⟩|⟨x,hx,he⟩,hb⟩
  ·rcases (anyE_op c.frags (ok1 x hx)).1 ⟨e,he,hb⟩ with ⟨av,hm,h⟩|⟨ds,hm,d,hd,h⟩|h
   ·exact .inl ⟨av,List.mem_append.2 (.inl (List.mem_append.2 (.inl (List.mem_flatMap.2 ⟨x,hx,hm⟩)))),h⟩
   ·exact .inl ⟨d.args,List.mem_append.2 (.inr (List.mem_flatMap.2 ⟨ds,List.mem_append.2 (.inl (List.mem_flatMap.2 ⟨x,hx,hm⟩)),List.mem_map.2 ⟨d,hd,rfl⟩⟩)),h⟩
   ·exact .inr ⟨x,hx,h⟩
  ·rcases (anyE_fr c.frags (ok2 x hx)).1 ⟨e,he,hb⟩ with ⟨av,hm,h⟩|⟨ds,hm,d,hd,h⟩
   ·exact .inl ⟨av,List.mem_append.2 (.inl (List.mem_append.2 (.inr (List.mem_flatMap.2 ⟨x,hx,hm⟩)))),h⟩
   ·exact .inl ⟨d.args,List.mem_append.2 (.inr (List.mem_flatMap.2 ⟨ds,List.mem_append.2 (.inr (List.mem_flatMap.2 ⟨x,hx,hm⟩)),List.mem_map.2 ⟨d,hd,rfl⟩⟩)),h⟩
 ·rintro (⟨av,hm,h⟩|⟨x,hx,h⟩)
  ·rcases List.mem_append.1 hm with hm|hm
   ·rcases List.mem_append.1 hm with hm|hm
    ·obtain ⟨x,hx,hm⟩:=List.mem_flatMap.1 hm
     obtain ⟨e,he,hb⟩:=(anyE_op c.frags (ok1 x hx)).2 (.inl ⟨av,hm,h⟩)
     exact ⟨e,.inl ⟨x,hx,he⟩,hb⟩
    ·obtain ⟨x,hx,hm⟩:=List.mem_flatMap.1 hm
     obtain ⟨e,he,hb⟩:=(anyE_fr c.frags (ok2 x hx)).2 (.inl ⟨av,hm,h⟩)
     exact ⟨e,.inr ⟨x,hx,he⟩,hb⟩
   ·obtain ⟨ds,hds,hm⟩:=List.mem_flatMap.1 hm
    obtain ⟨d,hd,rfl⟩:=List.mem_map.1 hm
    rcases List.mem_append.1 hds with hds|hds
    ·obtain ⟨x,hx,hds⟩:=List.mem_flatMap.1 hds
     obtain ⟨e,he,hb⟩:=(anyE_op c.frags (ok1 x hx)).2 (.inr (.inl ⟨ds,hds,d,hd,h⟩))
     exact ⟨e,.inl ⟨x,hx,he⟩,hb⟩
    ·obtain ⟨x,hx,hds⟩:=List.mem_flatMap.1 hds
     obtain ⟨e,he,hb⟩:=(anyE_fr c.frags (ok2 x hx)).2 (.inr ⟨ds,hds,d,hd,h⟩)
     exact ⟨e,.inr ⟨x,hx,he⟩,hb⟩
  ·obtain ⟨e,he,hb⟩:=(anyE_op c.frags (ok1 x hx)).2 (.inr (.inr h))
   exact ⟨e,.inl ⟨x,hx,he⟩,hb⟩
theorem keysRule (types:List Def)(dirs:List DirDef)(defs:List SchemaDef)(ops:List OpD)(frags:List Frag)(hO:OkSchema types dirs defs)(h12:ops.length<=12)(h12':frags.length<=12)(ok1:∀ x∈ops,okOp x)(ok2:∀ x∈frags,okFrag x)(hs:docW ops frags<=2097152):
  RuleOK 51 (wideD types dirs (rootsOf types defs)) ops frags fun n=>0<=n/\(n>0↔∃ v∈keyVals ops frags,dupK v):=by
 refine ⟨⟨_,Tryz.func51,by kernel_rfl⟩,?_⟩
 intro c cnt hops hfrags hwd hb hB hcnt hne hMc hMe
 subst hops
 subst hfrags
 have x3:Ext (fun _=>False) c.w0 (c.w0.alloc (.cells #[.func (.func 69) #[] #[.pointer (some (adr cnt))]] 130)):=(Ext.refl c.w0).alloc _
 have Bae:=Blk.made c.w0 130 [.func (.func 69) #[] #[.pointer (some (adr cnt))]]
 refine q_rules_UniqueInputFieldNamesRule (some (adr c.eb)) _ c.w0 _ ⟨⟨rfl,trivial⟩,?_⟩
 have hlc:=hcnt.lt
 have hle:=hB.lt
 generalize hw3:c.w0.alloc (.cells #[.func (.func 69) #[] #[.pointer (some (adr cnt))]] 130)=w3
 replace x3:Ext (fun _=>False) c.w0 w3:=by rw [<- hw3];exact x3
 replace Bae:Blk w3 c.w0.heap.size 130 [.func (.func 69) #[] #[.pointer (some (adr cnt))]]:=by rw [<- hw3];exact Bae
 clear hw3
 have hla:=Bae.lt
 refine (c_core_Events_OnValue (f:=.func (.func 96) #[] #[.pointer (some (adr c.w0.heap.size))]) rfl (hB.ext x3 id) rfl).mono ?_
 rintro _ w5 ⟨rfl,p,C,B5,ap,hpb,x5⟩
 have y5:Ext (fun b=>b=c.eb) c.w0 w5:=(x3.toM _).trans x5 fun _ _ e=>e
 have hz5:=x5.size
 have hz3:=x3.size
 have hae:c.w0.heap.size≠cnt:=by omega
 have Bae5:=Bae.ext x5 (by show ¬ c.w0.heap.size=c.eb;omega)
 have Bc5:=hcnt.ext y5 hne
 refine ⟨rfl,trivial,rfl,y5,fun b=>b=cnt∨b=c.w0.heap.size,StK badKeys c.w0.heap.size cnt,obL [(7,p,C)],?_,fun b hb'=>?_,fun b hb' T cs fr ho=>?_,fun l w'' hl ht=>?_⟩
 ·have hVM:∀ b,(b=cnt∨b=c.w0.heap.size)->¬ c.M b:=fun b hV hM=>by
   have:=hb.m b hM
   rcases hV with rfl|rfl
   ·exact hMc hM
   ·omega
  refine rule_one hb hMe y5 (fun b hb'=>hb'.imp id fun e=>by omega) hlc hne hMc hle (fun l w w'' h hx=>Cnt.ext h hx (fun e=>e (.inr rfl)) fun e=>e (.inl rfl)) (Cnt.zero Bae5 Bc5 (by simp)) B5 fun b5 wb fm fl j=>vis_all (fun x hx=>?_) j
  obtain rfl:x=(7,p,C):=by simpa using hx
  refine ⟨_,_,[.pointer (some (adr c.w0.heap.size))],_,ap,fun h=>?_,fun h=>?_,Tryz.func96,by kernel_rfl,fun l w1 co vm evs node ev hl hw hk hn=>c_Keys_1 (fun e=>Iff.rfl) hVM hae hl hw hk hn⟩
  ·have:p.block<c.w0.heap.size:=hb.m _ h
   omega
  ·have:p.block=cnt∨p.block=c.w0.heap.size:=h
   omega
 ·rcases hb' with rfl|rfl
  ·exact .inr (Nat.le_refl _)
  ·exact .inr (by omega)
 ·rcases hb' with rfl|rfl
  ·rw [Bc5.type ho];decide
  ·rw [Bae5.type ho];decide
 ·obtain ⟨-, n,hn,hk⟩:=hl
  have hsm:=spN_few (c:={ c with V:=fun b=>b=cnt∨b=c.w0.heap.size,St:=StK badKeys c.w0.heap.size cnt,w0:=w5}) (ob:=obL [(7,p,C)]) h12 h12' hs
  obtain ⟨k1,k2,k3⟩:=hk (Nat.le_trans (Nat.mul_le_mul_right _ (Nat.le_trans ht.few hsm)) (by decide))
  refine ⟨n,hn,k1,k3.trans ((ht.bad fun e hbad=>?_).trans (keys_ev ok1 ok2))⟩
  cases e with
  | val v=>rfl
  | _=>cases hbad
abbrev KTw (x:Val):Prop:=∀ (k:Int) (r:BA) (a:OA) (l c:Nat) (w:World),RVal w x k r a l c->CP 52 #[.agg #[.int .i64 k,.string r,.slice a l c]] w (RetB w fun b=>b=true↔dupK x)
theorem c_keysTwice_step (k:Int)(r:BA)(kids:List (BA × Val))(IH:∀ x∈kids,KTw x.2):KTw (.mk k r kids):=by
 intro k' r' a l c w hv
 obtain ⟨rfl,rfl,hl⟩:=RVal_mk.1 hv
 obtain ⟨e1,e3⟩:=hl.len
 have x4:Ext (fun _=>False) w (w.alloc (.cells #[.int .i64 k',.string r',.slice a l c] 88)):=(Ext.refl w).alloc _
 refine q_keysTwice k' r' a l c w _ ⟨trivial,fun A L C i w1=>0<=i/\i<=l/\Ext (fun _=>False) w w1/\L=i.toNat/\(∃ cells,Own w.heap.size w1 9 1 A L C cells/\Flat 1 RS ((kids.take i.toNat).map (·.1)) cells)/\∀ x∈kids.take i.toNat,¬ dupK x.2,fun _ _ _ i _=>((l:Int)-i).toNat,⟨by omega,by omega,x4,rfl,⟨[],Own.nil ..,.nil⟩,by simp⟩,?_⟩
 rintro A L C i w1 ⟨h0,hi,hx,hL,⟨cells,hown,hf⟩,hno⟩
 refine ⟨fun hlt=>?_,fun hge=>?_⟩
 ·have hlt:=of_decide_eq_true hlt
  obtain ⟨p,x,hp,hxs,cs,hc,kk,rr,aa,ll,cc,rfl,hvx⟩:=hl.get h0 hlt
  obtain ⟨⟨_,_,hc0⟩,hs0,⟨_,_,hc1⟩,hs1,⟨_,_,hc2⟩,hs2,⟨_,_,hc3⟩,-⟩:=hc
  have hmem:=List.mem_of_getElem? hxs
  refine ⟨p,hp,⟨h0,hlt⟩,_,hx.cell hc0 id,_,hx.cell hc1 id,_,hx.cell hc2 id,_,_,_,hx.cell hc3 id,trivial,trivial,trivial,?_⟩
  have hx16:Ext (fun _=>False) w1 (w1.alloc (.cells #[.string x.1,.int .i64 kk,.string rr,.slice aa ll cc] 217)):=(Ext.refl w1).alloc _
  obtain ⟨A2,C2,w20,r1,⟨cells2,o2,f2⟩,x2,k2⟩:=append_str (hown.keep hx16 fun _ _=>id) (Nat.le_trans hx.size hx16.size) hf (s:=x.1) hs0 (by omega)
  have hx20:Ext (fun _=>False) w w20:=(hx.then hx16).trans x2 fun b hb hbl=>by
   have:=((hown.keep hx16 fun _ _=>id).base b hbl).1
   omega
  refine ⟨A2,L+1,C2,w20,r1,⟨k2 88 (by decide),k2 217 (by decide),trivial⟩,?_⟩
  refine (IH x hmem kk rr aa ll cc w20 (hvx.keep hx20.keep)).mono ?_
  rintro _ w22 ⟨b,rfl,x22,hb⟩
  refine ⟨b,rfl,⟨x22.keepT _,x22.keepT _,trivial⟩,fun hbt=>⟨true,rfl,hx20.then x22,fun _=>?_,fun _=>rfl⟩,fun hbf=>?_⟩
  ·rw [dupK,dupKs_iff]
   exact .inl ⟨x,hmem,hb.1 hbt⟩
  ·rw [wrap_lt h0 (by omega)]
   refine next h0 hlt ⟨hx20.then x22,by omega,⟨cells2,o2.keep x22 fun _ _=>id,?_⟩,take_all_int h0 hno hxs fun hd=>?_⟩
   ·rw [take_snoc' h0 hxs,List.map_append]
    exact f2
   ·rw [hb.2 hd] at hbf
    cases hbf
 ·have hle:=of_decide_eq_false hge
  have hno:=take_end e1 hge hno
  rw [List.take_of_length_le (by omega)] at hf
  have hnk:¬ dupKs kids:=fun h=>by
   obtain ⟨x,hm,hd⟩:=dupKs_iff.1 h
   exact hno x hm hd
  intro K hK
  have hr:RStrs w1 A L C (kids.map (·.1)):=hown.sl hf (by omega) (by omega)
  refine ⟨fun h9=>?_,fun h9=>hK false w1 ⟨false,rfl,hx,nofun,fun h=>?_⟩⟩
  ·have h9:k'=9:=by simpa using h9
   refine (c_twice hr).mono ?_
   rintro _ w27 ⟨b,rfl,x27,hb⟩
   refine ⟨b,rfl,⟨x27.keepT _,trivial⟩,hK b w27 ⟨b,rfl,hx.then x27,?_⟩⟩
   rw [dupK]
   exact ⟨fun h=>.inr ⟨h9,hb.1 h⟩,fun h=>hb.2 (h.resolve_left hnk).2⟩
  ·rw [dupK] at h
   have:=(h.resolve_left hnk).1
   rw [this] at h9
   simp at h9
theorem c_keysTwice:∀ x:Val,KTw x
 | .mk k r kids=>c_keysTwice_step k r kids fun x hx=>by
  have:SizeOf.sizeOf x.2<1+SizeOf.sizeOf k+SizeOf.sizeOf r+SizeOf.sizeOf kids:=by
   have h1:=List.sizeOf_lt_of_mem hx
   cases x
   simp at h1 ⊢
   omega
  exact c_keysTwice x.2
 termination_by x=>SizeOf.sizeOf x
theorem c_KeysTwice {a:OA}{l c:Nat}{a':OA}{l' c':Nat}{ops:List OpD}{frags:List Frag}{w:World}(hl:ROps w a l c ops)(hl':RFrags w a' l' c' frags)(ok1:∀ x∈ops,okOp x)(ok2:∀ x∈frags,okFrag x)(hs:docW ops frags<=2097152):
  CP 26 #[.agg #[.slice a l c,.slice a' l' c']] w (RetB w fun b=>b=true↔∃ v∈keyVals ops frags,dupK v):=by
 have hx0:=(Ext.refl (X:=fun _=>False) w).alloc (.cells #[.slice a l c,.slice a' l' c'] 30)
 obtain ⟨e1,e3⟩:=hl.len
 refine q_KeysTwice a l c a' l' c' w _ ⟨trivial,?_⟩
 refine (c_argLists hx0 hl hl' ok1 ok2 hs).mono ?_
 rintro _ w6 ⟨A7,L7,C7,rfl,ac⟩
 have y6:=hx0.then ac.1
 have e7:=ac.2.1
 have hln:=Nat.le_trans (argLists_len ops frags) hs
 refine ⟨A7,L7,C7,rfl,⟨ac.1.keepT _,trivial⟩,fun i w1=>0<=i/\i<=L7/\Ext (fun _=>False) w6 w1/\∀ av∈(argListsD ops frags).take i.toNat,¬ dupZ av,fun i _=>((L7:Int)-i).toNat,⟨by omega,by omega,Ext.refl w6,by simp⟩,?_⟩
 rintro i w1 ⟨h0,hi,hx,hn⟩
 refine ⟨fun hlt=>?_,fun hge=>?_⟩
 ·have hlt:=of_decide_eq_true hlt
  obtain ⟨p,av,cs,hp,hns,⟨a2,l2,c2,rfl,hv⟩,hc⟩:=ac.get h0 hlt
  have hc0:At w6 83 (p.add (i.toNat*1)) (.slice a2 l2 c2):=by simpa [Addr.add] using hc 0 _ rfl
  obtain ⟨f1,f3⟩:=hv.len
  have hmem:=List.mem_of_getElem? hns
  refine ⟨p,hp,⟨h0,hlt⟩,_,_,_,hx.cell hc0 id,fun j w2=>0<=j/\j<=l2/\Ext (fun _=>False) w6 w2/\∀ x∈av.take j.toNat,¬ dupK x.v,fun j _=>((l2:Int)-j).toNat,⟨by omega,by omega,hx,by simp⟩,?_⟩
  rintro j w2 ⟨k0,kj,kx,kn⟩
  refine ⟨fun klt=>?_,fun kge=>?_⟩
  ·have klt:=of_decide_eq_true klt
   have y2:=y6.then kx
   obtain ⟨p2,x,hp2,hxs,cs,hcs,kk,rr,aa,ll,cc,rfl,hvx⟩:=(RArgms.keep y2.keep hv).get k0 klt
   obtain ⟨⟨_,_,d0⟩,-, ⟨_,_,d1⟩,-, ⟨_,_,d2⟩,-, ⟨_,_,d3⟩,-⟩:=hcs
   have x23:Ext (fun _=>False) w2 (w2.alloc (.cells #[.string x.name,.int .i64 kk,.string rr,.slice aa ll cc] 90)):=(Ext.refl w2).alloc _
   refine ⟨p2,hp2,⟨k0,klt⟩,_,d0.cell,_,d1.cell,_,d2.cell,_,_,_,d3.cell,trivial,trivial,?_⟩
   refine (c_keysTwice x.v kk rr aa ll cc _ (hvx.keep x23.keep)).mono ?_
   rintro _ w25 ⟨b,rfl,x25,hb⟩
   have z25:=(kx.then x23).then x25
   refine ⟨b,rfl,⟨x25.keepT _,x25.keepT _,trivial⟩,fun hbt=>⟨true,rfl,y6.then z25,fun _=>keyVals_iff.2 (.inl ⟨av,hmem,x,List.mem_of_getElem? hxs,hb.1 hbt⟩),fun _=>rfl⟩,fun hbf=>?_⟩
   rw [wrap_lt k0 (by omega)]
   refine next k0 klt ⟨z25,take_all_int k0 kn hxs fun hd=>?_⟩
   rw [hb.2 hd] at hbf
   cases hbf
  ·have kn:=take_end f1 kge kn
   rw [wrap_lt h0 (by omega)]
   exact next h0 hlt ⟨kx,take_all_int h0 hn hns fun ⟨x,hm,hd⟩=>kn x hm hd⟩
 ·have hn:=take_end e7 hge hn
  refine ⟨fun i w1=>0<=i/\i<=l/\Ext (fun _=>False) w w1/\∀ o∈ops.take i.toNat,¬ anyF o.vars,fun i _=>((l:Int)-i).toNat,⟨by omega,by omega,y6.then hx,by simp⟩,?_⟩
  rintro m w3 ⟨m0,mi,mx,mn⟩
  refine ⟨fun mlt=>?_,fun mge=>?_⟩
  ·have mlt:=of_decide_eq_true mlt
   obtain ⟨p3,o,hp3,hos,cs,hcs,b1,n1,c1,b2,n2,c2,b3,n3,c3,rfl,hv1,hv2,hv3⟩:=hl.get m0 mlt
   obtain ⟨⟨_,_,d0⟩,-, ⟨_,_,d1⟩,-, ⟨_,_,d2⟩,-, ⟨_,_,d3⟩,-, ⟨_,_,d4⟩,-⟩:=hcs
   have x38:Ext (fun _=>False) w3 (w3.alloc (.cells #[.string o.kind,.string o.name,.slice b1 n1 c1,.slice b2 n2 c2,.slice b3 n3 c3] 50)):=(Ext.refl w3).alloc _
   obtain ⟨g1,g3⟩:=hv1.len
   have hom:=List.mem_of_getElem? hos
   refine ⟨p3,hp3,⟨m0,mlt⟩,_,mx.cell d0 id,_,mx.cell d1 id,_,_,_,mx.cell d2 id,_,_,_,mx.cell d3 id,_,_,_,mx.cell d4 id,trivial,trivial,fun j w4=>0<=j/\j<=n1/\Ext (fun _=>False) w w4/\∀ y∈o.vars.take j.toNat,∀ d∈y.dflt,¬ dupK d,fun j _=>((n1:Int)-j).toNat,⟨by omega,by omega,mx.then x38,by simp⟩,?_⟩
   rintro j w4 ⟨k0,kj,kx,kn⟩
   refine ⟨fun klt=>?_,fun kge=>?_⟩
   ·have klt:=of_decide_eq_true klt
    obtain ⟨p4,y,hp4,hys,cs,hcs,tn,t1,t2,t3,tb,v1,v2,v3,u1,u2,u3,rfl,ht,hd,hdd⟩:=hv1.get k0 klt
    obtain ⟨⟨_,_,d0⟩,-, ⟨_,_,d1⟩,-, ⟨_,_,d2⟩,-, ⟨_,_,d3⟩,-, ⟨_,_,d4⟩,-, ⟨_,_,d5⟩,-⟩:=hcs
    have x51:Ext (fun _=>False) w4 (w4.alloc (.cells #[.string y.name,.string tn,.slice t1 t2 t3,.bool tb,.slice v1 v2 v3,.slice u1 u2 u3] 58)):=(Ext.refl w4).alloc _
    obtain ⟨s1,s3⟩:=hd.len
    refine ⟨p4,hp4,⟨k0,klt⟩,_,kx.cell d0 id,_,kx.cell d1 id,_,_,_,kx.cell d2 id,_,kx.cell d3 id,_,_,_,kx.cell d4 id,_,_,_,kx.cell d5 id,trivial,trivial,fun q w5=>0<=q/\q<=v2/\Ext (fun _=>False) w w5/\∀ d∈y.dflt.take q.toNat,¬ dupK d,fun q _=>((v2:Int)-q).toNat,⟨by omega,by omega,kx.then x51,by simp⟩,?_⟩
    rintro q w5 ⟨q0,qj,qx,qn⟩
    refine ⟨fun qlt=>?_,fun qge=>?_⟩
    ·have qlt:=of_decide_eq_true qlt
     obtain ⟨p5,d,hp5,hds,cs,hcs,kk,rr,aa,ll,cc,rfl,hvd⟩:=hd.get q0 qlt
     obtain ⟨⟨_,_,d0⟩,-, ⟨_,_,d1⟩,-, ⟨_,_,d2⟩,-⟩:=hcs
     have x61:Ext (fun _=>False) w5 (w5.alloc (.cells #[.int .i64 kk,.string rr,.slice aa ll cc] 88)):=(Ext.refl w5).alloc _
     refine ⟨p5,hp5,⟨q0,qlt⟩,_,qx.cell d0 id,_,qx.cell d1 id,_,_,_,qx.cell d2 id,trivial,trivial,?_⟩
     refine (c_keysTwice d kk rr aa ll cc _ (hvd.keep (qx.then x61).keep)).mono ?_
     rintro _ w63 ⟨b,rfl,x63,hb⟩
     have z63:=(qx.then x61).then x63
     refine ⟨b,rfl,⟨x63.keepT _,x63.keepT _,x63.keepT _,x63.keepT _,trivial⟩,fun hbt=>⟨true,rfl,z63,fun _=>keyVals_iff.2 (.inr ⟨o,hom,y,List.mem_of_getElem? hys,d,List.mem_of_getElem? hds,hb.1 hbt⟩),fun _=>rfl⟩,fun hbf=>?_⟩
     rw [wrap_lt q0 (by omega)]
     refine next q0 qlt ⟨z63,take_all_int q0 qn hds fun hd=>?_⟩
     rw [hb.2 hd] at hbf
     cases hbf
    ·have qn:=take_end s1 qge qn
     rw [wrap_lt k0 (by omega)]
     exact next k0 klt ⟨qx,take_all_int k0 kn hys qn⟩
   ·have kn:=take_end g1 kge kn
    rw [wrap_lt m0 (by omega)]
    exact next m0 mlt ⟨kx,take_all_int m0 mn hos fun ⟨y,hy,d,hd,hb⟩=>kn y hy d hd hb⟩
  ·have mn:=take_end e1 mge mn
   refine ⟨false,rfl,mx,nofun,fun h=>?_⟩
   rcases keyVals_iff.1 h with ⟨av,hm,hd⟩|⟨o,ho,hd⟩
   ·exact absurd hd (hn av hm)
   ·exact absurd hd (mn o ho)
end Go.VC
namespace Go.VC
open Go Go.Proofs
variable [DB]
theorem c_impl_RUniqueInputFieldNames {P:Int->Prop}{wd:WorldD}{a1:OA}{l1 c1:Nat}{a2:OA}{l2 c2:Nat}{a6:OA}{l6 c6:Nat}{a7:OA}{l7 c7:Nat}{q8:OA}{q8l q8c:Nat}{q9:OA}{q9l q9c:Nat}{ops:List OpD}{frags:List Frag}{w:World}
  (hw:RWorld w wd [.slice a1 l1 c1,.slice a2 l2 c2,.string wd.query,.string wd.mutation,.string wd.subscription,.slice a6 l6 c6,.slice a7 l7 c7]) (ok3:∀ x∈wd.dirs,∀ y∈x.args,okArgDef y) (ok4:∀ x∈wd.types,okDef x)
  (few6:(pushD wd.types wd.possible).length<=4194304) (few7:(pushD wd.types wd.implements).length<=4194304) (hl1:ROps w q8 q8l q8c ops) (hl2:RFrags w q9 q9l q9c frags) (ok1:∀ x∈ops,okOp x) (ok2:∀ x∈frags,okFrag x) (hr:RuleOK 51 wd ops frags P) (hB0:DB.B<=w.heap.size):
  CP 25 #[.agg #[.slice a1 l1 c1,.slice a2 l2 c2,.string wd.query,.string wd.mutation,.string wd.subscription,.slice a6 l6 c6,.slice a7 l7 c7],.agg #[.slice q8 q8l q8c,.slice q9 q9l q9c]] w fun e w'=>
   ∃ n,e=.returned (.tuple #[.int .i64 n,.bool true])/\P n/\Ext (fun _=>False) w w':=by
 have x11:Ext (fun _=>False) w (w.alloc (.cells #[.slice a1 l1 c1,.slice a2 l2 c2,.string wd.query,.string wd.mutation,.string wd.subscription,.slice a6 l6 c6,.slice a7 l7 c7] 40)):=(Ext.refl w).alloc _
 have x12:=x11.alloc (.cells #[.slice q8 q8l q8c,.slice q9 q9l q9c] 30)
 refine q_impl_RUniqueInputFieldNames a1 l1 c1 a2 l2 c2 wd.query wd.mutation wd.subscription a6 l6 c6 a7 l7 c7 q8 q8l q8c q9 q9l q9c w _ ⟨trivial,trivial,?_⟩
 refine (c_impl_found (RWorld.keep x12.keep hw) ok3 ok4 few6 few7 (hl1.keep x12.keep) (hl2.keep x12.keep) ok1 ok2 hr (Nat.le_trans hB0 x12.size)).mono ?_
 rintro _ w' ⟨n,rfl,hp,hx⟩
 exact ⟨n,true,rfl,⟨hx.keepT _,hx.keepT _,trivial⟩,n,rfl,hp,x12.then hx⟩
theorem c_law_FnRuleKeys {S:List Def->List RootD->List OpD->List Frag->Prop}(rule:∀ types dirs defs ops frags,OkSchema types dirs defs->ops.length<=12->frags.length<=12->(∀ x∈ops,okOp x)->(∀ x∈frags,okFrag x)->docW ops frags<=2097152->RuleOK 51 (wideD types dirs (rootsOf types defs)) ops frags fun n=>0<=n/\(n>0↔S types (rootsOf types defs) ops frags))
  (spec:∀ {types:List Def} {defs:List SchemaDef} {a:OA} {l c:Nat} {a':OA} {l' c':Nat} {ops:List OpD} {frags:List Frag} {w:World},ROps w a l c ops->RFrags w a' l' c' frags->(∀ x∈ops,okOp x)->(∀ x∈frags,okFrag x)->docW ops frags<=2097152->
   CP 26 #[.agg #[.slice a l c,.slice a' l' c']] w (RetB w fun b=>b=true↔S types (rootsOf types defs) ops frags))
  {d1:OA} {d1l d1c:Nat} {d2:OA} {d2l d2c:Nat} {d3:OA} {d3l d3c:Nat} {d4:OA} {d4l d4c:Nat} {d5:OA} {d5l d5c:Nat} {q6:OA} {q6l q6c:Nat} {q7:OA} {q7l q7c:Nat} {defs exts:List SchemaDef} {dirs:List DirDef} {types texts:List Def} {ops:List OpD} {frags:List Frag} {w:World}
  (h1:RSchemaDefs w d1 d1l d1c defs) (h2:RSchemaDefs w d2 d2l d2c exts) (h3:RDirDefs w d3 d3l d3c dirs) (h4:RDefs w d4 d4l d4c types) (h5:RDefs w d5 d5l d5c texts) (hs:d1l+d2l<=4194304) (hsp:docW ops frags<=2097152) (h6:ROps w q6 q6l q6c ops) (h7:RFrags w q7 q7l q7c frags) (hB0:DB.B<=w.heap.size):
  CP 8 #[.agg #[.slice d1 d1l d1c,.slice d2 d2l d2c,.slice d3 d3l d3c,.slice d4 d4l d4c,.slice d5 d5l d5c],.agg #[.slice q6 q6l q6c,.slice q7 q7l q7c]] w fun e w'=>e=.returned (.bool true)/\Ext (fun _=>False) w w':=by
 have x8:Ext (fun _=>False) w (w.alloc (.cells #[.slice d1 d1l d1c,.slice d2 d2l d2c,.slice d3 d3l d3c,.slice d4 d4l d4c,.slice d5 d5l d5c] 26)):=(Ext.refl w).alloc _
 have x9:=x8.alloc (.cells #[.slice q6 q6l q6c,.slice q7 q7l q7c] 30)
 refine q_laws_FnRuleKeys d1 d1l d1c d2 d2l d2c d3 d3l d3c d4 d4l d4c d5 d5l d5c q6 q6l q6c q7 q7l q7c w _ ⟨trivial,trivial,fun K10 hK10=>?_⟩
 have key10:∀ b w',Ext (fun _=>False) w w'->K10 b w':=by
  intro b w' xw
  refine hK10 b w' ⟨fun _=>⟨rfl,xw⟩,fun _=>?_⟩
  refine (c_Build (h1.keep xw.keep) (h2.keep xw.keep) (h3.keep xw.keep) (h4.keep xw.keep) (h5.keep xw.keep) hs (Nat.le_trans hB0 xw.size)).mono ?_
  rintro _ w14 ⟨q15,b16,rfl,x14,hok⟩
  refine ⟨q15,b16,rfl,⟨x14.keepT _,x14.keepT _,trivial⟩,fun K17 hK17=>?_⟩
  have y14:=xw.then x14
  have key17:∀ b w',Ext (fun _=>False) w14 w'->(b=false->b16=true/\ops.length<=12/\frags.length<=12/\(∀ x∈ops,okOp x)/\(∀ x∈frags,okFrag x))->K17 b w':=by
   intro b w19 x19 hb
   have y19:=y14.then x19
   refine hK17 b w19 ⟨fun _=>⟨rfl,y19⟩,fun hbf=>?_⟩
   obtain ⟨hb16,n1,n2,ok1,ok2⟩:=hb hbf
   obtain ⟨k,rfl,A,L,C,hB,hR,hO⟩:=hok hb16
   intro w20 e20
   have x20:Ext (fun _=>False) w19 w20:=by rw [e20];exact (Ext.refl w19).drew
   have y20:=y19.then x20
   have z20:=x19.then x20
   refine (c_World_Wide (hB.ext z20 id) (h4.keep y20.keep) (hR.keep z20.keep) (h3.keep y20.keep) hO.few.1 (fun t ht=>by have:=hO.small t ht;omega) hO.few.2 (Nat.le_trans hB0 y20.size)).mono ?_
   rintro _ w22 ⟨cs,rfl,hW,x22⟩
   obtain ⟨ok3,ok4,few6,few7⟩:=wide_ok hO
   have hW':=hW
   obtain ⟨a1,l1,c1,a2,l2,c2,a6,l6,c6,a7,l7,c7,rfl,-⟩:=hW'
   have y22:=y20.then x22
   refine ⟨a1,l1,c1,a2,l2,c2,_,_,_,a6,l6,c6,a7,l7,c7,rfl,⟨x22.keepT _,x22.keepT _,trivial⟩,⟨rfl,trivial⟩,?_⟩
   refine (c_impl_RUniqueInputFieldNames hW ok3 ok4 few6 few7 (h6.keep y22.keep) (h7.keep y22.keep) ok1 ok2 (rule types dirs defs ops frags hO n1 n2 ok1 ok2 hsp) (Nat.le_trans hB0 y22.size)).mono ?_
   rintro _ w31 ⟨n,rfl,⟨hn0,hn⟩,x31⟩
   have y31:=y22.then x31
   refine ⟨n,true,rfl,⟨x31.keepT _,x31.keepT _,trivial⟩,trivial,trivial,trivial,?_⟩
   refine (spec (types:=types) (defs:=defs) (h6.keep y31.keep) (h7.keep y31.keep) ok1 ok2 hsp).mono ?_
   rintro _ w35 ⟨b36,rfl,x35,hb36⟩
   have y35:=y31.then x35
   refine ⟨b36,rfl,⟨x35.keepT _,x35.keepT _,trivial⟩,?_⟩
   refine (c_laws_told n true b36 w35).mono ?_
   rintro _ w38 ⟨rfl,rfl⟩
   refine ⟨_,rfl,⟨(Ext.refl _).keepT _,(Ext.refl _).keepT _,trivial⟩,?_,y35⟩
   rw [told_true hn0 (hn.trans hb36.symm)]
  refine ⟨fun hb=>?_,fun hb=>key17 true w14 (Ext.refl w14) nofun⟩
  refine (c_Small (h6.keep y14.keep) (h7.keep y14.keep)).mono ?_
  rintro _ w41 ⟨b42,rfl,x41,hsm⟩
  refine ⟨b42,rfl,⟨x41.keepT _,x41.keepT _,trivial⟩,key17 _ w41 x41 fun h=>⟨by simpa using hb,hsm (by simpa using h)⟩⟩
 refine (c_laws_zzFits20 d1 d1l d1c d2 d2l d2c d3 d3l d3c d4 d4l d4c d5 d5l d5c _).mono ?_
 rintro _ w44 ⟨b45,rfl,x44,-⟩
 have y44:=x9.then x44
 refine ⟨b45,rfl,⟨x44.keepT _,x44.keepT _,trivial⟩,fun _=>?_,fun _=>key10 true w44 y44⟩
 refine (c_laws_zzFits21 q6 q6l q6c q7 q7l q7c _).mono ?_
 rintro _ w47 ⟨b48,rfl,x47,-⟩
 exact ⟨b48,rfl,⟨x47.keepT _,x47.keepT _,trivial⟩,key10 _ w47 (y44.then x47)⟩
theorem c_FnRuleKeys {d1:OA}{d1l d1c:Nat}{d2:OA}{d2l d2c:Nat}{d3:OA}{d3l d3c:Nat}{d4:OA}{d4l d4c:Nat}{d5:OA}{d5l d5c:Nat}{q6:OA}{q6l q6c:Nat}{q7:OA}{q7l q7c:Nat}{defs exts:List SchemaDef}{dirs:List DirDef}{types texts:List Def}{ops:List OpD}{frags:List Frag}{w:World}
  (h1:RSchemaDefs w d1 d1l d1c defs) (h2:RSchemaDefs w d2 d2l d2c exts) (h3:RDirDefs w d3 d3l d3c dirs) (h4:RDefs w d4 d4l d4c types) (h5:RDefs w d5 d5l d5c texts) (hs:d1l+d2l<=4194304) (hsp:docW ops frags<=2097152) (h6:ROps w q6 q6l q6c ops) (h7:RFrags w q7 q7l q7c frags) (hB0:DB.B<=w.heap.size):
  CP 8 #[.agg #[.slice d1 d1l d1c,.slice d2 d2l d2c,.slice d3 d3l d3c,.slice d4 d4l d4c,.slice d5 d5l d5c],.agg #[.slice q6 q6l q6c,.slice q7 q7l q7c]] w fun e w'=>e=.returned (.bool true)/\Ext (fun _=>False) w w':=
 c_law_FnRuleKeys (S:=fun _ _ ops frags=>∃ v∈keyVals ops frags,dupK v) (fun types dirs defs ops frags hO h h2 ok1 ok2 hs=>keysRule types dirs defs ops frags hO h h2 ok1 ok2 hs) (fun h h2 ok1 ok2 hs=>c_KeysTwice h h2 ok1 ok2 hs) h1 h2 h3 h4 h5 hs hsp h6 h7 hB0
end Go.VC
