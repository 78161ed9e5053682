/- Part of the proof of a law of a rule over documents (ArgsA), where what the arguments hold is of bulk at most 1048576. -/
import Derived.Test.YtcfdmdgahpikeaaGreatBaseB
import Derived.Test.YtcfdmdgahpikeaaGreatWalkD
import Derived.Test.YtcfdmdgahpikeaaGreatLawA
import Derived.Test.YtcfdmdgahpikeaaGreatReadA
set_option linter.unusedVariables false
set_option linter.unusedSimpArgs false
set_option linter.unusedSectionVars false
set_option linter.deprecated false
namespace Go.VC
open Go Go.Proofs
set_option maxRecDepth 100000
theorem q_rules_UniqueArgumentNamesRule (a:OA)(b:Value)(w:World)(R:EW)(h:
 (b.oneCell'=true/\True)/\(let c:=w.alloc (.cells #[b] 130);
 C0 88 #[.pointer a,(.func (.func 89) #[] #[(.pointer (some (adr w.heap.size)))])] c (fun d=>True/\C0 91 #[.pointer a,(.func (.func 92) #[] #[(.pointer (some (adr w.heap.size)))])] d (fun e=>True/\R (.returned (.tuple #[])) e)))):CP 47 #[.pointer a,b] w R:=
 vcq Tryz.func47 [] [] [.l (.optr a),.l (.val b)] h
theorem q_rules_UniqueArgumentNamesRule_1 (a:OA)(b:OA)(c:Addr)(w:World)(R:EW)(h:
 ∀ d,d=w.drew->Pt b fun e=>Ll d (e.add 2) fun f g i=>Lv d c fun j=>C0 90 #[.slice f g i,j] d (fun k=>True/\True/\R (.returned (.tuple #[])) k)):CP 89 #[.pointer a,.pointer b,(.pointer (some c))] w R:=
 vcq Tryz.func89 [] [] [.l (.optr a),.l (.optr b),.l (.ptr c)] h
theorem q_rules_UniqueArgumentNamesRule_2 (a:OA)(b:OA)(c:Addr)(w:World)(R:EW)(h:
 ∀ d,d=w.drew->Pt b fun e=>Ll d (e.add 1) fun f g i=>Lv d c fun j=>C0 90 #[.slice f g i,j] d (fun k=>True/\True/\R (.returned (.tuple #[])) k)):CP 92 #[.pointer a,.pointer b,(.pointer (some c))] w R:=
 vcq Tryz.func92 [] [] [.l (.optr a),.l (.optr b),.l (.ptr c)] h
theorem q_rules_checkUniqueArgs (a:OA)(b c:Nat)(d:Value)(w:World)(R:EW)(h:
 let e:=w.alloc (.map #[] 0);
 ∃ (f:Int->World->Prop) (g:Int->World->Nat),f 0 e/\
 (∀ i:Int,∀ j:World,f i j->
 (Br (decide (i<(b:Int))) (Ix a i b fun k=>Lp j (k.add (i.toNat*1)) fun l=>∀ m:World->Prop,(∀ n:World,
 (Pt l fun o=>Ls n o fun p=>∃ q,(Instr.lookup 289 (.map (some w.heap.size)) (.string p) false).run Tryz.prog n=.ok (.int .i64 q) n/\∃ r,(Instr.mapUpdate 289 (.map (some w.heap.size)) (.string p) (.int .i64 (IntKind.i64.wrap (q+1)))).run Tryz.prog n=.ok () r/\True/\(f (IntKind.i64.wrap (i+1)) r/\g (IntKind.i64.wrap (i+1)) r<g i j))->
 m n)->
 Pt l fun s=>Ls j s fun t=>∃ u,(Instr.lookup 289 (.map (some w.heap.size)) (.string t) false).run Tryz.prog j=.ok (.int .i64 u) j/\(Br (u==1) (∀ v,v=j.drew->Pt l fun x=>Ls v x fun y=>Pt l fun z=>Lp v (z.add 2) fun A=>True/\(let B:=v.alloc (.cells #[(ifcV (some (9,(.string y))))] 20);
 ((B.cell? (z.add 2)=v.cell? (z.add 2))/\True)/\CP 73 #[(.string (⟨#[84,104,101,114,101,32,99,97,110,32,98,101,32,111,110,108,121,32,111,110,101,32,97,114,103,117,109,101,110,116,32,110,97,109,101,100,32,34,37,115,34,46]⟩:BA)),(.slice (some (adr v.heap.size)) 1 1)] B (fun C D=>∃ E:Value,C=.returned E/\True/\((D.cell? (z.add 2)=B.cell? (z.add 2))/\True)/\CP 74 #[.pointer A] D (fun F G=>∃ H:Value,F=.returned H/\True/\True/\(E.oneCell'=true/\H.oneCell'=true/\True)/\(let I:=G.alloc (.cells #[E,H] 156);
 True/\∃ J K,d=.func (.func J) #[] K.toArray/\∃ L,Tryz.prog.funcs[J]? =some L/\(L.name== "runtime.NumGoroutine" ||L.body.isNone)=false/\CP J ([(.slice (some (adr G.heap.size)) 2 2)]++K).toArray I (fun M N=>M=.returned (.tuple #[])/\True/\True/\m N)))))) (m j))) (R (.returned (.tuple #[])) j)))):CP 90 #[.slice a b c,d] w R:=
 vcq Tryz.func90 [] [(5,⟨[(10,.int .i64)],[]⟩),(16,⟨[],[]⟩)] [.l (.slice a b c),.l (.val d)] h
theorem q_impl_RUniqueArgumentNames (a:OA)(b c:Nat)(d:OA)(e f:Nat)(g:BA)(i:BA)(j:BA)(k:OA)(l m:Nat)(n:OA)(o p:Nat)(q:OA)(r s:Nat)(t:OA)(u v:Nat)(w:World)(R:EW)(h:
 True/\(let x:=w.alloc (.cells #[.slice a b c,.slice d e f,.string g,.string i,.string j,.slice k l m,.slice n o p] 40);
 True/\(let y:=x.alloc (.cells #[.slice q r s,.slice t u v] 30);
 CP 33 #[(.agg #[.slice a b c,.slice d e f,.string g,.string i,.string j,.slice k l m,.slice n o p]),(.agg #[.slice q r s,.slice t u v]),(.func (.func 47) #[] #[])] y (fun z A=>∃ B,∃ C,z=.returned (.tuple #[.int .i64 B,.bool C])/\(KeepT 40 y A/\KeepT 30 y A/\True)/\R (.returned (.tuple #[.int .i64 B,.bool C])) A)))):CP 23 #[(.agg #[.slice a b c,.slice d e f,.string g,.string i,.string j,.slice k l m,.slice n o p]),(.agg #[.slice q r s,.slice t u v])] w R:=
 vcq Tryz.func23 [2,3] [] [.agg [.slice a b c,.slice d e f,.str g,.str i,.str j,.slice k l m,.slice n o p],.agg [.slice q r s,.slice t u v]] h
theorem q_ArgsTwice (a:OA)(b c:Nat)(d:OA)(e f:Nat)(w:World)(R:EW)(h:
 True/\(let g:=w.alloc (.cells #[.slice a b c,.slice d e f] 30);
 Cl 48 #[(.agg #[.slice a b c,.slice d e f])] g (fun i j k l=>(KeepT 30 g l/\True)/\∃ (m:Int->World->Prop) (n:Int->World->Nat),m 0 l/\
 (∀ o:Int,∀ p:World,m o p->
 (Br (decide (o<(j:Int))) (Ix i o j fun q=>Ll p (q.add (o.toNat*1)) fun r s t=>Cl 50 #[.slice r s t] p (fun u v x y=>(KeepT 30 p y/\True)/\Cb 49 #[.slice u v x] y (fun z A=>(KeepT 30 y A/\True)/\(Br z (R (.returned (.bool true)) A) ((m (IntKind.i64.wrap (o+1)) A/\n (IntKind.i64.wrap (o+1)) A<n o p)))))) (R (.returned (.bool false)) p)))))):CP 24 #[(.agg #[.slice a b c,.slice d e f])] w R:=
 vcq Tryz.func24 [1] [(6,⟨[(8,.int .i64)],[]⟩)] [.agg [.slice a b c,.slice d e f]] h
theorem q_argNames (a:OA)(b c:Nat)(w:World)(R:EW)(h:
 ∃ (d:OA->Nat->Nat->Int->World->Prop) (e:OA->Nat->Nat->Int->World->Nat),d none 0 0 0 w/\
 (∀ (f:OA) (g i:Nat),∀ j:Int,∀ k:World,d f g i j k->
 (Br (decide (j<(b:Int))) (Ix a j b fun l=>L_sisl k (l.add (j.toNat*4)) fun m n o p q r=>True/\(let s:=k.alloc (.cells #[(.string (⟨#[]⟩:BA)),.int .i64 0,(.string (⟨#[]⟩:BA)),.slice none 0 0] 90);
 True/\(let t:=k.alloc (.cells #[.string m,.int .i64 n,.string o,.slice p q r] 90);
 True/\(let u:=t.alloc (.cells #[.string m] 9);
 ∃ v x y,∃ z,(Go.builtin .append #[70,70] 70 #[false,false] #[.slice f g i,(.slice (some (adr t.heap.size)) 1 1)]).run Tryz.prog u=.ok (.value (.slice v x y)) z/\(KeepT 90 u z/\True)/\(d v x y (IntKind.i64.wrap (j+1)) z/\e v x y (IntKind.i64.wrap (j+1)) z<e f g i j k))))) (R (.returned (.slice f g i)) k)))):CP 50 #[.slice a b c] w R:=
 vcq Tryz.func50 [5] [(8,⟨[(3,.slice),(8,.int .i64)],[]⟩)] [.l (.slice a b c)] h
theorem q_laws_FnRuleArgs (a:OA)(b c:Nat)(d:OA)(e f:Nat)(g:OA)(i j:Nat)(k:OA)(l m:Nat)(n:OA)(o p:Nat)(q:OA)(r s:Nat)(t:OA)(u v:Nat)(w:World)(R:EW)(h:
 True/\(let x:=w.alloc (.cells #[.slice a b c,.slice d e f,.slice g i j,.slice k l m,.slice n o p] 26);
 True/\(let y:=x.alloc (.cells #[.slice q r s,.slice t u v] 30);
 ∀ z:Bool->World->Prop,(∀ A:Bool,∀ B:World,
 ((Br A (R (.returned (.bool true)) B) (CP 11 #[(.agg #[.slice a b c,.slice d e f,.slice g i j,.slice k l m,.slice n o p])] B (fun C D=>∃ E,∃ F,C=.returned (.tuple #[.pointer E,.bool F])/\(KeepT 26 B D/\KeepT 30 B D/\True)/\∀ G:Bool->World->Prop,(∀ H:Bool,∀ I:World,
 ((Br H (R (.returned (.bool true)) I) (∀ J,J=I.drew->CP 14 #[.pointer E] J (fun K L=>∃ M N O,∃ P Q S,∃ U,∃ V,∃ W,∃ X Y Z,∃ aa ab ac,K=.returned (.agg #[.slice M N O,.slice P Q S,.string U,.string V,.string W,.slice X Y Z,.slice aa ab ac])/\(KeepT 26 J L/\KeepT 30 J L/\True)/\((0=0)/\True)/\CP 23 #[(.agg #[.slice M N O,.slice P Q S,.string U,.string V,.string W,.slice X Y Z,.slice aa ab ac]),(.agg #[.slice q r s,.slice t u v])] L (fun ad ae=>∃ af,∃ ag,ad=.returned (.tuple #[.int .i64 af,.bool ag])/\(KeepT 26 L ae/\KeepT 30 L ae/\True)/\True/\True/\True/\Cb 24 #[(.agg #[.slice q r s,.slice t u v])] ae (fun ah ai=>(KeepT 26 ae ai/\KeepT 30 ae ai/\True)/\Cb 15 #[.int .i64 af,.bool ag,.bool ah] ai (fun aj ak=>(KeepT 26 ai ak/\KeepT 30 ai ak/\True)/\R (.returned (.bool aj)) ak)))))))->
 G H I)->
 (Nr (!F) (Cb 12 #[(.agg #[.slice q r s,.slice t u v])] D (fun al am=>(KeepT 26 D am/\KeepT 30 D am/\True)/\G (!al) am)) (G true D))))))->
 z A B)->
 Cb 9 #[(.agg #[.slice a b c,.slice d e f,.slice g i j,.slice k l m,.slice n o p])] y (fun an ao=>(KeepT 26 y ao/\KeepT 30 y ao/\True)/\(Nr (!an) (Cb 10 #[(.agg #[.slice q r s,.slice t u v])] ao (fun ap aq=>(KeepT 26 ao aq/\KeepT 30 ao aq/\True)/\z (!ap) aq)) (z true ao)))))):CP 7 #[(.agg #[.slice a b c,.slice d e f,.slice g i j,.slice k l m,.slice n o p]),(.agg #[.slice q r s,.slice t u v])] w R:=
 vcq Tryz.func7 [2,3] [(3,⟨[(16,.bool)],[]⟩),(13,⟨[(28,.bool)],[]⟩)] [.agg [.slice a b c,.slice d e f,.slice g i j,.slice k l m,.slice n o p],.agg [.slice q r s,.slice t u v]] h
end Go.VC
namespace Go.VC
open Go Go.Proofs
set_option maxRecDepth 100000
theorem q_core_Events_OnField (a:OA)(b:Value)(w:World)(R:EW)(h:
 Pt a fun c=>Ll w (c.add 1) fun d e f=>(b.oneCell'=true/\True)/\(let g:=w.alloc (.cells #[b] 192);
 ∃ i j k,∃ l,(Go.builtin .append #[117,117] 117 #[false,false] #[.slice d e f,(.slice (some (adr w.heap.size)) 1 1)]).run Tryz.prog g=.ok (.value (.slice i j k)) l/\True/\Pt a fun m=>Off l (m.add 1) 1 []/\True/\(let n:=(l.setCell (m.add 1) (.slice i j k));
 R (.returned (.tuple #[])) n))):CP 88 #[.pointer a,b] w R:=
 vcq Tryz.func88 [] [] [.l (.optr a),.l (.val b)] h
end Go.VC
namespace Go.VC
open Go Go.Proofs
variable [DB]
theorem c_core_Events_OnField {eb:Nat}{f:Value}{evs:List Value}{w:World}(hf:smallV f)(hB:Blk w eb 126 evs)(hj:evs[1]? =some (.slice none 0 0)):
  CP 88 #[.pointer (some (adr eb)),f] w fun e w'=>e=.returned (.tuple #[])/\∃ (p:Addr) (C:Nat),Blk w' eb 126 (evs.set 1 (.slice (some p) 1 C))/\At w' 192 p f/\w.heap.size<=p.block/\Ext (fun b=>b=eb) w w':=by
 obtain ⟨p,C,w7,r7,ha,hp,hx,-⟩:=on_append 117 192 Tryz.t192 _ _ (by kernel_rfl) (by kernel_rfl) rfl (by kernel_rfl) rfl (by kernel_rfl) (by decide) (w:=w) hf 117 #[false,false]
 have hB7:=hB.ext hx id
 have hlt:=hB.lt
 have hl:1+1<=evs.length:=(List.getElem?_eq_some_iff.1 hj).1
 have hs:Ext (fun b=>b=eb) w7 (w7.setCell ⟨eb,1,none⟩ (.slice (some p) 1 C)):=Ext.setCell (X:=fun b=>b=eb) (Ext.refl _) (a:=⟨eb,1,none⟩) (.inl rfl) _
 refine q_core_Events_OnField (some (adr eb)) f w _ ⟨adr eb,rfl,none,0,0,(hB.at (j:=1) hj).cell,⟨hf.one,trivial⟩,some p,1,C,w7,r7,trivial,adr eb,rfl,hB7.off (j:=1) (n:=1) (q:=fun _=>false) hl rfl,trivial,rfl,p,C,hB7.set 1 _,hs.at (by show ¬ p.block=eb;omega) ha,hp,(hx.toM _).trans hs fun _ _ e=>e⟩
end Go.VC
namespace Go.VC
open Go Go.Proofs
set_option maxRecDepth 100000
theorem q_core_Events_OnDirective (a:OA)(b:Value)(w:World)(R:EW)(h:
 Pt a fun c=>Ll w (c.add 5) fun d e f=>(b.oneCell'=true/\True)/\(let g:=w.alloc (.cells #[b] 199);
 ∃ i j k,∃ l,(Go.builtin .append #[121,121] 121 #[false,false] #[.slice d e f,(.slice (some (adr w.heap.size)) 1 1)]).run Tryz.prog g=.ok (.value (.slice i j k)) l/\True/\Pt a fun m=>Off l (m.add 5) 1 []/\True/\(let n:=(l.setCell (m.add 5) (.slice i j k));
 R (.returned (.tuple #[])) n))):CP 91 #[.pointer a,b] w R:=
 vcq Tryz.func91 [] [] [.l (.optr a),.l (.val b)] h
end Go.VC
namespace Go.VC
open Go Go.Proofs
variable [DB]
theorem c_core_Events_OnDirective {eb:Nat}{f:Value}{evs:List Value}{w:World}(hf:smallV f)(hB:Blk w eb 126 evs)(hj:evs[5]? =some (.slice none 0 0)):
  CP 91 #[.pointer (some (adr eb)),f] w fun e w'=>e=.returned (.tuple #[])/\∃ (p:Addr) (C:Nat),Blk w' eb 126 (evs.set 5 (.slice (some p) 1 C))/\At w' 199 p f/\w.heap.size<=p.block/\Ext (fun b=>b=eb) w w':=by
 obtain ⟨p,C,w7,r7,ha,hp,hx,-⟩:=on_append 121 199 Tryz.t199 _ _ (by kernel_rfl) (by kernel_rfl) rfl (by kernel_rfl) rfl (by kernel_rfl) (by decide) (w:=w) hf 121 #[false,false]
 have hB7:=hB.ext hx id
 have hlt:=hB.lt
 have hl:5+1<=evs.length:=(List.getElem?_eq_some_iff.1 hj).1
 have hs:Ext (fun b=>b=eb) w7 (w7.setCell ⟨eb,5,none⟩ (.slice (some p) 1 C)):=Ext.setCell (X:=fun b=>b=eb) (Ext.refl _) (a:=⟨eb,5,none⟩) (.inl rfl) _
 refine q_core_Events_OnDirective (some (adr eb)) f w _ ⟨adr eb,rfl,none,0,0,(hB.at (j:=5) hj).cell,⟨hf.one,trivial⟩,some p,1,C,w7,r7,trivial,adr eb,rfl,hB7.off (j:=5) (n:=1) (q:=fun _=>false) hl rfl,trivial,rfl,p,C,hB7.set 5 _,hs.at (by show ¬ p.block=eb;omega) ha,hp,(hx.toM _).trans hs fun _ _ e=>e⟩
end Go.VC
namespace Go.VC
open Go Go.Proofs
variable [DB]
abbrev StK (bad:Ev->Prop)(ae cnt:Nat)(l:List Ev)(w:World):Prop:=Cnt ae cnt (l.length*4194304) (∃ e∈l,bad e) w
abbrev InK (bad:Ev->Prop)(ae cnt:Nat)(l:List Ev)(k:Nat)(b:Prop)(w:World):Prop:=Cnt ae cnt (l.length*4194304+k) ((∃ e∈l,bad e)∨b) w
theorem InK.start {bad:Ev->Prop}{ae cnt:Nat}{l:List Ev}{w:World}{b:Prop}(h:StK bad ae cnt l w)(hb:¬ b):InK bad ae cnt l 0 b w:=Cnt.skip h (by omega) ⟨.inl,fun k=>k.elim id fun k=>absurd k hb⟩
theorem InK.good {bad:Ev->Prop}{ae cnt:Nat}{l:List Ev}{w:World}{k k':Nat}{b b':Prop}(h:InK bad ae cnt l k b w)(hk:k<=k')(hb:b↔b'):InK bad ae cnt l k' b' w:=Cnt.skip h (by omega) ⟨fun k=>k.imp id hb.1,fun k=>k.imp id hb.2⟩
theorem InK.told {bad:Ev->Prop}{ae cnt:Nat}{l:List Ev}{w:World}{k k':Nat}{b':Prop}(h:Cnt ae cnt (l.length*4194304+k+1) True w)(hk:k+1<=k')(hb:b'):InK bad ae cnt l k' b' w:=Cnt.skip h (by omega) ⟨fun _=>.inr hb,fun _=>trivial⟩
theorem InK.stop {bad:Ev->Prop}{ae cnt:Nat}{l:List Ev}{w:World}{k:Nat}{b:Prop}{ev:Ev}(h:InK bad ae cnt l k b w)(hk:k<=4194304)(hb:b↔bad ev):StK bad ae cnt (l++[ev]) w:=
 Cnt.skip h (by rw [List.length_append,List.length_cons,List.length_nil];omega) (Iff.trans ⟨fun k=>k.imp id hb.1,fun k=>k.imp id hb.2⟩ ex_snoc.symm)
end Go.VC
namespace Go.VC
open Go Go.Proofs
set_option maxRecDepth 100000
theorem q_twice (a:OA)(b c:Nat)(w:World)(R:EW)(h:
 ∃ (d:Int->World->Prop) (e:Int->World->Nat),d 0 w/\
 (∀ f:Int,∀ g:World,d f g->
 (Br (decide (f<(b:Int))) (Ix a f b fun i=>Ls g (i.add (f.toNat*1)) fun j=>∀ k:Bool->World->Prop,(∀ l:Bool,∀ m:World,
 ((Br l (R (.returned (.bool true)) m) ((d (IntKind.i64.wrap (f+1)) m/\e (IntKind.i64.wrap (f+1)) m<e f g))))->
 k l m)->
 (Br (!(j.toList==(⟨#[]⟩:BA).toList)) ((0<=(0:Int)/\(0:Int)<=f/\f<=(c:Int))/\Cb 56 #[.string j,(.slice (if c=(0:Int).toNat then a else Option.map (·.add ((0:Int).toNat*1)) a) (f.toNat-(0:Int).toNat) (c-(0:Int).toNat))] g (fun n o=>True/\k n o)) (k false g))) (R (.returned (.bool false)) g)))):CP 49 #[.slice a b c] w R:=
 vcq Tryz.func49 [] [(6,⟨[(7,.int .i64)],[]⟩),(17,⟨[(20,.bool)],[]⟩)] [.l (.slice a b c)] h
end Go.VC
namespace Go.VC
open Go Go.Proofs
variable [DB]
def nz (l:List BA):List BA:=l.filter fun s=> !decide (s=E0)
theorem nz_snoc_e (l:List BA):nz (l++[E0])=nz l:=by
 have:([E0].filter fun s=> !decide (s=E0))=[]:=by simp
 rw [nz,List.filter_append,this,List.append_nil];rfl
theorem nz_snoc {l:List BA}{x:BA}(h:x≠E0):nz (l++[x])=nz l++[x]:=by
 have:([x].filter fun s=> !decide (s=E0))=[x]:=by simp [h]
 rw [nz,List.filter_append,this];rfl
theorem mem_nz {l:List BA}{x:BA}:x∈nz l↔x∈l/\x≠E0:=by simp [nz,List.mem_filter]
theorem nz_all {l:List BA}(h:∀ x∈l,x≠E0):nz l=l:=List.filter_eq_self.2 fun x hx=>by simp [h x hx]
theorem nz_take {l:List BA}{k:Nat}(h:(nz l).Nodup):(nz (l.take k)).Nodup:=h.sublist ((List.take_sublist k l).filter _)
theorem take_snoc {α:Type}{xs:List α}{i:Int}{x:α}(h0:0<=i)(hx:xs[i.toNat]? =some x):xs.take (i+1).toNat=xs.take i.toNat++[x]:=by
 rw [show (i+1).toNat=i.toNat+1 by omega,List.take_add_one,hx];rfl
theorem SlL.take {α:Type}{w:World}{T n:Nat}{R:α->List Value->Prop}{a:OA}{l c:Nat}{xs:List α}(h:SlL w T n R a l c xs){i:Nat}(hi:i<=l):SlL w T n R a i c (xs.take i):=by
 obtain ⟨h1,h2,h3,h4⟩:=h
 refine ⟨?_,by omega,by omega,fun j x hx=>h4 j x ?_⟩
 ·rw [List.length_take];omega
 ·rw [List.getElem?_take] at hx
  split at hx
  ·exact hx
  ·cases hx
theorem slice_same (a:OA)(c:Nat):(if c=(0:Int).toNat then a else Option.map (·.add ((0:Int).toNat*1)) a)=a:=by
 split
 ·rfl
 ·cases a with
  | none=>rfl
  | some a=>rfl
theorem c_twice {a:OA}{l c:Nat}{xs:List BA}{w:World}(hl:RStrs w a l c xs):
  CP 49 #[.slice a l c] w (RetB w fun b=>b=true↔¬ (nz xs).Nodup):=by
 obtain ⟨e1,e3⟩:=hl.len
 have hlc:l<=c:=hl.2.1
 refine q_twice a l c w _ ⟨fun i w1=>0<=i/\i<=l/\Ext (fun _=>False) w w1/\(nz (xs.take i.toNat)).Nodup,fun i _=>((l:Int)-i).toNat,⟨by omega,by omega,Ext.refl w,by simp [nz]⟩,?_⟩
 rintro i w1 ⟨h0,hi,hx,hn⟩
 refine ⟨fun hlt=>?_,fun hge=>?_⟩
 ·have hlt:=of_decide_eq_true hlt
  obtain ⟨p,x,hp,hxs,cs,hc,rfl⟩:=hl.get h0 hlt
  refine ⟨p,hp,⟨h0,hlt⟩,x,hx.cell hc.1.choose_spec.2 id,fun K hK=>?_⟩
  have key:∀ (z:Bool) w',Ext (fun _=>False) w1 w'->(z=true↔x≠E0/\x∈xs.take i.toNat)->K z w':=by
   intro z w' hx' hz
   refine hK z w' ⟨fun h=>⟨true,rfl,hx.then hx',fun _ hnd=>?_,fun _=>rfl⟩,fun h=>?_⟩
   ·obtain ⟨hne,hm⟩:=hz.1 h
    have:=nz_take (k:=(i+1).toNat) hnd
    rw [take_snoc h0 hxs,nz_snoc hne,nodup_snoc] at this
    exact this.2 (mem_nz.2 ⟨hm,hne⟩)
   ·rw [wrap_lt h0 (by omega)]
    refine next h0 hlt ⟨hx.then hx',?_⟩
    rw [take_snoc h0 hxs]
    by_cases he:x=E0
    ·rw [he,nz_snoc_e];exact hn
    ·rw [nz_snoc he,nodup_snoc]
     refine ⟨hn,fun hm=>?_⟩
     rw [hz.2 ⟨he,(mem_nz.1 hm).1⟩] at h
     cases h
  refine ⟨fun hne=>⟨⟨by omega,h0,by omega⟩,?_⟩,fun he=>key false w1 (Ext.refl w1) ⟨nofun,fun h=>absurd (nbeq_f he) h.1⟩⟩
  rw [slice_same]
  have hne:=nbeq_t hne
  have ht:RStrs w1 a (i.toNat-(0:Int).toNat) (c-(0:Int).toNat) (xs.take i.toNat):=SlL.take (T:=9) (n:=1) (R:=fun s cs=>cs=[.string s]) (hl.keep hx.keep) (i:=i.toNat) (by omega)
  refine (c_in x ht).mono ?_
  rintro _ w' ⟨b,rfl,hx',hb⟩
  exact ⟨b,rfl,trivial,key b w' hx' (hb.trans ⟨fun h=>⟨hne,h⟩,fun h=>h.2⟩)⟩
 ·have hle:=of_decide_eq_false hge
  rw [List.take_of_length_le (by omega)] at hn
  exact ⟨false,rfl,hx,nofun,fun h=>absurd hn h⟩
end Go.VC
namespace Go.VC
open Go Go.Proofs
variable [DB]
def cntN (k:BA)(l:List BA):Nat:=(l.filter fun u=>decide (u=k)).length
theorem cntN_snoc (k:BA)(l:List BA)(x:BA):cntN k (l++[x])=cntN k l+if x=k then 1 else 0:=by
 unfold cntN
 rw [List.filter_append,List.length_append]
 by_cases h:x=k<;>simp [h]
theorem cntN_pos {k:BA}{l:List BA}:0<cntN k l↔k∈l:=by
 unfold cntN
 rw [List.length_pos_iff_exists_mem]
 constructor
 ·rintro ⟨u,hu⟩
  obtain ⟨h1,h2⟩:=List.mem_filter.1 hu
  exact of_decide_eq_true h2▸h1
 ·exact fun h=>⟨k,List.mem_filter.2 ⟨h,by simp⟩⟩
theorem cntN_nodup {k:BA}:∀ {l:List BA},l.Nodup->cntN k l<=1
 | [],_=>by simp [cntN]
 | x::l,h=>by
  obtain ⟨h1,h2⟩:=List.nodup_cons.1 h
  by_cases hx:x=k
  ·have h0:¬ 0<cntN k l:=fun h=>h1 (hx▸cntN_pos.1 h)
   have:cntN k (x::l)=cntN k l+1:=by simp [cntN,hx]
   omega
  ·have:cntN k (x::l)=cntN k l:=by simp [cntN,hx]
   have:=cntN_nodup (k:=k) h2
   omega
theorem cntN_len (k:BA)(l:List BA):cntN k l<=l.length:=List.length_filter_le _ _
def cval (n:Nat):Option Value:=if n=0 then none else some (.int .i64 n)
def IM (w:World)(mb:Nat)(l:List BA):Prop:=∃ m,SMap w mb m/\∀ k,mget m k=cval (cntN k l)
theorem IM.ext {X:Nat->Prop}{w w':World}{b:Nat}{l:List BA}(h:IM w b l)(hx:Ext X w w')(hb:¬ X b):IM w' b l:=by
 obtain ⟨m,h1,h2⟩:=h
 exact ⟨m,h1.ext hx hb,h2⟩
theorem IM.look {w:World}{b:Nat}{l:List BA}(h:IM w b l)(u:BA):(Instr.lookup 289 (.map (some b)) (.string u) false).run Tryz.prog w=.ok (.int .i64 (cntN u l:Int)) w:=by
 obtain ⟨m,h1,h2⟩:=h
 rw [run_lookup (t:=289) (kt:=9) (e:=3) (u:=u) (i:=Tryz.t3) (by kernel_rfl) (by kernel_rfl) (by kernel_rfl) rfl h1 false]
 show Result.ok ((mget m u).getD (.int .i64 0)) w=_
 rw [h2,cval]
 split
 ·rename_i h;rw [h];rfl
 ·rfl
theorem IM.put {w:World}{b:Nat}{l:List BA}(h:IM w b l)(u:BA)(hl:l.length<=4194304):∃ w',(Instr.mapUpdate 289 (.map (some b)) (.string u) (.int .i64 (IntKind.i64.wrap ((cntN u l:Int)+1)))).run Tryz.prog w=.ok () w'/\IM w' b (l++[u])/\Ext (fun k=>k=b) w w':=by
 obtain ⟨m,h1,h2⟩:=h
 have hc:=cntN_len u l
 rw [wrap_lt (by omega) (by omega)]
 obtain ⟨w5,r5,hs5,x5⟩:=run_update (t:=289) (kt:=9) (e:=3) (u:=u) (v:=.int .i64 ((cntN u l:Int)+1)) (by kernel_rfl) (by kernel_rfl) h1
 refine ⟨w5,r5,⟨_,hs5,fun k=>?_⟩,x5⟩
 rw [mget_mput,cntN_snoc]
 by_cases hk:k=u
 ·subst hk
  rw [if_pos rfl,if_pos rfl,cval,if_neg (by omega)]
  rfl
 ·rw [if_neg hk,if_neg (Ne.symm hk),h2]
  rfl
end Go.VC
namespace Go.VC
open Go Go.Proofs
variable [DB]
mutual
theorem evV_len:∀ v:Val,(evV v).length<=valW v
 | .mk k r kids=>by
  have:=evKids_len kids
  simp only [evV,valW,List.length_append,List.length_cons,List.length_nil]
  by_cases h9:k=9
  ·rw [if_pos h9,if_neg (by omega)]
   simp only [List.length_nil]
   omega
  ·rw [if_neg h9]
   by_cases h8:k=8
   ·rw [if_pos h8]
    simp only [List.length_nil]
    omega
   ·rw [if_neg h8]
    simp only [List.length_nil]
    omega
theorem evKids_len:∀ l:List (BA × Val),(evKids l).length<=kidsW l
 | []=>Nat.le_refl _
 | x::l=>by
  have h1:=evV_len x.2
  have h2:=evKids_len l
  simp only [evKids,kidsW,List.length_append]
  omega
end
theorem fm_len {α β:Type}{f:α->List β}{g:α->Nat}:∀ {l:List α},(∀ x∈l,(f x).length<=g x)->(l.flatMap f).length<=(l.map g).sum
 | [],_=>by simp
 | x::l,h=>by
  have h1:=h x (by simp)
  have h2:=fm_len (l:=l) (f:=f) (g:=g) fun y hy=>h y (by simp [hy])
  simp only [List.flatMap_cons,List.length_append,List.map_cons,List.sum_cons]
  omega
theorem evArgs_len (l:List Argm):(evArgs l).length<=argsW l:=fm_len fun x _=>by
 have:=evV_len x.v
 simp only [argW]
 omega
theorem evDs_len (loc:BA)(l:List Dir):(evDs loc l).length<=dirsW l+1:=by
 have:(l.flatMap fun d=>evArgs d.args++[.dir d loc]).length<=(l.map dirW).sum:=fm_len fun x _=>by
  have:=evArgs_len x.args
  simp only [dirW,List.length_append,List.length_cons,List.length_nil]
  omega
 simp only [evDs,dirsW,List.length_append,List.length_cons,List.length_nil]
 omega
theorem evL_len (fs:List Frag):∀ l:List Sel,(evL fs l).length<=2*selsW l
 | []=>Nat.le_refl _
 | .mk k al n on args dirs kids::l=>by
  have h1:=evArgs_len args
  have h2:=evDs_len bField dirs
  have h3:=evDs_len bSpread dirs
  have h4:=evDs_len bInline dirs
  have h5:=evL_len fs kids
  have h6:=evL_len fs l
  simp only [evL,evS,selsW,selW,List.length_append]
  split
  ·simp only [List.length_append,List.length_cons,List.length_nil];omega
  ·split
   ·simp only [List.length_append,List.length_cons,List.length_nil];omega
   ·simp only [List.length_append,List.length_cons,List.length_nil];omega
theorem evOp_len (fs:List Frag)(x:OpD):(evOp fs x).length<=2*opW x:=by
 have h1:(x.vars.flatMap fun v=>evDef v.dflt++evDs bVarLoc v.dirs).length<=varsW x.vars:=fm_len (g:=varW) fun v _=>by
  have h2:=evDs_len bVarLoc v.dirs
  have h3:(evDef v.dflt).length<=valsW v.dflt:=by
   cases v.dflt with
   | nil=>exact Nat.le_refl _
   | cons y r=>
    have:=evV_len y
    simp only [evDef,valsW,List.map_cons,List.sum_cons]
    omega
  rw [List.length_append,varW]
  have:1<=typW v.t:=by cases v.t;simp only [typW];omega
  omega
 have h2:x.vars.length<=varsW x.vars:=lenW_sum fun y _=>by simp only [varW];omega
 have h3:=evDs_len (opLoc x.kind) x.dirs
 have h4:=evL_len fs x.kids
 simp only [evOp,evVars,opW,List.length_append,List.length_map,List.length_cons,List.length_nil] at h1 ⊢
 omega
theorem evFr_len (fs:List Frag)(x:Frag):(evFr fs x).length<=2*fragW x:=by
 have h3:=evDs_len bFragLoc x.dirs
 have h4:=evL_len fs x.kids
 simp only [evFr,fragW,List.length_append,List.length_cons,List.length_nil]
 omega
theorem sum_two {α:Type}(f:α->Nat):∀ l:List α,(l.map fun x=>2*f x).sum=2*(l.map f).sum
 | []=>rfl
 | x::l=>by simp only [List.map_cons,List.sum_cons,sum_two f l];omega
theorem spN_few {c:WCtx}{ob:Obs}(h1:c.ops.length<=12)(h2:c.frags.length<=12)(hs:docW c.ops c.frags<=2097152):spN c ob c.ops c.frags<=1073741824:=by
 have hp:pot c ob []<=2*(c.frags.map fragW).sum:=by
  unfold pot
  rw [<- sum_two fragW]
  exact sum_mono fun f _=>by
   rw [potF_out (by simp)]
   exact Nat.le_trans (cntE_le _ _) (evFr_len c.frags f)
 have ho:(c.ops.map fun x=>cntE ob (evOp c.frags x)+pot c ob []).sum<=2*(c.ops.map opW).sum+c.ops.length*pot c ob []:=by
  rw [<- sum_two opW,<- sum_addk (fun x:OpD=>2*opW x) (pot c ob [])]
  exact sum_mono fun x hx=>Nat.add_le_add_right (Nat.le_trans (cntE_le _ _) (evOp_len c.frags x)) _
 have hf:(c.frags.map fun x=>cntE ob (evFr c.frags x)+pot c ob []).sum<=2*(c.frags.map fragW).sum+c.frags.length*pot c ob []:=by
  rw [<- sum_two fragW,<- sum_addk (fun x:Frag=>2*fragW x) (pot c ob [])]
  exact sum_mono fun x hx=>Nat.add_le_add_right (Nat.le_trans (cntE_le _ _) (evFr_len c.frags x)) _
 unfold docW at hs
 have hpt:pot c ob []<=4194304:=by omega
 have k1:=Nat.mul_le_mul h1 hpt
 have k2:=Nat.mul_le_mul h2 hpt
 unfold spN
 omega
end Go.VC
namespace Go.VC
open Go Go.Proofs
set_option maxRecDepth 100000
theorem q_argLists (a:OA)(b c:Nat)(d:OA)(e f:Nat)(w:World)(R:EW)(h:
 True/\(let g:=w.alloc (.cells #[.slice a b c,.slice d e f] 30);
 ∃ (i:OA->Nat->Nat->Int->World->Prop) (j:OA->Nat->Nat->Int->World->Nat),i none 0 0 0 g/\
 (∀ (k:OA) (l m:Nat),∀ n:Int,∀ o:World,i k l m n o->
 (Br (decide (n<(b:Int))) (Ix a n b fun p=>L_sslll o (p.add (n.toNat*5)) fun q r s t u v x y z A B=>True/\(let C:=o.alloc (.cells #[(.string (⟨#[]⟩:BA)),(.string (⟨#[]⟩:BA)),.slice none 0 0,.slice none 0 0,.slice none 0 0] 50);
 True/\(let D:=o.alloc (.cells #[.string q,.string r,.slice s t u,.slice v x y,.slice z A B] 50);
 Cl 93 #[.slice z A B] D (fun E F G H=>(KeepT 30 D H/\KeepT 50 D H/\True)/\∃ I J K,∃ L,(Go.builtin .append #[81,81] 81 #[false,false] #[.slice k l m,.slice E F G]).run Tryz.prog H=.ok (.value (.slice I J K)) L/\(KeepT 30 H L/\KeepT 50 H L/\True)/\(i I J K (IntKind.i64.wrap (n+1)) L/\j I J K (IntKind.i64.wrap (n+1)) L<j k l m n o))))) (∃ (M:OA->Nat->Nat->Int->World->Prop) (N:OA->Nat->Nat->Int->World->Nat),M k l m 0 o/\
 (∀ (O:OA) (P Q:Nat),∀ S:Int,∀ U:World,M O P Q S U->
 (Br (decide (S<(e:Int))) (Ix d S e fun V=>L_ssll U (V.add (S.toNat*4)) fun W X Y Z aa ab ac ad=>True/\(let ae:=U.alloc (.cells #[(.string (⟨#[]⟩:BA)),(.string (⟨#[]⟩:BA)),.slice none 0 0,.slice none 0 0] 62);
 True/\(let af:=U.alloc (.cells #[.string W,.string X,.slice Y Z aa,.slice ab ac ad] 62);
 Cl 93 #[.slice ab ac ad] af (fun ag ah ai aj=>(KeepT 30 af aj/\KeepT 62 af aj/\True)/\∃ ak al am,∃ an,(Go.builtin .append #[81,81] 81 #[false,false] #[.slice O P Q,.slice ag ah ai]).run Tryz.prog aj=.ok (.value (.slice ak al am)) an/\(KeepT 30 aj an/\KeepT 62 aj an/\True)/\(M ak al am (IntKind.i64.wrap (S+1)) an/\N ak al am (IntKind.i64.wrap (S+1)) an<N O P Q S U))))) (Cl 94 #[(.agg #[.slice a b c,.slice d e f])] U (fun ao ap aq ar=>(KeepT 30 U ar/\True)/\∃ (au:OA->Nat->Nat->Int->World->Prop) (av:OA->Nat->Nat->Int->World->Nat),au O P Q 0 ar/\
 (∀ (ax:OA) (ay az:Nat),∀ aA:Int,∀ aB:World,au ax ay az aA aB->
 (Br (decide (aA<(ap:Int))) (Ix ao aA ap fun aC=>Ll aB (aC.add (aA.toNat*2)) fun aD aE aF=>Ls aB ((aC.add (aA.toNat*2)).add 1) fun aG=>True/\(let aH:=aB.alloc (.cells #[.slice none 0 0,(.string (⟨#[]⟩:BA))] 204);
 True/\(let aI:=aB.alloc (.cells #[.slice aD aE aF,.string aG] 204);
 ∃ (aJ:OA->Nat->Nat->Int->World->Prop) (aK:OA->Nat->Nat->Int->World->Nat),aJ ax ay az 0 aI/\
 (∀ (aL:OA) (aM aN:Nat),∀ aO:Int,∀ aP:World,aJ aL aM aN aO aP->
 (Br (decide (aO<(aE:Int))) (Ix aD aO aE fun aQ=>L_sl aP (aQ.add (aO.toNat*2)) fun aS aU aV aW=>True/\(let aX:=aP.alloc (.cells #[(.string (⟨#[]⟩:BA)),.slice none 0 0] 206);
 True/\(let aY:=aP.alloc (.cells #[.string aS,.slice aU aV aW] 206);
 True/\(let aZ:=aY.alloc (.cells #[.slice aU aV aW] 83);
 ∃ ba bb bc,∃ bd,(Go.builtin .append #[81,81] 81 #[false,false] #[.slice aL aM aN,(.slice (some (adr aY.heap.size)) 1 1)]).run Tryz.prog aZ=.ok (.value (.slice ba bb bc)) bd/\(KeepT 30 aZ bd/\KeepT 204 aZ bd/\KeepT 206 aZ bd/\True)/\(aJ ba bb bc (IntKind.i64.wrap (aO+1)) bd/\aK ba bb bc (IntKind.i64.wrap (aO+1)) bd<aK aL aM aN aO aP))))) ((au aL aM aN (IntKind.i64.wrap (aA+1)) aP/\av aL aM aN (IntKind.i64.wrap (aA+1)) aP<av ax ay az aA aB))))))) (R (.returned (.slice ax ay az)) aB)))))))))))):CP 48 #[(.agg #[.slice a b c,.slice d e f])] w R:=
 vcq Tryz.func48 [1,5,7,9,11] [(8,⟨[(3,.slice),(15,.int .i64)],[]⟩),(25,⟨[(3,.slice),(28,.int .i64)],[]⟩),(42,⟨[(3,.slice),(41,.int .i64)],[]⟩),(56,⟨[(3,.slice),(48,.int .i64)],[]⟩)] [.agg [.slice a b c,.slice d e f]] h
theorem q_argListsOf (a:OA)(b c:Nat)(w:World)(R:EW)(h:
 ∃ (d:OA->Nat->Nat->Int->World->Prop) (e:OA->Nat->Nat->Int->World->Nat),d none 0 0 0 w/\
 (∀ (f:OA) (g i:Nat),∀ j:Int,∀ k:World,d f g i j k->
 (Br (decide (j<(b:Int))) (Ix a j b fun l=>L_issslll k (l.add (j.toNat*7)) fun m n o p q r s t u v x y z=>True/\(let A:=k.alloc (.cells #[.int .i64 0,(.string (⟨#[]⟩:BA)),(.string (⟨#[]⟩:BA)),(.string (⟨#[]⟩:BA)),.slice none 0 0,.slice none 0 0,.slice none 0 0] 104);
 True/\(let B:=k.alloc (.cells #[.int .i64 m,.string n,.string o,.string p,.slice q r s,.slice t u v,.slice x y z] 104);
 True/\(let C:=B.alloc (.cells #[.slice q r s] 83);
 ∃ D E F,∃ G,(Go.builtin .append #[81,81] 81 #[false,false] #[.slice f g i,(.slice (some (adr B.heap.size)) 1 1)]).run Tryz.prog C=.ok (.value (.slice D E F)) G/\(KeepT 104 C G/\True)/\Cl 93 #[.slice x y z] G (fun H I J K=>(KeepT 104 G K/\True)/\∃ L M N,∃ O,(Go.builtin .append #[81,81] 81 #[false,false] #[.slice D E F,.slice H I J]).run Tryz.prog K=.ok (.value (.slice L M N)) O/\(KeepT 104 K O/\True)/\(d L M N (IntKind.i64.wrap (j+1)) O/\e L M N (IntKind.i64.wrap (j+1)) O<e f g i j k)))))) (R (.returned (.slice f g i)) k)))):CP 93 #[.slice a b c] w R:=
 vcq Tryz.func93 [5] [(8,⟨[(3,.slice),(8,.int .i64)],[]⟩)] [.l (.slice a b c)] h
theorem q_uses (a:OA)(b c:Nat)(d:OA)(e f:Nat)(w:World)(R:EW)(h:
 True/\(let g:=w.alloc (.cells #[.slice a b c,.slice d e f] 30);
 ∃ (i:OA->Nat->Nat->Int->World->Prop) (j:OA->Nat->Nat->Int->World->Nat),i none 0 0 0 g/\
 (∀ (k:OA) (l m:Nat),∀ n:Int,∀ o:World,i k l m n o->
 (Br (decide (n<(b:Int))) (Ix a n b fun p=>L_sslll o (p.add (n.toNat*5)) fun q r s t u v x y z A B=>True/\(let C:=o.alloc (.cells #[(.string (⟨#[]⟩:BA)),(.string (⟨#[]⟩:BA)),.slice none 0 0,.slice none 0 0,.slice none 0 0] 50);
 True/\(let D:=o.alloc (.cells #[.string q,.string r,.slice s t u,.slice v x y,.slice z A B] 50);
 ∀ E,E=D.drew->Cs 130 #[.string q] E (fun F G=>(KeepT 30 E G/\KeepT 50 E G/\True)/\((1=1)/\True)/\True/\True/\(let H:=G.alloc (.cells #[.slice v x y,.string F] 204);
 True/\∃ I J K,∃ L,(Go.builtin .append #[201,201] 201 #[false,false] #[.slice k l m,(.slice (some (adr G.heap.size)) 1 1)]).run Tryz.prog H=.ok (.value (.slice I J K)) L/\(KeepT 30 H L/\KeepT 50 H L/\True)/\True/\True/\∃ (M:OA->Nat->Nat->Int->World->Prop) (N:OA->Nat->Nat->Int->World->Nat),M I J K 0 L/\
 (∀ (O:OA) (P Q:Nat),∀ S:Int,∀ U:World,M O P Q S U->
 (Br (decide (S<(t:Int))) (Ix s S t fun V=>Ls U (V.add (S.toNat*6)) fun W=>Ls U ((V.add (S.toNat*6)).add 1) fun X=>Ll U ((V.add (S.toNat*6)).add 2) fun Y Z aa=>Lb U ((V.add (S.toNat*6)).add 3) fun ab=>Ll U ((V.add (S.toNat*6)).add 4) fun ac ad ae=>Ll U ((V.add (S.toNat*6)).add 5) fun af ag ah=>True/\(let ai:=U.alloc (.cells #[(.string (⟨#[]⟩:BA)),(.string (⟨#[]⟩:BA)),.slice none 0 0,.bool false,.slice none 0 0,.slice none 0 0] 58);
 True/\(let aj:=U.alloc (.cells #[.string W,.string X,.slice Y Z aa,.bool ab,.slice ac ad ae,.slice af ag ah] 58);
 True/\True/\(let ak:=aj.alloc (.cells #[.slice af ag ah,(.string (⟨#[86,65,82,73,65,66,76,69,95,68,69,70,73,78,73,84,73,79,78]⟩:BA))] 204);
 ∃ al am an,∃ ao,(Go.builtin .append #[201,201] 201 #[false,false] #[.slice O P Q,(.slice (some (adr aj.heap.size)) 1 1)]).run Tryz.prog ak=.ok (.value (.slice al am an)) ao/\(KeepT 30 ak ao/\KeepT 50 ak ao/\KeepT 58 ak ao/\True)/\(M al am an (IntKind.i64.wrap (S+1)) ao/\N al am an (IntKind.i64.wrap (S+1)) ao<N O P Q S U))))) (Cl 131 #[.slice z A B] U (fun ap aq ar au=>(KeepT 30 U au/\KeepT 50 U au/\True)/\∃ av ax ay,∃ az,(Go.builtin .append #[201,201] 201 #[false,false] #[.slice O P Q,.slice ap aq ar]).run Tryz.prog au=.ok (.value (.slice av ax ay)) az/\(KeepT 30 au az/\KeepT 50 au az/\True)/\(i av ax ay (IntKind.i64.wrap (n+1)) az/\j av ax ay (IntKind.i64.wrap (n+1)) az<j k l m n o)))))))))) (∃ (aA:OA->Nat->Nat->Int->World->Prop) (aB:OA->Nat->Nat->Int->World->Nat),aA k l m 0 o/\
 (∀ (aC:OA) (aD aE:Nat),∀ aF:Int,∀ aG:World,aA aC aD aE aF aG->
 (Br (decide (aF<(e:Int))) (Ix d aF e fun aH=>L_ssll aG (aH.add (aF.toNat*4)) fun aI aJ aK aL aM aN aO aP=>True/\(let aQ:=aG.alloc (.cells #[(.string (⟨#[]⟩:BA)),(.string (⟨#[]⟩:BA)),.slice none 0 0,.slice none 0 0] 62);
 True/\(let aS:=aG.alloc (.cells #[.string aI,.string aJ,.slice aK aL aM,.slice aN aO aP] 62);
 True/\True/\(let aU:=aS.alloc (.cells #[.slice aK aL aM,(.string (⟨#[70,82,65,71,77,69,78,84,95,68,69,70,73,78,73,84,73,79,78]⟩:BA))] 204);
 ∃ aV aW aX,∃ aY,(Go.builtin .append #[201,201] 201 #[false,false] #[.slice aC aD aE,(.slice (some (adr aS.heap.size)) 1 1)]).run Tryz.prog aU=.ok (.value (.slice aV aW aX)) aY/\(KeepT 30 aU aY/\KeepT 62 aU aY/\True)/\Cl 131 #[.slice aN aO aP] aY (fun aZ ba bb bc=>(KeepT 30 aY bc/\KeepT 62 aY bc/\True)/\∃ bd be bf,∃ bg,(Go.builtin .append #[201,201] 201 #[false,false] #[.slice aV aW aX,.slice aZ ba bb]).run Tryz.prog bc=.ok (.value (.slice bd be bf)) bg/\(KeepT 30 bc bg/\KeepT 62 bc bg/\True)/\(aA bd be bf (IntKind.i64.wrap (aF+1)) bg/\aB bd be bf (IntKind.i64.wrap (aF+1)) bg<aB aC aD aE aF aG)))))) (R (.returned (.slice aC aD aE)) aG)))))))):CP 94 #[(.agg #[.slice a b c,.slice d e f])] w R:=
 vcq Tryz.func94 [1,5,7,9] [(8,⟨[(3,.slice),(13,.int .i64)],[]⟩),(25,⟨[(3,.slice),(29,.int .i64)],[]⟩),(44,⟨[(3,.slice),(49,.int .i64)],[]⟩)] [.agg [.slice a b c,.slice d e f]] h
theorem q_usesOf (a:OA)(b c:Nat)(w:World)(R:EW)(h:
 ∃ (d:OA->Nat->Nat->Int->World->Prop) (e:OA->Nat->Nat->Int->World->Nat),d none 0 0 0 w/\
 (∀ (f:OA) (g i:Nat),∀ j:Int,∀ k:World,d f g i j k->
 (Br (decide (j<(b:Int))) (Ix a j b fun l=>L_issslll k (l.add (j.toNat*7)) fun m n o p q r s t u v x y z=>True/\(let A:=k.alloc (.cells #[.int .i64 0,(.string (⟨#[]⟩:BA)),(.string (⟨#[]⟩:BA)),(.string (⟨#[]⟩:BA)),.slice none 0 0,.slice none 0 0,.slice none 0 0] 104);
 True/\(let B:=k.alloc (.cells #[.int .i64 m,.string n,.string o,.string p,.slice q r s,.slice t u v,.slice x y z] 104);
 ∀ C,C=B.drew->True/\(let D:=C.alloc (.cells #[(.string (⟨#[70,73,69,76,68]⟩:BA)),(.string (⟨#[70,82,65,71,77,69,78,84,95,83,80,82,69,65,68]⟩:BA)),(.string (⟨#[73,78,76,73,78,69,95,70,82,65,71,77,69,78,84]⟩:BA))] 9);
 ((1=1)/\(1=1)/\True)/\Ix (some (adr C.heap.size)) m 3 fun E=>Ls D (E.add (m.toNat*1)) fun F=>True/\True/\(let G:=D.alloc (.cells #[.slice t u v,.string F] 204);
 True/\∃ H I J,∃ K,(Go.builtin .append #[201,201] 201 #[false,false] #[.slice f g i,(.slice (some (adr D.heap.size)) 1 1)]).run Tryz.prog G=.ok (.value (.slice H I J)) K/\(KeepT 104 G K/\True)/\True/\True/\Cl 131 #[.slice x y z] K (fun L M N O=>(KeepT 104 K O/\True)/\∃ P Q S,∃ U,(Go.builtin .append #[201,201] 201 #[false,false] #[.slice H I J,.slice L M N]).run Tryz.prog O=.ok (.value (.slice P Q S)) U/\(KeepT 104 O U/\True)/\(d P Q S (IntKind.i64.wrap (j+1)) U/\e P Q S (IntKind.i64.wrap (j+1)) U<e f g i j k))))))) (R (.returned (.slice f g i)) k)))):CP 131 #[.slice a b c] w R:=
 vcq Tryz.func131 [5] [(8,⟨[(3,.slice),(8,.int .i64)],[]⟩)] [.l (.slice a b c)] h
theorem q_location (a:BA)(w:World)(R:EW)(h:
 (Br (a.toList==(⟨#[109,117,116,97,116,105,111,110]⟩:BA).toList) (R (.returned (.string (⟨#[77,85,84,65,84,73,79,78]⟩:BA))) w) ((Br (a.toList==(⟨#[115,117,98,115,99,114,105,112,116,105,111,110]⟩:BA).toList) (R (.returned (.string (⟨#[83,85,66,83,67,82,73,80,84,73,79,78]⟩:BA))) w) (R (.returned (.string (⟨#[81,85,69,82,89]⟩:BA))) w))))):CP 130 #[.string a] w R:=
 vcq Tryz.func130 [] [] [.l (.str a)] h
end Go.VC
namespace Go.VC
open Go Go.Proofs
variable [DB]
def AppT (t T n:Nat):Prop:=∃ (i:TypeInfo) (z:Value) (bytes:Nat),Tryz.prog.underlying t=some (.slice T)/\Tryz.prog.info? T=some i/\i.zero=some z/\i.size=n/\i.bytes=bytes/\z.cells.size=n/\0<n/\bytes<=4096
def Acc {α:Type}(wb w:World)(T n:Nat)(R:α->List Value->Prop)(A:OA)(L C:Nat)(xs:List α):Prop:=
 Ext (fun _=>False) wb w/\L=xs.length/\∃ cells,Own wb.heap.size w T n A L C cells/\Flat n R xs cells
section
variable {α:Type} {wb w w':World} {t T n:Nat} {R:α->List Value->Prop} {A:OA} {L C:Nat} {xs ys:List α} {x:α}
theorem Acc.nil (h:Ext (fun _=>False) wb w):Acc wb w T n R none 0 0 ([]:List α):=⟨h,rfl,[],Own.nil ..,.nil⟩
theorem Acc.step (h:Acc wb w T n R A L C xs)(hx:Ext (fun _=>False) w w'):Acc wb w' T n R A L C xs:=by
 obtain ⟨h1,h2,cells,h3,h4⟩:=h
 exact ⟨h1.then hx,h2,cells,h3.keep hx fun _ _=>id,h4⟩
theorem Acc.sl (h:Acc wb w T n R A L C xs)(hn:0<n)(hl:xs.length<=4194304):SlL w T n R A L C xs:=by
 obtain ⟨h1,h2,cells,h3,h4⟩:=h
 exact h3.sl h4 hn (by omega)
theorem Acc.one (ha:AppT t T n)(hlen:∀ x cs,R x cs->cs.length=n)(h:Acc wb w T n R A L C xs){cs:List Value}(hr:R x cs)(hsm:∀ v∈cs,smallV v)(h2:xs.length<16777216):
  ∃ (A':OA) (C':Nat) (w':World),(Go.builtin .append #[t,t] t #[false,false] #[.slice A L C,.slice (some (adr w.heap.size)) 1 1]).run Tryz.prog (w.alloc (.cells cs.toArray T))=.ok (.value (.slice A' (L+1) C')) w'/\
   Acc wb w' T n R A' (L+1) C' (xs++[x])/\∀ T',T'≠T->KeepT T' (w.alloc (.cells cs.toArray T)) w':=by
 obtain ⟨i,z,bytes,a1,a2,a3,a4,a5,a6,a7,a8⟩:=ha
 obtain ⟨h1,hL,cells,h3,h4⟩:=h
 obtain ⟨A',C',w',r,⟨cells',o',f'⟩,hx,hk⟩:=append_one t T i z n bytes a1 a2 a3 a4 a5 a6 a7 a8 h3 h1.size h4 (hlen _ _ hr) hsm hr hlen (by omega) t #[false,false]
 refine ⟨A',C',w',r,⟨h1.trans hx fun b hb hbl=>?_,by rw [List.length_append,hL];rfl,cells',o',f'⟩,hk⟩
 have:=(h3.base b hbl).1
 omega
theorem Acc.more (ha:AppT t T n)(hlen:∀ x cs,R x cs->cs.length=n)(h:Acc wb w T n R A L C xs){a:OA}{l c:Nat}(hr:SlL w T n R a l c ys)(h2:xs.length+ys.length<=16777216):
  ∃ (A':OA) (C':Nat) (w':World),(Go.builtin .append #[t,t] t #[false,false] #[.slice A L C,.slice a l c]).run Tryz.prog w=.ok (.value (.slice A' (L+l) C')) w'/\
   Acc wb w' T n R A' (L+l) C' (xs++ys)/\∀ T',T'≠T->KeepT T' w w':=by
 obtain ⟨i,z,bytes,a1,a2,a3,a4,a5,a6,a7,a8⟩:=ha
 obtain ⟨h1,hL,cells,h3,h4⟩:=h
 have hl:=hr.len.1
 obtain ⟨A',C',w',r,⟨cells',o',f'⟩,hx,-⟩:=append_sl t T i z n bytes a1 a2 a3 a4 a5 a6 a7 a8 h3 h1.size h4 hr hlen (by omega) t #[false,false]
 refine ⟨A',C',w',r,⟨h1.trans hx fun b hb hbl=>?_,by rw [List.length_append,hL,hl],cells',o',f'⟩,fun T' hT=>h3.keepT hx hT⟩
 have:=(h3.base b hbl).1
 omega
theorem Acc.get (h:Acc wb w T n R A L C xs){i:Int}(h0:0<=i)(hi:i<(L:Int)):∃ (p:Addr) (x:α) (cs:List Value),A=some p/\xs[i.toNat]? =some x/\R x cs/\∀ k u,cs[k]? =some u->At w T ((p.add (i.toNat*n)).add k) u:=by
 obtain ⟨h1,h2,cells,h3,h4⟩:=h
 obtain ⟨x,hx⟩:∃ x,xs[i.toNat]? =some x:=⟨_,List.getElem?_eq_getElem (by omega)⟩
 obtain ⟨cs,g1,g2,g3,g4⟩:=h4.get _ x hx
 have hp:∃ p,A=some p:=by
  obtain ⟨-, h|⟨g,cap,cur,e1,-⟩⟩:=h3
  ·obtain ⟨h,-⟩:=h
   simp only [Value.slice.injEq] at h
   omega
  ·simp only [Value.slice.injEq] at e1
   exact ⟨_,e1.1⟩
 obtain ⟨p,rfl⟩:=hp
 refine ⟨p,x,cs,rfl,hx,g3,fun k u hu=>?_⟩
 obtain ⟨p',hp',ha⟩:=h3.at (g4 k u hu)
 obtain rfl:p=p':=Option.some.inj hp'
 rw [add_add']
 exact ha
theorem KeepT.at {w w':World}{T:TypeId}(h:KeepT T w w'){a:Addr}{v:Value}(ha:At w T a v):At w' T a v:=by
 obtain ⟨cs,fr,h1,h2⟩:=ha
 exact ⟨cs,fr,h _ _ _ h1,h2⟩
theorem KeepT.then {w w' w'':World}{T:TypeId}(h:KeepT T w w')(h':KeepT T w' w''):KeepT T w w'':=fun b c fr hb=>h' b c fr (h b c fr hb)
end
def RAL (w0:World)(xs:List Argm)(cs:List Value):Prop:=∃ (a:OA) (l c:Nat),cs=[.slice a l c]/\RArgms w0 a l c xs
def RUse (w0:World)(ds:List Dir)(cs:List Value):Prop:=∃ (a:OA) (l c:Nat) (s:BA),cs=[.slice a l c,.string s]/\RDirs w0 a l c ds
theorem appAL:AppT 81 83 1:=⟨Tryz.t83,_,_,by kernel_rfl,by kernel_rfl,rfl,by kernel_rfl,rfl,by kernel_rfl,by omega,by decide⟩
theorem appU:AppT 201 204 2:=⟨Tryz.t204,_,_,by kernel_rfl,by kernel_rfl,rfl,by kernel_rfl,rfl,by kernel_rfl,by omega,by decide⟩
theorem RAL.len {w0:World}(x:List Argm)(cs:List Value):RAL w0 x cs->cs.length=1:=fun ⟨_,_,_,h,_⟩=>by rw [h];rfl
theorem RUse.len {w0:World}(x:List Dir)(cs:List Value):RUse w0 x cs->cs.length=2:=fun ⟨_,_,_,_,h,_⟩=>by rw [h];rfl
mutual
def alS:Sel->List (List Argm)
 | .mk _ _ _ _ args _ kids=>args::alL kids
def alL:List Sel->List (List Argm)
 | []=>[]
 | s::l=>alS s++alL l
end
mutual
def usS:Sel->List (List Dir)
 | .mk _ _ _ _ _ dirs kids=>dirs::usL kids
def usL:List Sel->List (List Dir)
 | []=>[]
 | s::l=>usS s++usL l
end
theorem alL_flat:∀ l:List Sel,alL l=l.flatMap alS
 | []=>rfl
 | s::l=>by simp [alL,alL_flat l]
theorem usL_flat:∀ l:List Sel,usL l=l.flatMap usS
 | []=>rfl
 | s::l=>by simp [usL,usL_flat l]
theorem alL_len:∀ l:List Sel,(alL l).length=selL l
 | []=>rfl
 | .mk k al n on args dirs kids::l=>by
  simp only [alL,alS,selL,selS,List.length_append,List.length_cons,alL_len kids,alL_len l]
  omega
theorem usL_len:∀ l:List Sel,(usL l).length=selL l
 | []=>rfl
 | .mk k al n on args dirs kids::l=>by
  simp only [usL,usS,selL,selS,List.length_append,List.length_cons,usL_len kids,usL_len l]
  omega
theorem take_snoc' {α:Type}{xs:List α}{i:Int}{x:α}(h0:0<=i)(hx:xs[i.toNat]? =some x):xs.take (i+1).toNat=xs.take i.toNat++[x]:=by
 rw [show (i+1).toNat=i.toNat+1 by omega,List.take_add_one,hx];rfl
theorem fm_snoc {α β:Type}(f:α->List β){xs:List α}{i:Int}{x:α}(h0:0<=i)(hx:xs[i.toNat]? =some x):(xs.take (i+1).toNat).flatMap f=(xs.take i.toNat).flatMap f++f x:=by
 rw [take_snoc' h0 hx,List.flatMap_append]
 simp
theorem fm_take {α β:Type}(f:α->List β)(xs:List α)(j:Nat):((xs.take j).flatMap f).length<=(xs.flatMap f).length:=by
 have:xs.flatMap f=(xs.take j).flatMap f++(xs.drop j).flatMap f:=by rw [<- List.flatMap_append,List.take_append_drop]
 rw [this,List.length_append]
 omega
theorem selL_in {s:Sel}:∀ {l:List Sel},s∈l->selS s<=selL l
 | t::l,h=>by
  simp only [selL]
  rcases List.mem_cons.1 h with rfl|h
  ·omega
  ·have:=selL_in h
   omega
abbrev ALof (w0:World)(xs:List Sel):Prop:=∀ (a:OA) (l c:Nat) (w:World),Ext (fun _=>False) w0 w->RSels w0 a l c xs->selL xs<=2097152->
 CP 93 #[.slice a l c] w fun e w'=>∃ A L C,e=.returned (.slice A L C)/\Acc w w' 83 1 (RAL w0) A L C (alL xs)
theorem c_argListsOf_of {w0:World}{xs:List Sel}(IH:∀ k al n on args dirs kids,Sel.mk k al n on args dirs kids∈xs->ALof w0 kids):ALof w0 xs:=by
 intro a l c w hw0 hl hfew
 obtain ⟨e1,e3⟩:=hl.len
 rw [<- alL_len,alL_flat] at hfew
 rw [alL_flat]
 refine q_argListsOf a l c w _ ⟨fun A L C i w1=>0<=i/\i<=l/\Acc w w1 83 1 (RAL w0) A L C ((xs.take i.toNat).flatMap alS),fun _ _ _ i _=>((l:Int)-i).toNat,⟨by omega,by omega,Acc.nil (Ext.refl w)⟩,?_⟩
 rintro A L C i w1 ⟨h0,hi,ac⟩
 refine ⟨fun hlt=>?_,fun hge=>?_⟩
 ·have hlt:=of_decide_eq_true hlt
  have x1:=hw0.then ac.1
  obtain ⟨p,x,hp,hxs,cs,hc,hv⟩:=hl.get h0 hlt
  have hmem:=List.mem_of_getElem? hxs
  have hsn:=fm_snoc alS h0 hxs
  have hle:=fm_take alS xs (i+1).toNat
  have hsel:=selL_in hmem
  rw [<- alL_len xs,alL_flat] at hsel
  obtain ⟨k,al,n,on,args,dirs,kids⟩:=x
  have IHk:=IH k al n on args dirs kids hmem
  obtain ⟨a1,l1,c1,a2,l2,c2,a3,l3,c3,rfl,hv1,hv2,hv3⟩:=RSel_mk.1 hv
  obtain ⟨⟨_,_,hc0⟩,hs0,⟨_,_,hc1⟩,hs1,⟨_,_,hc2⟩,hs2,⟨_,_,hc3⟩,hs3,⟨_,_,hc4⟩,hs4,⟨_,_,hc5⟩,hs5,⟨_,_,hc6⟩,-⟩:=hc
  simp only [selS] at hsel
  rw [hsn,show alS (.mk k al n on args dirs kids)=args::alL kids by simp only [alS],List.length_append,List.length_cons,alL_len] at hle
  refine ⟨p,hp,⟨h0,hlt⟩,_,x1.cell hc0 id,_,x1.cell hc1 id,_,x1.cell hc2 id,_,x1.cell hc3 id,_,_,_,x1.cell hc4 id,_,_,_,x1.cell hc5 id,_,_,_,x1.cell hc6 id,trivial,trivial,trivial,?_⟩
  have hx16:Ext (fun _=>False) w1 (w1.alloc (.cells #[.int .i64 k,.string al,.string n,.string on,.slice a1 l1 c1,.slice a2 l2 c2,.slice a3 l3 c3] 104)):=(Ext.refl w1).alloc _
  obtain ⟨A2,C2,w19,r19,ac19,k19⟩:=(ac.step hx16).one appAL RAL.len (x:=args) (cs:=[.slice a1 l1 c1]) ⟨a1,l1,c1,rfl,hv1⟩ (fun v hv=>by simp only [List.mem_singleton] at hv;subst hv;rfl) (by omega)
  refine ⟨A2,L+1,C2,w19,r19,⟨k19 _ (by decide),trivial⟩,?_⟩
  refine (IHk a3 l3 c3 w19 (hw0.then ac19.1) hv3 (by omega)).mono ?_
  rintro _ w21 ⟨A3,L3,C3,rfl,ac21⟩
  have hlk:=alL_len kids
  obtain ⟨A4,C4,w24,r24,ac24,k24⟩:=(ac19.step ac21.1).more appAL RAL.len (ac21.sl (by omega) (by omega)) (by rw [List.length_append,List.length_cons,List.length_nil];omega)
  refine ⟨A3,L3,C3,rfl,⟨ac21.1.keepT _,trivial⟩,A4,L+1+L3,C4,w24,r24,⟨k24 _ (by decide),trivial⟩,?_⟩
  rw [wrap_lt h0 (by omega)]
  refine next h0 hlt ?_
  rw [hsn,show alS (.mk k al n on args dirs kids)=[args]++alL kids by simp only [alS];rfl,<- List.append_assoc]
  exact ac24
 ·have hle:=of_decide_eq_false hge
  rw [List.take_of_length_le (by omega)] at ac
  exact ⟨A,L,C,rfl,ac⟩
theorem c_argListsOf_all {w0:World}:∀ (d:Nat) (xs:List Sel),SizeOf.sizeOf xs<d->ALof w0 xs
 | 0,_,h=>by omega
 | d+1,xs,h=>c_argListsOf_of fun k al n on args dirs kids hm=>c_argListsOf_all d kids (by
   have:=List.sizeOf_lt_of_mem hm
   simp only [Sel.mk.sizeOf_spec] at this
   omega)
theorem c_argListsOf (w0:World)(xs:List Sel):ALof w0 xs:=c_argListsOf_all _ xs (Nat.lt_succ_self _)
abbrev USof (w0:World)(xs:List Sel):Prop:=∀ (a:OA) (l c:Nat) (w:World),Ext (fun _=>False) w0 w->RSels w0 a l c xs->okSels xs->selL xs<=2097152->
 CP 131 #[.slice a l c] w fun e w'=>∃ A L C,e=.returned (.slice A L C)/\Acc w w' 204 2 (RUse w0) A L C (usL xs)
theorem small_use {a:OA}{l c:Nat}{s:BA}(h:s.size<=4194304):∀ v∈[Value.slice a l c,.string s],smallV v:=fun v hv=>by
 simp only [List.mem_cons,List.not_mem_nil,or_false] at hv
 rcases hv with rfl|rfl
 ·rfl
 ·exact h
theorem c_usesOf_of {w0:World}{xs:List Sel}(IH:∀ k al n on args dirs kids,Sel.mk k al n on args dirs kids∈xs->USof w0 kids):USof w0 xs:=by
 intro a l c w hw0 hl hok hfew
 obtain ⟨e1,e3⟩:=hl.len
 rw [<- usL_len,usL_flat] at hfew
 rw [usL_flat]
 refine q_usesOf a l c w _ ⟨fun A L C i w1=>0<=i/\i<=l/\Acc w w1 204 2 (RUse w0) A L C ((xs.take i.toNat).flatMap usS),fun _ _ _ i _=>((l:Int)-i).toNat,⟨by omega,by omega,Acc.nil (Ext.refl w)⟩,?_⟩
 rintro A L C i w1 ⟨h0,hi,ac⟩
 refine ⟨fun hlt=>?_,fun hge=>?_⟩
 ·have hlt:=of_decide_eq_true hlt
  have x1:=hw0.then ac.1
  obtain ⟨p,x,hp,hxs,cs,hc,hv⟩:=hl.get h0 hlt
  have hmem:=List.mem_of_getElem? hxs
  have hokx:=okSels_iff.1 hok x hmem
  have hsn:=fm_snoc usS h0 hxs
  have hle:=fm_take usS xs (i+1).toNat
  have hsel:=selL_in hmem
  rw [<- usL_len xs,usL_flat] at hsel
  obtain ⟨k,al,n,on,args,dirs,kids⟩:=x
  have IHk:=IH k al n on args dirs kids hmem
  obtain ⟨a1,l1,c1,a2,l2,c2,a3,l3,c3,rfl,hv1,hv2,hv3⟩:=RSel_mk.1 hv
  obtain ⟨⟨_,_,hc0⟩,hs0,⟨_,_,hc1⟩,hs1,⟨_,_,hc2⟩,hs2,⟨_,_,hc3⟩,hs3,⟨_,_,hc4⟩,hs4,⟨_,_,hc5⟩,hs5,⟨_,_,hc6⟩,-⟩:=hc
  simp only [okSel] at hokx
  obtain ⟨hk,-, -, hkids,-⟩:=hokx
  simp only [selS] at hsel
  rw [hsn,show usS (.mk k al n on args dirs kids)=dirs::usL kids by simp only [usS],List.length_append,List.length_cons,usL_len] at hle
  refine ⟨p,hp,⟨h0,hlt⟩,_,x1.cell hc0 id,_,x1.cell hc1 id,_,x1.cell hc2 id,_,x1.cell hc3 id,_,_,_,x1.cell hc4 id,_,_,_,x1.cell hc5 id,_,_,_,x1.cell hc6 id,trivial,trivial,fun w17 e17=>⟨trivial,?_⟩⟩
  have hx17:Ext (fun _=>False) w1 w17:=by rw [e17];exact ((Ext.refl w1).alloc _).drew
  have B18:=Blk.made w17 9 [.string bField,.string bSpread,.string bInline]
  have hx18:Ext (fun _=>False) w17 (w17.alloc (.cells #[.string bField,.string bSpread,.string bInline] 9)):=(Ext.refl w17).alloc _
  have hcell:∃ s:BA,s.size<=4194304/\(w17.alloc (.cells #[.string bField,.string bSpread,.string bInline] 9)).cell? ((adr w17.heap.size).add (k.toNat*1))=some (.string s):=by
   rcases hk with rfl|rfl|rfl
   ·exact ⟨bField,by decide,(B18.at (j:=0) rfl).cell⟩
   ·exact ⟨bSpread,by decide,(B18.at (j:=1) rfl).cell⟩
   ·exact ⟨bInline,by decide,(B18.at (j:=2) rfl).cell⟩
  obtain ⟨s,hs,hsc⟩:=hcell
  refine ⟨⟨rfl,rfl,trivial⟩,_,rfl,⟨by omega,by omega⟩,s,hsc,trivial,trivial,trivial,?_⟩
  obtain ⟨A2,C2,w23,r23,ac23,k23⟩:=((ac.step hx17).step hx18).one appU RUse.len (x:=dirs) (cs:=[.slice a2 l2 c2,.string s]) ⟨a2,l2,c2,s,rfl,hv2⟩ (small_use hs) (by omega)
  refine ⟨A2,L+1,C2,w23,r23,⟨k23 _ (by decide),trivial⟩,trivial,trivial,?_⟩
  refine (IHk a3 l3 c3 w23 (hw0.then ac23.1) hv3 hkids (by omega)).mono ?_
  rintro _ w25 ⟨A3,L3,C3,rfl,ac25⟩
  have hlk:=usL_len kids
  obtain ⟨A4,C4,w28,r28,ac28,k28⟩:=(ac23.step ac25.1).more appU RUse.len (ac25.sl (by omega) (by omega)) (by rw [List.length_append,List.length_cons,List.length_nil];omega)
  refine ⟨A3,L3,C3,rfl,⟨ac25.1.keepT _,trivial⟩,A4,L+1+L3,C4,w28,r28,⟨k28 _ (by decide),trivial⟩,?_⟩
  rw [wrap_lt h0 (by omega)]
  refine next h0 hlt ?_
  rw [hsn,show usS (.mk k al n on args dirs kids)=[dirs]++usL kids by simp only [usS];rfl,<- List.append_assoc]
  exact ac28
 ·have hle:=of_decide_eq_false hge
  rw [List.take_of_length_le (by omega)] at ac
  exact ⟨A,L,C,rfl,ac⟩
theorem c_usesOf_all {w0:World}:∀ (d:Nat) (xs:List Sel),SizeOf.sizeOf xs<d->USof w0 xs
 | 0,_,h=>by omega
 | d+1,xs,h=>c_usesOf_of fun k al n on args dirs kids hm=>c_usesOf_all d kids (by
   have:=List.sizeOf_lt_of_mem hm
   simp only [Sel.mk.sizeOf_spec] at this
   omega)
theorem c_usesOf (w0:World)(xs:List Sel):USof w0 xs:=c_usesOf_all _ xs (Nat.lt_succ_self _)
theorem c_location (s:BA)(w:World):CP 130 #[.string s] w fun e w'=>∃ s':BA,e=.returned (.string s')/\s'.size<=4194304/\w'=w:=
 q_location s w _ ⟨fun _=>⟨_,rfl,by decide,rfl⟩,fun _=>⟨fun _=>⟨_,rfl,by decide,rfl⟩,fun _=>⟨_,rfl,by decide,rfl⟩⟩⟩
def usO (x:OpD):List (List Dir):=[x.dirs]++x.vars.map VarD.dirs++usL x.kids
def usF (x:Frag):List (List Dir):=[x.dirs]++usL x.kids
def usesD (ops:List OpD)(frags:List Frag):List (List Dir):=ops.flatMap usO++frags.flatMap usF
theorem fm_le {α β:Type}{f:α->List β}{g:α->Nat}:∀ {l:List α},(∀ x∈l,(f x).length<=g x)->(l.flatMap f).length<=(l.map g).sum
 | [],_=>by simp
 | x::l,h=>by
  have h1:=h x (by simp)
  have h2:=fm_le (l:=l) (f:=f) (g:=g) fun y hy=>h y (by simp [hy])
  simp only [List.flatMap_cons,List.length_append,List.map_cons,List.sum_cons]
  omega
theorem usO_len (x:OpD):(usO x).length<=opW x:=by
 have h1:=selL_W x.kids
 have h2:x.vars.length<=varsW x.vars:=lenW_sum fun y _=>by simp only [varW];omega
 simp only [usO,opW,List.length_append,List.length_cons,List.length_nil,List.length_map,usL_len]
 omega
theorem usF_len (x:Frag):(usF x).length<=fragW x:=by
 have h1:=selL_W x.kids
 simp only [usF,fragW,List.length_append,List.length_cons,List.length_nil,usL_len]
 omega
theorem uses_len (ops:List OpD)(frags:List Frag):(usesD ops frags).length<=docW ops frags:=by
 have h1:=fm_le (l:=ops) fun x _=>usO_len x
 have h2:=fm_le (l:=frags) fun x _=>usF_len x
 simp only [usesD,docW,List.length_append]
 omega
theorem c_uses {w0 w:World}{a:OA}{l c:Nat}{a':OA}{l' c':Nat}{ops:List OpD}{frags:List Frag}(hw0:Ext (fun _=>False) w0 w)(hl:ROps w0 a l c ops)(hl':RFrags w0 a' l' c' frags)(ok1:∀ x∈ops,okOp x)(ok2:∀ x∈frags,okFrag x)(hs:docW ops frags<=2097152):
  CP 94 #[.agg #[.slice a l c,.slice a' l' c']] w fun e w'=>∃ A L C,e=.returned (.slice A L C)/\Acc w w' 204 2 (RUse w0) A L C (usesD ops frags):=by
 obtain ⟨e1,e3⟩:=hl.len
 obtain ⟨e1',e3'⟩:=hl'.len
 have hul:=Nat.le_trans (uses_len ops frags) hs
 have hsel:=Nat.le_trans (selTot_W ops frags) hs
 unfold selTot at hsel
 have hs1:∀ x∈ops,selL x.kids<=2097152:=fun x hx=>by
  have:=memW_sum (fun x:OpD=>selL x.kids) hx
  omega
 have hs2:∀ x∈frags,selL x.kids<=2097152:=fun x hx=>by
  have:=memW_sum (fun x:Frag=>selL x.kids) hx
  omega
 simp only [usesD,List.length_append] at hul
 have hx0:=(Ext.refl (X:=fun _=>False) w).alloc (.cells #[.slice a l c,.slice a' l' c'] 30)
 refine q_uses a l c a' l' c' w _ ⟨trivial,?_⟩
 refine ⟨fun A L C i w1=>0<=i/\i<=l/\Acc w w1 204 2 (RUse w0) A L C ((ops.take i.toNat).flatMap usO),fun _ _ _ i _=>((l:Int)-i).toNat,⟨by omega,by omega,Acc.nil hx0⟩,?_⟩
 rintro A L C i w1 ⟨h0,hi,ac⟩
 refine ⟨fun hlt=>?_,fun hge=>?_⟩
 ·have hlt:=of_decide_eq_true hlt
  have x1:=hw0.then ac.1
  obtain ⟨p,x,hp,hxs,cs,hc,a1,l1,c1,a2,l2,c2,a3,l3,c3,rfl,hv1,hv2,hv3⟩:=hl.get h0 hlt
  obtain ⟨⟨_,_,hc0⟩,hs0,⟨_,_,hc1⟩,hs1',⟨_,_,hc2⟩,hs2',⟨_,_,hc3⟩,hs3,⟨_,_,hc4⟩,-⟩:=hc
  have hmem:=List.mem_of_getElem? hxs
  have hsn:=fm_snoc usO h0 hxs
  have hle:=fm_take usO ops (i+1).toNat
  have hkl:=hs1 x hmem
  obtain ⟨d1,d3⟩:=hv1.len
  rw [hsn] at hle
  simp only [usO,List.length_append,List.length_cons,List.length_nil,List.length_map,usL_len] at hle
  refine ⟨p,hp,⟨h0,hlt⟩,_,x1.cell hc0 id,_,x1.cell hc1 id,_,_,_,x1.cell hc2 id,_,_,_,x1.cell hc3 id,_,_,_,x1.cell hc4 id,trivial,trivial,fun w17 e17=>?_⟩
  have hx17:Ext (fun _=>False) w1 w17:=by rw [e17];exact ((Ext.refl w1).alloc _).drew
  refine (c_location x.kind w17).mono ?_
  rintro _ w19 ⟨s,rfl,hss,rfl⟩
  obtain ⟨A2,C2,w23,r23,ac23,k23⟩:=(ac.step hx17).one appU RUse.len (x:=x.dirs) (cs:=[.slice a2 l2 c2,.string s]) ⟨a2,l2,c2,s,rfl,hv2⟩ (small_use hss) (by omega)
  refine ⟨s,rfl,⟨(Ext.refl _).keepT _,(Ext.refl _).keepT _,trivial⟩,⟨rfl,trivial⟩,trivial,trivial,trivial,A2,L+1,C2,w23,r23,⟨k23 _ (by decide),k23 _ (by decide),trivial⟩,trivial,trivial,?_⟩
  refine ⟨fun A L C j w2=>0<=j/\j<=l1/\Acc w w2 204 2 (RUse w0) A L C ((ops.take i.toNat).flatMap usO++[x.dirs]++(x.vars.take j.toNat).map VarD.dirs),fun _ _ _ j _=>((l1:Int)-j).toNat,⟨by omega,by omega,by simpa using ac23⟩,?_⟩
  rintro A3 L3 C3 j w2 ⟨j0,hj,ac2⟩
  refine ⟨fun hjl=>?_,fun hjg=>?_⟩
  ·have hjl:=of_decide_eq_true hjl
   have x2:=hw0.then ac2.1
   obtain ⟨p2,y,hp2,hys,cs2,hc',n,b1,m1,g1,nn,b2,m2,g2,b3,m3,g3,rfl,hw1,hw2,hw3⟩:=hv1.get j0 hjl
   obtain ⟨⟨_,_,hd0⟩,hz0,⟨_,_,hd1⟩,hz1,⟨_,_,hd2⟩,hz2,⟨_,_,hd3⟩,hz3,⟨_,_,hd4⟩,hz4,⟨_,_,hd5⟩,-⟩:=hc'
   have hy37:Ext (fun _=>False) w2 (w2.alloc (.cells #[.string y.name,.string n,.slice b1 m1 g1,.bool nn,.slice b2 m2 g2,.slice b3 m3 g3] 58)):=(Ext.refl w2).alloc _
   obtain ⟨A4,C4,w40,r40,ac40,k40⟩:=(ac2.step hy37).one appU RUse.len (x:=y.dirs) (cs:=[.slice b3 m3 g3,.string bVarLoc]) ⟨b3,m3,g3,bVarLoc,rfl,hw3⟩ (small_use (by decide)) (by
    simp only [List.length_append,List.length_cons,List.length_nil,List.length_map,List.length_take]
    omega)
   refine ⟨p2,hp2,⟨j0,hjl⟩,_,x2.cell hd0 id,_,x2.cell hd1 id,_,_,_,x2.cell hd2 id,_,x2.cell hd3 id,_,_,_,x2.cell hd4 id,_,_,_,x2.cell hd5 id,trivial,trivial,trivial,trivial,A4,L3+1,C4,w40,r40,⟨k40 _ (by decide),k40 _ (by decide),k40 _ (by decide),trivial⟩,?_⟩
   rw [wrap_lt j0 (by omega)]
   refine next j0 hjl ?_
   rw [take_snoc' j0 hys,List.map_append,<- List.append_assoc]
   exact ac40
  ·have hje:=of_decide_eq_false hjg
   rw [List.take_of_length_le (l:=x.vars) (by omega)] at ac2
   refine (c_usesOf w0 x.kids a3 l3 c3 w2 (hw0.then ac2.1) hv3 (ok1 x hmem).2.2.2 hkl).mono ?_
   rintro _ w42 ⟨A5,L5,C5,rfl,ac42⟩
   have hlk:=usL_len x.kids
   obtain ⟨A6,C6,w45,r45,ac45,k45⟩:=(ac2.step ac42.1).more appU RUse.len (ac42.sl (by omega) (by omega)) (by
    simp only [List.length_append,List.length_cons,List.length_nil,List.length_map,usL_len]
    omega)
   refine ⟨A5,L5,C5,rfl,⟨ac42.1.keepT _,ac42.1.keepT _,trivial⟩,A6,L3+L5,C6,w45,r45,⟨k45 _ (by decide),k45 _ (by decide),trivial⟩,?_⟩
   rw [wrap_lt h0 (by omega)]
   refine next h0 hlt ?_
   rw [hsn]
   simpa only [usO,List.append_assoc] using ac45
 ·have hle:=of_decide_eq_false hge
  rw [List.take_of_length_le (by omega)] at ac
  refine ⟨fun A L C i w1=>0<=i/\i<=l'/\Acc w w1 204 2 (RUse w0) A L C (ops.flatMap usO++(frags.take i.toNat).flatMap usF),fun _ _ _ i _=>((l':Int)-i).toNat,⟨by omega,by omega,by simpa using ac⟩,?_⟩
  clear ac hle hge h0 hi
  rintro A L C i w1 ⟨h0,hi,ac⟩
  refine ⟨fun hlt=>?_,fun hge=>?_⟩
  ·have hlt:=of_decide_eq_true hlt
   have x1:=hw0.then ac.1
   obtain ⟨p,x,hp,hxs,cs,hc,a2,l2,c2,a3,l3,c3,rfl,hv2,hv3⟩:=hl'.get h0 hlt
   obtain ⟨⟨_,_,hc0⟩,hs0,⟨_,_,hc1⟩,hs1',⟨_,_,hc2⟩,hs2',⟨_,_,hc3⟩,-⟩:=hc
   have hmem:=List.mem_of_getElem? hxs
   have hsn:=fm_snoc usF h0 hxs
   have hle:=fm_take usF frags (i+1).toNat
   have hkl:=hs2 x hmem
   rw [hsn] at hle
   simp only [usF,List.length_append,List.length_cons,List.length_nil,usL_len] at hle
   have hx57:Ext (fun _=>False) w1 (w1.alloc (.cells #[.string x.name,.string x.on,.slice a2 l2 c2,.slice a3 l3 c3] 62)):=(Ext.refl w1).alloc _
   obtain ⟨A2,C2,w60,r60,ac60,k60⟩:=(ac.step hx57).one appU RUse.len (x:=x.dirs) (cs:=[.slice a2 l2 c2,.string bFragLoc]) ⟨a2,l2,c2,bFragLoc,rfl,hv2⟩ (small_use (by decide)) (by
    simp only [List.length_append,usF]
    omega)
   refine ⟨p,hp,⟨h0,hlt⟩,_,x1.cell hc0 id,_,x1.cell hc1 id,_,_,_,x1.cell hc2 id,_,_,_,x1.cell hc3 id,trivial,trivial,trivial,trivial,A2,L+1,C2,w60,r60,⟨k60 _ (by decide),k60 _ (by decide),trivial⟩,?_⟩
   refine (c_usesOf w0 x.kids a3 l3 c3 w60 (hw0.then ac60.1) hv3 (ok2 x hmem).2.1 hkl).mono ?_
   rintro _ w62 ⟨A5,L5,C5,rfl,ac62⟩
   have hlk:=usL_len x.kids
   obtain ⟨A6,C6,w65,r65,ac65,k65⟩:=(ac60.step ac62.1).more appU RUse.len (ac62.sl (by omega) (by omega)) (by
    simp only [List.length_append,List.length_cons,List.length_nil,usL_len,usF]
    omega)
   refine ⟨A5,L5,C5,rfl,⟨ac62.1.keepT _,ac62.1.keepT _,trivial⟩,A6,L+1+L5,C6,w65,r65,⟨k65 _ (by decide),k65 _ (by decide),trivial⟩,?_⟩
   rw [wrap_lt h0 (by omega)]
   refine next h0 hlt ?_
   rw [hsn]
   simpa only [usF,List.append_assoc] using ac65
  ·have hle:=of_decide_eq_false hge
   rw [List.take_of_length_le (by omega)] at ac
   exact ⟨A,L,C,rfl,ac⟩
def dArgs (ds:List Dir):List (List Argm):=ds.map Dir.args
def argListsD (ops:List OpD)(frags:List Frag):List (List Argm):=(ops.flatMap fun x=>alL x.kids)++(frags.flatMap fun x=>alL x.kids)++(usesD ops frags).flatMap dArgs
theorem dArgs_len (ds:List Dir):(dArgs ds).length<=dirsW ds:=by
 rw [dArgs,List.length_map]
 exact lenW_sum fun y _=>by simp only [dirW];omega
theorem al_us_len:∀ l:List Sel,(alL l).length+((usL l).flatMap dArgs).length<=selsW l
 | []=>Nat.le_refl _
 | .mk k al n on args dirs kids::l=>by
  have h1:=al_us_len kids
  have h2:=al_us_len l
  have h3:=dArgs_len dirs
  simp only [alL,alS,usL,usS,selsW,selW,List.length_append,List.length_cons,List.flatMap_append,List.flatMap_cons]
  omega
theorem argLists_len (ops:List OpD)(frags:List Frag):(argListsD ops frags).length<=docW ops frags:=by
 have h1:(ops.flatMap fun x=>alL x.kids).length+((ops.flatMap usO).flatMap dArgs).length<=(ops.map opW).sum:=by
  induction ops with
  | nil=>exact Nat.le_refl _
  | cons x r ih=>
   have h2:=al_us_len x.kids
   have h3:=dArgs_len x.dirs
   have h4:((x.vars.map VarD.dirs).flatMap dArgs).length<=varsW x.vars:=by
    rw [List.flatMap_map]
    exact fm_le fun y _=>by
     have:=dArgs_len y.dirs
     simp only [varW]
     omega
   simp only [List.flatMap_cons,List.length_append,List.map_cons,List.sum_cons,List.flatMap_append,usO,List.flatMap_nil,List.length_nil,opW]
   omega
 have h2:(frags.flatMap fun x=>alL x.kids).length+((frags.flatMap usF).flatMap dArgs).length<=(frags.map fragW).sum:=by
  clear h1
  induction frags with
  | nil=>exact Nat.le_refl _
  | cons x r ih=>
   have h2:=al_us_len x.kids
   have h3:=dArgs_len x.dirs
   simp only [List.flatMap_cons,List.length_append,List.map_cons,List.sum_cons,List.flatMap_append,usF,List.flatMap_nil,List.length_nil,fragW]
   omega
 simp only [argListsD,usesD,docW,List.length_append,List.flatMap_append]
 omega
theorem c_argLists {w0 w:World}{a:OA}{l c:Nat}{a':OA}{l' c':Nat}{ops:List OpD}{frags:List Frag}(hw0:Ext (fun _=>False) w0 w)(hl:ROps w0 a l c ops)(hl':RFrags w0 a' l' c' frags)(ok1:∀ x∈ops,okOp x)(ok2:∀ x∈frags,okFrag x)(hs:docW ops frags<=2097152):
  CP 48 #[.agg #[.slice a l c,.slice a' l' c']] w fun e w'=>∃ A L C,e=.returned (.slice A L C)/\Acc w w' 83 1 (RAL w0) A L C (argListsD ops frags):=by
 obtain ⟨e1,e3⟩:=hl.len
 obtain ⟨e1',e3'⟩:=hl'.len
 have hul:=Nat.le_trans (argLists_len ops frags) hs
 have hul2:=Nat.le_trans (uses_len ops frags) hs
 have hsel:=Nat.le_trans (selTot_W ops frags) hs
 unfold selTot at hsel
 have hs1:∀ x∈ops,selL x.kids<=2097152:=fun x hx=>by
  have:=memW_sum (fun x:OpD=>selL x.kids) hx
  omega
 have hs2:∀ x∈frags,selL x.kids<=2097152:=fun x hx=>by
  have:=memW_sum (fun x:Frag=>selL x.kids) hx
  omega
 simp only [argListsD,List.length_append] at hul
 have hx0:=(Ext.refl (X:=fun _=>False) w).alloc (.cells #[.slice a l c,.slice a' l' c'] 30)
 refine q_argLists a l c a' l' c' w _ ⟨trivial,?_⟩
 refine ⟨fun A L C i w1=>0<=i/\i<=l/\Acc w w1 83 1 (RAL w0) A L C ((ops.take i.toNat).flatMap fun x=>alL x.kids),fun _ _ _ i _=>((l:Int)-i).toNat,⟨by omega,by omega,Acc.nil hx0⟩,?_⟩
 rintro A L C i w1 ⟨h0,hi,ac⟩
 refine ⟨fun hlt=>?_,fun hge=>?_⟩
 ·have hlt:=of_decide_eq_true hlt
  have x1:=hw0.then ac.1
  obtain ⟨p,x,hp,hxs,cs,hc,a1,l1,c1,a2,l2,c2,a3,l3,c3,rfl,hv1,hv2,hv3⟩:=hl.get h0 hlt
  obtain ⟨⟨_,_,hc0⟩,hs0,⟨_,_,hc1⟩,hs1',⟨_,_,hc2⟩,hs2',⟨_,_,hc3⟩,hs3,⟨_,_,hc4⟩,-⟩:=hc
  have hmem:=List.mem_of_getElem? hxs
  have hsn:=fm_snoc (fun x:OpD=>alL x.kids) h0 hxs
  have hle:=fm_take (fun x:OpD=>alL x.kids) ops (i+1).toNat
  have hkl:=hs1 x hmem
  rw [hsn,List.length_append] at hle
  refine ⟨p,hp,⟨h0,hlt⟩,_,x1.cell hc0 id,_,x1.cell hc1 id,_,_,_,x1.cell hc2 id,_,_,_,x1.cell hc3 id,_,_,_,x1.cell hc4 id,trivial,trivial,?_⟩
  have hx16:Ext (fun _=>False) w1 (w1.alloc (.cells #[.string x.kind,.string x.name,.slice a1 l1 c1,.slice a2 l2 c2,.slice a3 l3 c3] 50)):=(Ext.refl w1).alloc _
  refine (c_argListsOf w0 x.kids a3 l3 c3 _ (x1.then hx16) hv3 hkl).mono ?_
  rintro _ w18 ⟨A2,L2,C2,rfl,ac18⟩
  have hlk:=alL_len x.kids
  obtain ⟨A6,C6,w21,r21,ac21,k21⟩:=((ac.step hx16).step ac18.1).more appAL RAL.len (ac18.sl (by omega) (by omega)) (by omega)
  refine ⟨A2,L2,C2,rfl,⟨ac18.1.keepT _,ac18.1.keepT _,trivial⟩,A6,L+L2,C6,w21,r21,⟨k21 _ (by decide),k21 _ (by decide),trivial⟩,?_⟩
  rw [wrap_lt h0 (by omega)]
  refine next h0 hlt ?_
  rw [hsn]
  exact ac21
 ·have hle:=of_decide_eq_false hge
  rw [List.take_of_length_le (by omega)] at ac
  refine ⟨fun A L C i w1=>0<=i/\i<=l'/\Acc w w1 83 1 (RAL w0) A L C ((ops.flatMap fun x=>alL x.kids)++(frags.take i.toNat).flatMap fun x=>alL x.kids),fun _ _ _ i _=>((l':Int)-i).toNat,⟨by omega,by omega,by simpa using ac⟩,?_⟩
  clear ac hle hge h0 hi
  rintro A L C i w1 ⟨h0,hi,ac⟩
  refine ⟨fun hlt=>?_,fun hge=>?_⟩
  ·have hlt:=of_decide_eq_true hlt
   have x1:=hw0.then ac.1
   obtain ⟨p,x,hp,hxs,cs,hc,a2,l2,c2,a3,l3,c3,rfl,hv2,hv3⟩:=hl'.get h0 hlt
   obtain ⟨⟨_,_,hc0⟩,hs0,⟨_,_,hc1⟩,hs1',⟨_,_,hc2⟩,hs2',⟨_,_,hc3⟩,-⟩:=hc
   have hmem:=List.mem_of_getElem? hxs
   have hsn:=fm_snoc (fun x:Frag=>alL x.kids) h0 hxs
   have hle:=fm_take (fun x:Frag=>alL x.kids) frags (i+1).toNat
   have hkl:=hs2 x hmem
   rw [hsn,List.length_append] at hle
   refine ⟨p,hp,⟨h0,hlt⟩,_,x1.cell hc0 id,_,x1.cell hc1 id,_,_,_,x1.cell hc2 id,_,_,_,x1.cell hc3 id,trivial,trivial,?_⟩
   have hx33:Ext (fun _=>False) w1 (w1.alloc (.cells #[.string x.name,.string x.on,.slice a2 l2 c2,.slice a3 l3 c3] 62)):=(Ext.refl w1).alloc _
   refine (c_argListsOf w0 x.kids a3 l3 c3 _ (x1.then hx33) hv3 hkl).mono ?_
   rintro _ w18 ⟨A2,L2,C2,rfl,ac18⟩
   have hlk:=alL_len x.kids
   obtain ⟨A6,C6,w21,r21,ac21,k21⟩:=((ac.step hx33).step ac18.1).more appAL RAL.len (ac18.sl (by omega) (by omega)) (by rw [List.length_append];omega)
   refine ⟨A2,L2,C2,rfl,⟨ac18.1.keepT _,ac18.1.keepT _,trivial⟩,A6,L+L2,C6,w21,r21,⟨k21 _ (by decide),k21 _ (by decide),trivial⟩,?_⟩
   rw [wrap_lt h0 (by omega)]
   refine next h0 hlt ?_
   rw [hsn,<- List.append_assoc]
   exact ac21
  ·have hle:=of_decide_eq_false hge
   rw [List.take_of_length_le (by omega)] at ac
   refine (c_uses (hw0.then ac.1) hl hl' ok1 ok2 hs).mono ?_
   rintro _ w40 ⟨AU,LU,CU,rfl,acU⟩
   have f1:=acU.2.1
   refine ⟨AU,LU,CU,rfl,⟨acU.1.keepT _,trivial⟩,?_⟩
   refine ⟨fun A L C i w1=>0<=i/\i<=LU/\KeepT 204 w40 w1/\Acc w w1 83 1 (RAL w0) A L C ((ops.flatMap fun x=>alL x.kids)++(frags.flatMap fun x=>alL x.kids)++((usesD ops frags).take i.toNat).flatMap dArgs),fun _ _ _ i _=>((LU:Int)-i).toNat,⟨by omega,by omega,fun _ _ _ h=>h,by simpa using ac.step acU.1⟩,?_⟩
   clear ac hle hge h0 hi
   rintro A L C i w1 ⟨h0,hi,hx40,ac⟩
   refine ⟨fun hlt=>?_,fun hge=>?_⟩
   ·have hlt:=of_decide_eq_true hlt
    obtain ⟨p,ds,cs,hp,hxs,⟨a2,l2,c2,s,rfl,hv⟩,hc⟩:=acU.get h0 hlt
    have hc0:At w40 204 (p.add (i.toNat*2)) (.slice a2 l2 c2):=by simpa [Addr.add] using hc 0 _ rfl
    have hc1:=hc 1 _ rfl
    have hsn:=fm_snoc dArgs h0 hxs
    have hle:=fm_take dArgs (usesD ops frags) (i+1).toNat
    obtain ⟨d1,d3⟩:=hv.len
    rw [hsn,List.length_append] at hle
    have hdl:(dArgs ds).length=ds.length:=by simp [dArgs]
    refine ⟨p,hp,⟨h0,hlt⟩,_,_,_,(hx40.at hc0).cell,_,(hx40.at hc1).cell,trivial,trivial,?_⟩
    have hy51:Ext (fun _=>False) w1 (w1.alloc (.cells #[.slice a2 l2 c2,.string s] 204)):=(Ext.refl w1).alloc _
    refine ⟨fun A L C j w2=>0<=j/\j<=l2/\KeepT 204 w40 w2/\Acc w w2 83 1 (RAL w0) A L C ((ops.flatMap fun x=>alL x.kids)++(frags.flatMap fun x=>alL x.kids)++((usesD ops frags).take i.toNat).flatMap dArgs++(dArgs ds).take j.toNat),fun _ _ _ j _=>((l2:Int)-j).toNat,⟨by omega,by omega,hx40.then (hy51.keepT _),by simpa using ac.step hy51⟩,?_⟩
    clear ac
    rintro A L C j w2 ⟨j0,hj,hx2,ac⟩
    refine ⟨fun hjl=>?_,fun hjg=>?_⟩
    ·have hjl:=of_decide_eq_true hjl
     have x2:=hw0.then ac.1
     obtain ⟨p2,d,hp2,hds,cs2,hc',a3,l3,c3,rfl,hv3⟩:=hv.get j0 hjl
     obtain ⟨⟨_,_,hd0⟩,hz0,⟨_,_,hd1⟩,-⟩:=hc'
     have hy61:Ext (fun _=>False) w2 (w2.alloc (.cells #[.string d.name,.slice a3 l3 c3] 206)):=(Ext.refl w2).alloc _
     obtain ⟨A4,C4,w64,r64,ac64,k64⟩:=(ac.step hy61).one appAL RAL.len (x:=d.args) (cs:=[.slice a3 l3 c3]) ⟨a3,l3,c3,rfl,hv3⟩ (fun v hv=>by simp only [List.mem_singleton] at hv;subst hv;rfl) (by
      simp only [List.length_append,List.length_take]
      omega)
     refine ⟨p2,hp2,⟨j0,hjl⟩,_,x2.cell hd0 id,_,_,_,x2.cell hd1 id,trivial,trivial,trivial,A4,L+1,C4,w64,r64,⟨k64 _ (by decide),k64 _ (by decide),k64 _ (by decide),trivial⟩,?_⟩
     rw [wrap_lt j0 (by omega)]
     refine next j0 hjl ⟨(hx2.then (hy61.keepT _)).then (KeepT.then (((Ext.refl _).alloc _).keepT _) (k64 _ (by decide))),?_⟩
     ·rw [take_snoc' (xs:=dArgs ds) j0 (x:=d.args) (by simp [dArgs,hds]),<- List.append_assoc]
      exact ac64
    ·have hje:=of_decide_eq_false hjg
     rw [List.take_of_length_le (l:=dArgs ds) (by omega)] at ac
     rw [wrap_lt h0 (by omega)]
     refine next h0 hlt ⟨hx2,?_⟩
     rw [hsn,<- List.append_assoc]
     exact ac
   ·have hle:=of_decide_eq_false hge
    rw [List.take_of_length_le (by omega)] at ac
    exact ⟨A,L,C,rfl,ac⟩
end Go.VC
namespace Go.VC
open Go Go.Proofs
variable [DB]
def dupA (l:List Argm):Prop:=¬ (l.map Argm.name).Nodup
def argsS:Sel->List Argm
 | .mk _ _ _ _ args _ _=>args
def badArgs:Ev->Prop
 | .fld s=>dupA (argsS s)
 | .dir d _=>dupA d.args
 | _=>False
theorem tell1 {ae cnt m:Nat}{b:Prop}{w17 w23:World}{T:TypeId}{X:Addr}{xv v18:Value}{q:OA}{fmt:BA}{A:OA}{L C:Nat}{K:World->Prop}(hc:Cnt ae cnt m b w17)(hX:At w17 T X xv)(hne:ae≠cnt)(hx:Ext (fun _=>False) w17 w23)
  (hv:v18=.func (.func 69) #[] #[.pointer (some (adr cnt))]) (hK:∀ w',Ext (fun k=>k=cnt∨k=ae) w17 w'->Cnt ae cnt (m+1) True w'->K w'):
  ((w23.cell? X=w17.cell? X)/\True)/\CP 73 #[.string fmt,.slice A L C] w23 (fun e24 wv25=>∃ v26:Value,e24=.returned v26/\True/\((wv25.cell? X=w23.cell? X)/\True)/\
   CP 74 #[.pointer q] wv25 (fun e27 wv28=>∃ v29:Value,e27=.returned v29/\True/\True/\(v26.oneCell'=true/\v29.oneCell'=true/\True)/\(let wv30:=wv28.alloc (.cells #[v26,v29] 156);
   True/\∃ (g31:FuncId) (cap32:List Value),v18=.func (.func g31) #[] cap32.toArray/\∃ fn33,Tryz.prog.funcs[g31]? =some fn33/\(fn33.name== "runtime.NumGoroutine" ||fn33.body.isNone)=false/\
   CP g31 ([Value.slice (some (adr wv28.heap.size)) 2 2]++cap32).toArray wv30 (fun e34 wv35=>e34=.returned (.tuple #[])/\True/\True/\K wv35)))):=by
 refine ⟨⟨hx.ceq hX,trivial⟩,?_⟩
 have X23:=hx.at id hX
 refine c_core_Message.mono ?_
 rintro _ w25 ⟨v26,rfl,o26,x25⟩
 refine ⟨v26,rfl,trivial,⟨x25.ceq X23,trivial⟩,?_⟩
 refine c_core_At.mono ?_
 rintro _ w28 ⟨v29,rfl,o29,x28⟩
 have x30:Ext (fun _=>False) w28 (w28.alloc (.cells #[v26,v29] 156)):=(Ext.refl w28).alloc _
 have y:Ext (fun _=>False) w17 (w28.alloc (.cells #[v26,v29] 156)):=((hx.then x25).then x28).then x30
 refine ⟨v29,rfl,trivial,trivial,⟨o26,o29,trivial⟩,trivial,69,[.pointer (some (adr cnt))],hv,_,Tryz.func69,by kernel_rfl,?_⟩
 refine (c_tell (hc.ext y id id) hne).mono ?_
 rintro _ w35 ⟨rfl,x35,c35⟩
 exact ⟨rfl,trivial,trivial,hK w35 ((y.toM _).trans x35 fun _ _ e=>e) c35⟩
section
variable {c:WCtx} {ae cnt:Nat} {bad:Ev->Prop} {l:List Ev} {w:World} {co:OA} {vm:Nat} {evs:List Value} {node:Value} {ev:Ev}
theorem c_checkUniqueArgs {A:OA}{L C:Nat}{args:List Argm}(hVM:∀ b,(b=cnt∨b=ae)->¬ c.M b)(hne:ae≠cnt)(hc:StK bad ae cnt l w)(hw:Wk c c.w0 w)(hp:PArgs c.M c.w0 A L C args):
  CP 90 #[.slice A L C,.func (.func 69) #[] #[.pointer (some (adr cnt))]] w fun e w'=>e=.returned (.tuple #[])/\Ext (fun b=>b=cnt∨b=ae) w w'/\InK bad ae cnt l args.length (dupA args) w':=by
 have hL0:=hp.1
 have hL1:=hp.2.2.1
 have hlt:cnt<w.heap.size/\ae<w.heap.size:=⟨hc.2.choose_spec.1.lt,hc.1.lt⟩
 refine q_rules_checkUniqueArgs A L C _ w _ ?_
 intro w4
 have x4:Ext (fun _=>False) w w4:=(Ext.refl w).alloc _
 have m4:IM w4 w.heap.size []:=⟨[],SMap.made w,fun k=>rfl⟩
 have z4:w.heap.size<w4.heap.size:=(SMap.made w).lt
 clear_value w4
 have hwk:∀ {w':World},Ext (fun b=>b=cnt∨b=ae) w w'->Wk c c.w0 w':=fun x=>hw.trans (Wk.ofExt x fun b hM hV=>hVM b hV hM)
 refine ⟨fun i w1=>0<=i/\i<=L/\Ext (fun b=>b=cnt∨b=ae) w w1/\InK bad ae cnt l i.toNat (dupA (args.take i.toNat)) w1/\IM w1 w.heap.size ((args.take i.toNat).map Argm.name),fun i _=>((L:Int)-i).toNat,
  ⟨by omega,by omega,x4.toM _,InK.start (Cnt.ext hc x4 id id) (by simp [dupA]),by simpa using m4⟩,?_⟩
 rintro i w10 ⟨h0,hi,x10,c10,m10⟩
 refine ⟨fun hlt'=>?_,fun hge=>?_⟩
 ·have hlt':=of_decide_eq_true hlt'
  obtain ⟨p,y,v,hpp,hx,hcell,vb,rfl,hpv⟩:=hp.wget (hwk x10) (fun _=>rfl) h0 hlt'
  obtain ⟨tb,posv,hMv,hBv,-⟩:=hpv
  refine ⟨p,hpp,⟨h0,hlt'⟩,_,hcell,fun K13 hK13=>?_⟩
  have nm:∀ w',Ext (fun b=>b=cnt∨b=ae) w w'->w'.cell? ⟨vb,0,none⟩=some (.string y.name):=fun w' x=>(hwk x).nd hMv hBv (j:=0) rfl rfl
  have key:∀ w',Ext (fun b=>b=cnt∨b=ae) w w'->InK bad ae cnt l (i.toNat+1) (¬ ((args.take i.toNat).map Argm.name++[y.name]).Nodup) w'->IM w' w.heap.size ((args.take i.toNat).map Argm.name)->K13 w':=by
   intro w' x' c' m'
   obtain ⟨w18,r18,m18,x18⟩:=m'.put y.name (by rw [List.length_map,List.length_take];omega)
   refine hK13 w' ⟨adr vb,rfl,y.name,nm w' x',_,m'.look y.name,w18,r18,trivial,?_⟩
   rw [wrap_lt h0 (by omega)]
   refine next h0 hlt' ⟨x'.trans x18 fun b hb e=>by
    have:b=w.heap.size:=e
    omega,?_,?_⟩
   ·rw [dupA,take_snoc' h0 hx,List.map_append,show (i+1).toNat=i.toNat+1 by omega]
    exact Cnt.ext c' x18 (by show ¬ ae=w.heap.size;omega) (by show ¬ cnt=w.heap.size;omega)
   ·rw [take_snoc' h0 hx,List.map_append]
    exact m18
  refine ⟨adr vb,rfl,y.name,nm w10 x10,_,m10.look y.name,fun h1=>?_,fun h1=>key w10 x10 (c10.good (by omega) ?_) m10⟩
  ·intro w22 e22
   have d22:Ext (fun _=>False) w10 w22:=by rw [e22];exact (Ext.refl w10).drew
   have x22:Ext (fun b=>b=cnt∨b=ae) w w22:=x10.trans d22 fun _ _ e=>e.elim
   have c22:=Cnt.ext c10 d22 id id
   have a22:=(hwk x22).at (a:=⟨vb,2,none⟩) hMv (hBv.at (j:=2) rfl) rfl
   refine ⟨adr vb,rfl,y.name,nm w22 x22,adr vb,rfl,posv,a22.cell,trivial,?_⟩
   refine tell1 c22 a22 hne ((Ext.refl w22).alloc _) rfl fun w' x' c'=>key w' (x22.trans x' fun _ _ e=>e) (InK.told c' (by omega) ?_) ((m10.ext d22 id).ext x' fun e=>?_)
   ·rw [nodup_snoc]
    intro h
    have hin:0<cntN y.name ((args.take i.toNat).map Argm.name):=by
     have:(cntN y.name ((args.take i.toNat).map Argm.name):Int)=1:=by simpa using h1
     omega
    exact h.2 (cntN_pos.1 hin)
   ·rcases e with e|e<;>omega
  ·have h1':cntN y.name ((args.take i.toNat).map Argm.name)≠1:=by
    intro e
    rw [e] at h1
    simp at h1
   rw [nodup_snoc]
   constructor
   ·exact fun h k=>h k.1
   ·intro h
    by_cases hnd:((args.take i.toNat).map Argm.name).Nodup
    ·have:=cntN_nodup (k:=y.name) hnd
     exact absurd ⟨hnd,fun hm=>by have:=cntN_pos.2 hm;omega⟩ h
    ·exact hnd
 ·have hle:=of_decide_eq_false hge
  rw [List.take_of_length_le (by omega)] at c10
  exact ⟨rfl,x10,c10.good (by omega) Iff.rfl⟩
theorem c_Args_1 (hbad:∀ e,bad e↔badArgs e)(hVM:∀ b,(b=cnt∨b=ae)->¬ c.M b)(hne:ae≠cnt)(hc:StK bad ae cnt l w)(hw:Wst c co vm evs w)(hk:slot ev=1)(hn:evNode c w node ev):
  CP 89 #[.pointer (some (adr c.wb)),node,.pointer (some (adr ae))] w fun e w'=>e=.returned (.tuple #[])/\Ext (fun b=>b=cnt∨b=ae) w w'/\StK bad ae cnt (l++[ev]) w':=by
 cases ev with
 | fld s=>
  obtain ⟨b,rfl,hp⟩:=hn
  obtain ⟨k,al,n,on,args,dirs,kids⟩:=s
  simp only [PSel] at hp
  rcases hp with ⟨-, b',A1,L1,C1,_,_,_,_,_,_,pos,he,hM,hB,hpa,-⟩|⟨-, b',_,_,_,pos,he,-⟩|⟨-, b',_,_,_,_,_,_,pos,he,-⟩
  ·obtain rfl:b=b':=by
    have:=he
    simp only [Value.iface.injEq,Value.pointer.injEq,Option.some.injEq,true_and] at this
    exact congrArg Addr.block this
   have hL0:=hpa.1
   have hL1:=hpa.2.2.1
   refine q_rules_UniqueArgumentNamesRule_1 (some (adr c.wb)) (some (adr b)) (adr ae) w _ fun w4 e4=>?_
   have x4:Ext (fun _=>False) w w4:=by rw [e4];exact (Ext.refl w).drew
   have c4:StK bad ae cnt l w4:=Cnt.ext hc x4 id id
   have wk4:=hw.wk.trans (Wk.ofExt x4 fun _ _=>id)
   refine ⟨adr b,rfl,A1,L1,C1,wk4.nd hM hB (j:=2) rfl rfl,_,(c4.1.at (j:=0) rfl).cell,?_⟩
   refine (c_checkUniqueArgs hVM hne c4 wk4 hpa).mono ?_
   rintro _ w9 ⟨rfl,x9,c9⟩
   exact ⟨rfl,trivial,trivial,rfl,(x4.toM _).trans x9 fun _ _ e=>e,c9.stop (by omega) (hbad (.fld (.mk k al n on args dirs kids))).symm⟩
  ·simp at he
  ·simp at he
 | _=>cases hk
theorem c_Args_2 (hbad:∀ e,bad e↔badArgs e)(hVM:∀ b,(b=cnt∨b=ae)->¬ c.M b)(hne:ae≠cnt)(hc:StK bad ae cnt l w)(hw:Wst c co vm evs w)(hk:slot ev=5)(hn:evNode c w node ev):
  CP 92 #[.pointer (some (adr c.wb)),node,.pointer (some (adr ae))] w fun e w'=>e=.returned (.tuple #[])/\Ext (fun b=>b=cnt∨b=ae) w w'/\StK bad ae cnt (l++[ev]) w':=by
 cases ev with
 | dir d loc=>
  obtain ⟨b,rfl,A1,L1,C1,pos,hM,hB,hpa⟩:=hn
  have hL0:=hpa.1
  have hL1:=hpa.2.2.1
  refine q_rules_UniqueArgumentNamesRule_2 (some (adr c.wb)) (some (adr b)) (adr ae) w _ fun w4 e4=>?_
  have x4:Ext (fun _=>False) w w4:=by rw [e4];exact (Ext.refl w).drew
  have c4:StK bad ae cnt l w4:=Cnt.ext hc x4 id id
  have wk4:=hw.wk.trans (Wk.ofExt x4 fun _ _=>id)
  refine ⟨adr b,rfl,A1,L1,C1,wk4.nd hM hB (j:=1) rfl rfl,_,(c4.1.at (j:=0) rfl).cell,?_⟩
  refine (c_checkUniqueArgs hVM hne c4 wk4 hpa).mono ?_
  rintro _ w9 ⟨rfl,x9,c9⟩
  exact ⟨rfl,trivial,trivial,rfl,(x4.toM _).trans x9 fun _ _ e=>e,c9.stop (by omega) (hbad (.dir d loc)).symm⟩
 | _=>cases hk
end
def dupZ (l:List Argm):Prop:=¬ (nz (l.map Argm.name)).Nodup
theorem dup_iff {l:List Argm}(h:okArgs l):dupA l↔dupZ l:=by
 unfold dupA dupZ
 have:nz (l.map Argm.name)=l.map Argm.name:=List.filter_eq_self.2 fun s hs=>by
  obtain ⟨x,hx,rfl⟩:=List.mem_map.1 hs
  simpa using (h x hx).1
 rw [this]
theorem dupZ_nil:¬ dupZ []:=by simp [dupZ,nz]
abbrev anyE (l:List Ev):Prop:=∃ e∈l,badArgs e
theorem anyE_app {a b:List Ev}:anyE (a++b)↔anyE a∨anyE b:=by
 constructor
 ·rintro ⟨e,he,h⟩
  exact (List.mem_append.1 he).imp (fun k=>⟨e,k,h⟩) fun k=>⟨e,k,h⟩
 ·rintro (⟨e,he,h⟩|⟨e,he,h⟩)
  ·exact ⟨e,List.mem_append.2 (.inl he),h⟩
  ·exact ⟨e,List.mem_append.2 (.inr he),h⟩
theorem anyE_one {e:Ev}:anyE [e]↔badArgs e:=by simp [anyE]
theorem anyE_no {l:List Ev}(h:∀ e∈l,slot e≠1/\slot e≠5):¬ anyE l:=by
 rintro ⟨e,he,hb⟩
 have:=h e he
 cases e with
 | fld s=>exact this.1 rfl
 | dir d l=>exact this.2 rfl
 | _=>cases hb
abbrev anyD (ds:List Dir):Prop:=∃ d∈ds,dupZ d.args
theorem anyE_ds {loc:BA}{ds:List Dir}(h:okDirs ds):anyE (evDs loc ds)↔anyD ds:=by
 constructor
 ·rintro ⟨e,he,hb⟩
  rcases List.mem_append.1 he with he|he
  ·obtain ⟨d,hd,he⟩:=List.mem_flatMap.1 he
   rcases List.mem_append.1 he with he|he
   ·exact absurd ⟨e,he,hb⟩ (anyE_no fun e he=>by rw [evArgs_slot e he];decide)
   ·obtain rfl:e=.dir d loc:=by simpa using he
    exact ⟨d,hd,(dup_iff (h d hd)).1 hb⟩
  ·obtain rfl:e=.dirs ds:=by simpa using he
   cases hb
 ·rintro ⟨d,hd,hb⟩
  exact ⟨.dir d loc,List.mem_append.2 (.inl (List.mem_flatMap.2 ⟨d,hd,by simp⟩)),(dup_iff (h d hd)).2 hb⟩
abbrev anyA (l:List (List Argm)):Prop:=∃ av∈l,dupZ av
abbrev anyU (l:List (List Dir)):Prop:=∃ ds∈l,anyD ds
theorem anyE_sels (fs:List Frag):∀ l:List Sel,okSels l->(anyE (evL fs l)↔anyA (alL l)∨anyU (usL l))
 | [],_=>by simp [anyE,anyA,anyU,evL,alL,usL]
 | .mk k al n on args dirs kids::l,h=>by
  simp only [okSels,okSel] at h
  obtain ⟨⟨hk,ha,hd,hkids,h1,h2⟩,hl⟩:=h
  have ih1:=anyE_sels fs kids hkids
  have ih2:=anyE_sels fs l hl
  have hA:anyA (alL (.mk k al n on args dirs kids::l))↔dupZ args∨anyA (alL kids)∨anyA (alL l):=by
   simp only [anyA,alL,alS,List.cons_append,List.mem_cons,List.mem_append,exists_eq_left,or_and_right,exists_or]
  have hU:anyU (usL (.mk k al n on args dirs kids::l))↔anyD dirs∨anyU (usL kids)∨anyU (usL l):=by
   simp only [anyU,usL,usS,List.cons_append,List.mem_cons,List.mem_append,exists_eq_left,or_and_right,exists_or]
  rw [hA,hU,evL,anyE_app,ih2]
  have hS:anyE (evS fs (.mk k al n on args dirs kids))↔dupZ args∨anyD dirs∨anyA (alL kids)∨anyU (usL kids):=by
   rcases hk with rfl|rfl|rfl
   ·have:anyE (evArgs args)↔False:=iff_false_intro (anyE_no fun e he=>by rw [evArgs_slot e he];decide)
    simp only [evS,if_true,anyE_app,anyE_one,this,anyE_ds hd,ih1,badArgs,argsS,dup_iff ha]
    clear hA hU ih1 ih2 this
    constructor
    ·rintro (h|h|(h|h)|h)<;>simp_all
    ·rintro (h|h|h|h)<;>simp_all
   ·obtain ⟨rfl,rfl⟩:=h1 rfl
    have:badArgs (spEv fs n)↔False:=Iff.rfl
    have hz:dupZ []↔False:=iff_false_intro dupZ_nil
    have hn1:anyA (alL [])↔False:=by simp [anyA,alL]
    have hn2:anyU (usL [])↔False:=by simp [anyU,usL]
    rw [evS,if_neg (by decide),if_pos rfl,anyE_app,anyE_one,anyE_ds hd,this,hz,hn1,hn2]
    simp only [or_false,false_or]
   ·obtain rfl:=h2 rfl
    have hz:dupZ []↔False:=iff_false_intro dupZ_nil
    have:badArgs (.inl (.mk 2 al n on [] dirs kids))↔False:=Iff.rfl
    rw [evS,if_neg (by decide),if_neg (by decide),anyE_app,anyE_app,anyE_one,anyE_ds hd,ih1,this,hz]
    simp only [or_false,false_or]
  rw [hS]
  clear hS hA hU ih1 ih2
  constructor
  ·rintro ((h|h|h|h)|h|h)<;>simp_all
  ·rintro ((h|h|h)|h|h|h)<;>simp_all
theorem anyE_op (fs:List Frag){x:OpD}(h:okOp x):anyE (evOp fs x)↔anyA (alL x.kids)∨anyU (usO x):=by
 obtain ⟨-, hv,hd,hk⟩:=h
 have hV:anyE (evVars x.vars)↔anyU (x.vars.map VarD.dirs):=by
  constructor
  ·rintro ⟨e,he,hb⟩
   rcases List.mem_append.1 he with he|he
   ·obtain ⟨v,-, rfl⟩:=List.mem_map.1 he
    cases hb
   ·obtain ⟨v,hvm,he⟩:=List.mem_flatMap.1 he
    rcases List.mem_append.1 he with he|he
    ·exact absurd ⟨e,he,hb⟩ (anyE_no fun e he=>by rw [evDef_slot e he];decide)
    ·exact ⟨v.dirs,List.mem_map.2 ⟨v,hvm,rfl⟩,(anyE_ds (hv v hvm).2.2.1).1 ⟨e,he,hb⟩⟩
  ·rintro ⟨ds,hm,hb⟩
   obtain ⟨v,hvm,rfl⟩:=List.mem_map.1 hm
   obtain ⟨e,he,hb⟩:=(anyE_ds (loc:=bVarLoc) (hv v hvm).2.2.1).2 hb
   exact ⟨e,List.mem_append.2 (.inr (List.mem_flatMap.2 ⟨v,hvm,List.mem_append.2 (.inr he)⟩)),hb⟩
 have hU:anyU (usO x)↔anyD x.dirs∨anyU (x.vars.map VarD.dirs)∨anyU (usL x.kids):=by
  simp only [anyU,usO,List.cons_append,List.nil_append,List.mem_cons,List.mem_append,exists_eq_left,or_and_right,exists_or]
 have ho:badArgs (.op x)↔False:=Iff.rfl
 rw [evOp,anyE_app,anyE_app,anyE_app,anyE_one,hV,anyE_ds hd,anyE_sels fs x.kids hk,hU,ho]
 clear hV hU ho
 constructor
 ·rintro (h|h|(h|h)|h)<;>simp_all
 ·rintro (h|h|h|h)<;>simp_all
theorem anyE_fr (fs:List Frag){x:Frag}(h:okFrag x):anyE (evFr fs x)↔anyA (alL x.kids)∨anyU (usF x):=by
 obtain ⟨hd,hk,-⟩:=h
 have hU:anyU (usF x)↔anyD x.dirs∨anyU (usL x.kids):=by
  simp only [anyU,usF,List.cons_append,List.nil_append,List.mem_cons,exists_eq_left,or_and_right,exists_or]
 have ho:badArgs (.frag x)↔False:=Iff.rfl
 rw [evFr,anyE_app,anyE_app,anyE_one,anyE_ds hd,anyE_sels fs x.kids hk,hU,ho]
 clear hU ho
 constructor
 ·rintro (h|(h|h)|h)<;>simp_all
 ·rintro (h|h|h)<;>simp_all
theorem args_ev {c:WCtx}(ok1:∀ x∈c.ops,okOp x)(ok2:∀ x∈c.frags,okFrag x):(∃ e,DocEv c e/\badArgs e)↔∃ av∈argListsD c.ops c.frags,dupZ av:=by
 constructor
 ·rintro ⟨e,⟨x,hx,he⟩|⟨x,hx,he⟩,hb⟩
  ·rcases (anyE_op c.frags (ok1 x hx)).1 ⟨e,he,hb⟩ with ⟨av,hm,h⟩|⟨ds,hm,d,hd,h⟩
   ·exact ⟨av,List.mem_append.2 (.inl (List.mem_append.2 (.inl (List.mem_flatMap.2 ⟨x,hx,hm⟩)))),h⟩
   ·exact ⟨d.args,List.mem_append.2 (.inr (List.mem_flatMap.2 ⟨ds,List.mem_append.2 (.inl (List.mem_flatMap.2 ⟨x,hx,hm⟩)),List.mem_map.2 ⟨d,hd,rfl⟩⟩)),h⟩
  ·rcases (anyE_fr c.frags (ok2 x hx)).1 ⟨e,he,hb⟩ with ⟨av,hm,h⟩|⟨ds,hm,d,hd,h⟩
   ·exact ⟨av,List.mem_append.2 (.inl (List.mem_append.2 (.inr (List.mem_flatMap.2 ⟨x,hx,hm⟩)))),h⟩
   ·exact ⟨d.args,List.mem_append.2 (.inr (List.mem_flatMap.2 ⟨ds,List.mem_append.2 (.inr (List.mem_flatMap.2 ⟨x,hx,hm⟩)),List.mem_map.2 ⟨d,hd,rfl⟩⟩)),h⟩
 ·rintro ⟨av,hm,h⟩
  rcases List.mem_append.1 hm with hm|hm
  ·rcases List.mem_append.1 hm with hm|hm
   ·obtain ⟨x,hx,hm⟩:=List.mem_flatMap.1 hm
    obtain ⟨e,he,hb⟩:=(anyE_op c.frags (ok1 x hx)).2 (.inl ⟨av,hm,h⟩)
    exact ⟨e,.inl ⟨x,hx,he⟩,hb⟩
   ·obtain ⟨x,hx,hm⟩:=List.mem_flatMap.1 hm
    obtain ⟨e,he,hb⟩:=(anyE_fr c.frags (ok2 x hx)).2 (.inl ⟨av,hm,h⟩)
    exact ⟨e,.inr ⟨x,hx,he⟩,hb⟩
  ·obtain ⟨ds,hds,hm⟩:=List.mem_flatMap.1 hm
   obtain ⟨d,hd,rfl⟩:=List.mem_map.1 hm
   rcases List.mem_append.1 hds with hds|hds
   ·obtain ⟨x,hx,hds⟩:=List.mem_flatMap.1 hds
    obtain ⟨e,he,hb⟩:=(anyE_op c.frags (ok1 x hx)).2 (.inr ⟨ds,hds,d,hd,h⟩)
    exact ⟨e,.inl ⟨x,hx,he⟩,hb⟩
   ·obtain ⟨x,hx,hds⟩:=List.mem_flatMap.1 hds
    obtain ⟨e,he,hb⟩:=(anyE_fr c.frags (ok2 x hx)).2 (.inr ⟨ds,hds,d,hd,h⟩)
    exact ⟨e,.inr ⟨x,hx,he⟩,hb⟩
theorem argsRule (types:List Def)(dirs:List DirDef)(defs:List SchemaDef)(ops:List OpD)(frags:List Frag)(hO:OkSchema types dirs defs)(h12:ops.length<=12)(h12':frags.length<=12)(ok1:∀ x∈ops,okOp x)(ok2:∀ x∈frags,okFrag x)(hs:docW ops frags<=2097152):
  RuleOK 47 (wideD types dirs (rootsOf types defs)) ops frags fun n=>0<=n/\(n>0↔∃ av∈argListsD ops frags,dupZ av):=by
 refine ⟨⟨_,Tryz.func47,by kernel_rfl⟩,?_⟩
 intro c cnt hops hfrags hwd hb hB hcnt hne hMc hMe
 subst hops
 subst hfrags
 have x3:Ext (fun _=>False) c.w0 (c.w0.alloc (.cells #[.func (.func 69) #[] #[.pointer (some (adr cnt))]] 130)):=(Ext.refl c.w0).alloc _
 have Bae:=Blk.made c.w0 130 [.func (.func 69) #[] #[.pointer (some (adr cnt))]]
 refine q_rules_UniqueArgumentNamesRule (some (adr c.eb)) _ c.w0 _ ⟨⟨rfl,trivial⟩,?_⟩
 have hlc:=hcnt.lt
 have hle:=hB.lt
 generalize hw3:c.w0.alloc (.cells #[.func (.func 69) #[] #[.pointer (some (adr cnt))]] 130)=w3
 replace x3:Ext (fun _=>False) c.w0 w3:=by rw [<- hw3];exact x3
 replace Bae:Blk w3 c.w0.heap.size 130 [.func (.func 69) #[] #[.pointer (some (adr cnt))]]:=by rw [<- hw3];exact Bae
 clear hw3
 have hla:=Bae.lt
 refine (c_core_Events_OnField (f:=.func (.func 89) #[] #[.pointer (some (adr c.w0.heap.size))]) rfl (hB.ext x3 id) rfl).mono ?_
 rintro _ w4 ⟨rfl,p,C,B4,ap4,hpb,x4⟩
 refine ⟨rfl,trivial,?_⟩
 refine (c_core_Events_OnDirective (f:=.func (.func 92) #[] #[.pointer (some (adr c.w0.heap.size))]) rfl B4 rfl).mono ?_
 rintro _ w5 ⟨rfl,p2,C2,B5,ap2,hpb2,x5'⟩
 have x5:Ext (fun b=>b=c.eb) w3 w5:=x4.trans x5' fun _ _ e=>e
 have hz4:=x4.size
 have ap:At w5 _ p _:=x5'.at (by show ¬ p.block=c.eb;omega) ap4
 have y5:Ext (fun b=>b=c.eb) c.w0 w5:=(x3.toM _).trans x5 fun _ _ e=>e
 have hz5:=x5.size
 have hz3:=x3.size
 have hae:c.w0.heap.size≠cnt:=by omega
 have Bae5:=Bae.ext x5 (by show ¬ c.w0.heap.size=c.eb;omega)
 have Bc5:=hcnt.ext y5 hne
 refine ⟨rfl,trivial,rfl,y5,fun b=>b=cnt∨b=c.w0.heap.size,StK badArgs c.w0.heap.size cnt,obL [(1,p,C),(5,p2,C2)],?_,fun b hb'=>?_,fun b hb' T cs fr ho=>?_,fun l w'' hl ht=>?_⟩
 ·have hVM:∀ b,(b=cnt∨b=c.w0.heap.size)->¬ c.M b:=fun b hV hM=>by
   have:=hb.m b hM
   rcases hV with rfl|rfl
   ·exact hMc hM
   ·omega
  refine rule_one hb hMe y5 (fun b hb'=>hb'.imp id fun e=>by omega) hlc hne hMc hle (fun l w w'' h hx=>Cnt.ext h hx (fun e=>e (.inr rfl)) fun e=>e (.inl rfl)) (Cnt.zero Bae5 Bc5 (by simp)) B5 fun b5 wb fm fl j=>vis_all (fun x hx=>?_) j
  simp only [List.mem_cons,List.not_mem_nil,or_false] at hx
  rcases hx with rfl|rfl
  ·refine ⟨_,_,[.pointer (some (adr c.w0.heap.size))],_,ap,fun h=>?_,fun h=>?_,Tryz.func89,by kernel_rfl,fun l w1 co vm evs node ev hl hw hk hn=>c_Args_1 (fun e=>Iff.rfl) hVM hae hl hw hk hn⟩
   ·have:p.block<c.w0.heap.size:=hb.m _ h
    omega
   ·have:p.block=cnt∨p.block=c.w0.heap.size:=h
    omega
  ·refine ⟨_,_,[.pointer (some (adr c.w0.heap.size))],_,ap2,fun h=>?_,fun h=>?_,Tryz.func92,by kernel_rfl,fun l w1 co vm evs node ev hl hw hk hn=>c_Args_2 (fun e=>Iff.rfl) hVM hae hl hw hk hn⟩
   ·have:p2.block<c.w0.heap.size:=hb.m _ h
    omega
   ·have:p2.block=cnt∨p2.block=c.w0.heap.size:=h
    omega
 ·rcases hb' with rfl|rfl
  ·exact .inr (Nat.le_refl _)
  ·exact .inr (by omega)
 ·rcases hb' with rfl|rfl
  ·rw [Bc5.type ho];decide
  ·rw [Bae5.type ho];decide
 ·obtain ⟨-, n,hn,hk⟩:=hl
  have hsm:=spN_few (c:={ c with V:=fun b=>b=cnt∨b=c.w0.heap.size,St:=StK badArgs c.w0.heap.size cnt,w0:=w5}) (ob:=obL [(1,p,C),(5,p2,C2)]) h12 h12' hs
  obtain ⟨k1,k2,k3⟩:=hk (Nat.le_trans (Nat.mul_le_mul_right _ (Nat.le_trans ht.few hsm)) (by decide))
  refine ⟨n,hn,k1,k3.trans ((ht.bad fun e hbad=>?_).trans (args_ev ok1 ok2))⟩
  cases e with
  | fld s=>rfl
  | dir d loc=>rfl
  | _=>cases hbad
theorem c_argNames {a:OA}{l c:Nat}{xs:List Argm}{w:World}(hl:RArgms w a l c xs):
  CP 50 #[.slice a l c] w fun e w'=>∃ A L C,e=.returned (.slice A L C)/\Ext (fun _=>False) w w'/\RStrs w' A L C (xs.map Argm.name):=by
 obtain ⟨e1,e3⟩:=hl.len
 refine q_argNames a l c w _ ⟨fun A L C i w1=>0<=i/\i<=l/\Ext (fun _=>False) w w1/\L=i.toNat/\∃ cells,Own w.heap.size w1 9 1 A L C cells/\Flat 1 RS ((xs.take i.toNat).map Argm.name) cells,fun _ _ _ i _=>((l:Int)-i).toNat,⟨by omega,by omega,Ext.refl w,rfl,[],Own.nil ..,.nil⟩,?_⟩
 rintro A L C i w1 ⟨h0,hi,hx,hL,cells,hown,hf⟩
 refine ⟨fun hlt=>?_,fun hge=>?_⟩
 ·have hlt:=of_decide_eq_true hlt
  obtain ⟨p,x,hp,hxs,cs,hc,k,r,a',l',c',rfl,hv⟩:=hl.get h0 hlt
  obtain ⟨⟨_,_,hc0⟩,hs0,⟨_,_,hc1⟩,hs1,⟨_,_,hc2⟩,hs2,⟨_,_,hc3⟩,-⟩:=hc
  refine ⟨p,hp,⟨h0,hlt⟩,_,hx.cell hc0 id,_,hx.cell hc1 id,_,hx.cell hc2 id,_,_,_,hx.cell hc3 id,trivial,trivial,trivial,?_⟩
  have hx15:Ext (fun _=>False) w1 (w1.alloc (.cells #[.string x.name,.int .i64 k,.string r,.slice a' l' c'] 90)):=(Ext.refl w1).alloc _
  obtain ⟨A2,C2,w20,r1,⟨cells2,o2,f2⟩,x2,k2⟩:=append_str (hown.keep hx15 fun _ _=>id) (Nat.le_trans hx.size hx15.size) hf (s:=x.name) hs0 (by omega)
  have hx20:Ext (fun _=>False) w w20:=(hx.then hx15).trans x2 fun b hb hbl=>by
   have:=((hown.keep hx15 fun _ _=>id).base b hbl).1
   omega
  refine ⟨A2,L+1,C2,w20,r1,⟨k2 90 (by decide),trivial⟩,?_⟩
  rw [wrap_lt h0 (by omega)]
  refine next h0 hlt ⟨hx20,by omega,cells2,o2,?_⟩
  rw [take_snoc' h0 hxs]
  simpa using f2
 ·have hle:=of_decide_eq_false hge
  rw [List.take_of_length_le (by omega)] at hf
  exact ⟨A,L,C,rfl,hx,hown.sl hf (by omega) (by omega)⟩
theorem c_ArgsTwice {a:OA}{l c:Nat}{a':OA}{l' c':Nat}{ops:List OpD}{frags:List Frag}{w:World}(hl:ROps w a l c ops)(hl':RFrags w a' l' c' frags)(ok1:∀ x∈ops,okOp x)(ok2:∀ x∈frags,okFrag x)(hs:docW ops frags<=2097152):
  CP 24 #[.agg #[.slice a l c,.slice a' l' c']] w (RetB w fun b=>b=true↔∃ av∈argListsD ops frags,dupZ av):=by
 have hx0:=(Ext.refl (X:=fun _=>False) w).alloc (.cells #[.slice a l c,.slice a' l' c'] 30)
 refine q_ArgsTwice a l c a' l' c' w _ ⟨trivial,?_⟩
 refine (c_argLists hx0 hl hl' ok1 ok2 hs).mono ?_
 rintro _ w6 ⟨A7,L7,C7,rfl,ac⟩
 have y6:=hx0.then ac.1
 have e1:=ac.2.1
 have hln:=Nat.le_trans (argLists_len ops frags) hs
 refine ⟨A7,L7,C7,rfl,⟨ac.1.keepT _,trivial⟩,fun i w1=>0<=i/\i<=L7/\Ext (fun _=>False) w6 w1/\∀ av∈(argListsD ops frags).take i.toNat,¬ dupZ av,fun i _=>((L7:Int)-i).toNat,⟨by omega,by omega,Ext.refl w6,by simp⟩,?_⟩
 rintro i w1 ⟨h0,hi,hx,hn⟩
 refine ⟨fun hlt=>?_,fun hge=>?_⟩
 ·have hlt:=of_decide_eq_true hlt
  obtain ⟨p,av,cs,hp,hns,⟨a2,l2,c2,rfl,hv⟩,hc⟩:=ac.get h0 hlt
  have hc0:At w6 83 (p.add (i.toNat*1)) (.slice a2 l2 c2):=by simpa [Addr.add] using hc 0 _ rfl
  have y1:=y6.then hx
  refine ⟨p,hp,⟨h0,hlt⟩,_,_,_,hx.cell hc0 id,?_⟩
  refine (c_argNames (RArgms.keep y1.keep hv)).mono ?_
  rintro _ w14 ⟨A15,L15,C15,rfl,x14,hr⟩
  refine ⟨A15,L15,C15,rfl,⟨x14.keepT _,trivial⟩,?_⟩
  refine (c_twice hr).mono ?_
  rintro _ w17 ⟨b,rfl,x17,hb⟩
  have y17:=(hx.then x14).then x17
  refine ⟨b,rfl,⟨x17.keepT _,trivial⟩,fun hbt=>⟨true,rfl,y6.then y17,fun _=>⟨av,List.mem_of_getElem? hns,hb.1 hbt⟩,fun _=>rfl⟩,fun hbf=>?_⟩
  rw [wrap_lt h0 (by omega)]
  refine next h0 hlt ⟨y17,take_all_int h0 hn hns fun hbad=>?_⟩
  rw [hb.2 hbad] at hbf
  cases hbf
 ·have hall:=take_end e1 hge hn
  exact ⟨false,rfl,y6.then hx,nofun,fun ⟨n,hm,hb⟩=>absurd hb (hall n hm)⟩
end Go.VC
namespace Go.VC
open Go Go.Proofs
variable [DB]
theorem c_impl_RUniqueArgumentNames {P:Int->Prop}{wd:WorldD}{a1:OA}{l1 c1:Nat}{a2:OA}{l2 c2:Nat}{a6:OA}{l6 c6:Nat}{a7:OA}{l7 c7:Nat}{q8:OA}{q8l q8c:Nat}{q9:OA}{q9l q9c:Nat}{ops:List OpD}{frags:List Frag}{w:World}
  (hw:RWorld w wd [.slice a1 l1 c1,.slice a2 l2 c2,.string wd.query,.string wd.mutation,.string wd.subscription,.slice a6 l6 c6,.slice a7 l7 c7]) (ok3:∀ x∈wd.dirs,∀ y∈x.args,okArgDef y) (ok4:∀ x∈wd.types,okDef x)
  (few6:(pushD wd.types wd.possible).length<=4194304) (few7:(pushD wd.types wd.implements).length<=4194304) (hl1:ROps w q8 q8l q8c ops) (hl2:RFrags w q9 q9l q9c frags) (ok1:∀ x∈ops,okOp x) (ok2:∀ x∈frags,okFrag x) (hr:RuleOK 47 wd ops frags P) (hB0:DB.B<=w.heap.size):
  CP 23 #[.agg #[.slice a1 l1 c1,.slice a2 l2 c2,.string wd.query,.string wd.mutation,.string wd.subscription,.slice a6 l6 c6,.slice a7 l7 c7],.agg #[.slice q8 q8l q8c,.slice q9 q9l q9c]] w fun e w'=>
   ∃ n,e=.returned (.tuple #[.int .i64 n,.bool true])/\P n/\Ext (fun _=>False) w w':=by
 have x11:Ext (fun _=>False) w (w.alloc (.cells #[.slice a1 l1 c1,.slice a2 l2 c2,.string wd.query,.string wd.mutation,.string wd.subscription,.slice a6 l6 c6,.slice a7 l7 c7] 40)):=(Ext.refl w).alloc _
 have x12:=x11.alloc (.cells #[.slice q8 q8l q8c,.slice q9 q9l q9c] 30)
 refine q_impl_RUniqueArgumentNames a1 l1 c1 a2 l2 c2 wd.query wd.mutation wd.subscription a6 l6 c6 a7 l7 c7 q8 q8l q8c q9 q9l q9c w _ ⟨trivial,trivial,?_⟩
 refine (c_impl_found (RWorld.keep x12.keep hw) ok3 ok4 few6 few7 (hl1.keep x12.keep) (hl2.keep x12.keep) ok1 ok2 hr (Nat.le_trans hB0 x12.size)).mono ?_
 rintro _ w' ⟨n,rfl,hp,hx⟩
 exact ⟨n,true,rfl,⟨hx.keepT _,hx.keepT _,trivial⟩,n,rfl,hp,x12.then hx⟩
theorem c_law_FnRuleArgs {S:List Def->List RootD->List OpD->List Frag->Prop}(rule:∀ types dirs defs ops frags,OkSchema types dirs defs->ops.length<=12->frags.length<=12->(∀ x∈ops,okOp x)->(∀ x∈frags,okFrag x)->docW ops frags<=2097152->RuleOK 47 (wideD types dirs (rootsOf types defs)) ops frags fun n=>0<=n/\(n>0↔S types (rootsOf types defs) ops frags))
  (spec:∀ {types:List Def} {defs:List SchemaDef} {a:OA} {l c:Nat} {a':OA} {l' c':Nat} {ops:List OpD} {frags:List Frag} {w:World},ROps w a l c ops->RFrags w a' l' c' frags->(∀ x∈ops,okOp x)->(∀ x∈frags,okFrag x)->docW ops frags<=2097152->
   CP 24 #[.agg #[.slice a l c,.slice a' l' c']] w (RetB w fun b=>b=true↔S types (rootsOf types defs) ops frags))
  {d1:OA} {d1l d1c:Nat} {d2:OA} {d2l d2c:Nat} {d3:OA} {d3l d3c:Nat} {d4:OA} {d4l d4c:Nat} {d5:OA} {d5l d5c:Nat} {q6:OA} {q6l q6c:Nat} {q7:OA} {q7l q7c:Nat} {defs exts:List SchemaDef} {dirs:List DirDef} {types texts:List Def} {ops:List OpD} {frags:List Frag} {w:World}
  (h1:RSchemaDefs w d1 d1l d1c defs) (h2:RSchemaDefs w d2 d2l d2c exts) (h3:RDirDefs w d3 d3l d3c dirs) (h4:RDefs w d4 d4l d4c types) (h5:RDefs w d5 d5l d5c texts) (hs:d1l+d2l<=4194304) (hsp:docW ops frags<=2097152) (h6:ROps w q6 q6l q6c ops) (h7:RFrags w q7 q7l q7c frags) (hB0:DB.B<=w.heap.size):
  CP 7 #[.agg #[.slice d1 d1l d1c,.slice d2 d2l d2c,.slice d3 d3l d3c,.slice d4 d4l d4c,.slice d5 d5l d5c],.agg #[.slice q6 q6l q6c,.slice q7 q7l q7c]] w fun e w'=>e=.returned (.bool true)/\Ext (fun _=>False) w w':=by
 have x8:Ext (fun _=>False) w (w.alloc (.cells #[.slice d1 d1l d1c,.slice d2 d2l d2c,.slice d3 d3l d3c,.slice d4 d4l d4c,.slice d5 d5l d5c] 26)):=(Ext.refl w).alloc _
 have x9:=x8.alloc (.cells #[.slice q6 q6l q6c,.slice q7 q7l q7c] 30)
 refine q_laws_FnRuleArgs d1 d1l d1c d2 d2l d2c d3 d3l d3c d4 d4l d4c d5 d5l d5c q6 q6l q6c q7 q7l q7c w _ ⟨trivial,trivial,fun K10 hK10=>?_⟩
 have key10:∀ b w',Ext (fun _=>False) w w'->K10 b w':=by
  intro b w' xw
  refine hK10 b w' ⟨fun _=>⟨rfl,xw⟩,fun _=>?_⟩
  refine (c_Build (h1.keep xw.keep) (h2.keep xw.keep) (h3.keep xw.keep) (h4.keep xw.keep) (h5.keep xw.keep) hs (Nat.le_trans hB0 xw.size)).mono ?_
  rintro _ w14 ⟨q15,b16,rfl,x14,hok⟩
  refine ⟨q15,b16,rfl,⟨x14.keepT _,x14.keepT _,trivial⟩,fun K17 hK17=>?_⟩
  have y14:=xw.then x14
  have key17:∀ b w',Ext (fun _=>False) w14 w'->(b=false->b16=true/\ops.length<=12/\frags.length<=12/\(∀ x∈ops,okOp x)/\(∀ x∈frags,okFrag x))->K17 b w':=by
   intro b w19 x19 hb
   have y19:=y14.then x19
   refine hK17 b w19 ⟨fun _=>⟨rfl,y19⟩,fun hbf=>?_⟩
   obtain ⟨hb16,n1,n2,ok1,ok2⟩:=hb hbf
   obtain ⟨k,rfl,A,L,C,hB,hR,hO⟩:=hok hb16
   intro w20 e20
   have x20:Ext (fun _=>False) w19 w20:=by rw [e20];exact (Ext.refl w19).drew
   have y20:=y19.then x20
   have z20:=x19.then x20
   refine (c_World_Wide (hB.ext z20 id) (h4.keep y20.keep) (hR.keep z20.keep) (h3.keep y20.keep) hO.few.1 (fun t ht=>by have:=hO.small t ht;omega) hO.few.2 (Nat.le_trans hB0 y20.size)).mono ?_
   rintro _ w22 ⟨cs,rfl,hW,x22⟩
   obtain ⟨ok3,ok4,few6,few7⟩:=wide_ok hO
   have hW':=hW
   obtain ⟨a1,l1,c1,a2,l2,c2,a6,l6,c6,a7,l7,c7,rfl,-⟩:=hW'
   have y22:=y20.then x22
   refine ⟨a1,l1,c1,a2,l2,c2,_,_,_,a6,l6,c6,a7,l7,c7,rfl,⟨x22.keepT _,x22.keepT _,trivial⟩,⟨rfl,trivial⟩,?_⟩
   refine (c_impl_RUniqueArgumentNames hW ok3 ok4 few6 few7 (h6.keep y22.keep) (h7.keep y22.keep) ok1 ok2 (rule types dirs defs ops frags hO n1 n2 ok1 ok2 hsp) (Nat.le_trans hB0 y22.size)).mono ?_
   rintro _ w31 ⟨n,rfl,⟨hn0,hn⟩,x31⟩
   have y31:=y22.then x31
   refine ⟨n,true,rfl,⟨x31.keepT _,x31.keepT _,trivial⟩,trivial,trivial,trivial,?_⟩
   refine (spec (types:=types) (defs:=defs) (h6.keep y31.keep) (h7.keep y31.keep) ok1 ok2 hsp).mono ?_
   rintro _ w35 ⟨b36,rfl,x35,hb36⟩
   have y35:=y31.then x35
   refine ⟨b36,rfl,⟨x35.keepT _,x35.keepT _,trivial⟩,?_⟩
   refine (c_laws_told n true b36 w35).mono ?_
   rintro _ w38 ⟨rfl,rfl⟩
   refine ⟨_,rfl,⟨(Ext.refl _).keepT _,(Ext.refl _).keepT _,trivial⟩,?_,y35⟩
   rw [told_true hn0 (hn.trans hb36.symm)]
  refine ⟨fun hb=>?_,fun hb=>key17 true w14 (Ext.refl w14) nofun⟩
  refine (c_Small (h6.keep y14.keep) (h7.keep y14.keep)).mono ?_
  rintro _ w41 ⟨b42,rfl,x41,hsm⟩
  refine ⟨b42,rfl,⟨x41.keepT _,x41.keepT _,trivial⟩,key17 _ w41 x41 fun h=>⟨by simpa using hb,hsm (by simpa using h)⟩⟩
 refine (c_laws_zzFits20 d1 d1l d1c d2 d2l d2c d3 d3l d3c d4 d4l d4c d5 d5l d5c _).mono ?_
 rintro _ w44 ⟨b45,rfl,x44,-⟩
 have y44:=x9.then x44
 refine ⟨b45,rfl,⟨x44.keepT _,x44.keepT _,trivial⟩,fun _=>?_,fun _=>key10 true w44 y44⟩
 refine (c_laws_zzFits21 q6 q6l q6c q7 q7l q7c _).mono ?_
 rintro _ w47 ⟨b48,rfl,x47,-⟩
 exact ⟨b48,rfl,⟨x47.keepT _,x47.keepT _,trivial⟩,key10 _ w47 (y44.then x47)⟩
theorem c_FnRuleArgs {d1:OA}{d1l d1c:Nat}{d2:OA}{d2l d2c:Nat}{d3:OA}{d3l d3c:Nat}{d4:OA}{d4l d4c:Nat}{d5:OA}{d5l d5c:Nat}{q6:OA}{q6l q6c:Nat}{q7:OA}{q7l q7c:Nat}{defs exts:List SchemaDef}{dirs:List DirDef}{types texts:List Def}{ops:List OpD}{frags:List Frag}{w:World}
  (h1:RSchemaDefs w d1 d1l d1c defs) (h2:RSchemaDefs w d2 d2l d2c exts) (h3:RDirDefs w d3 d3l d3c dirs) (h4:RDefs w d4 d4l d4c types) (h5:RDefs w d5 d5l d5c texts) (hs:d1l+d2l<=4194304) (hsp:docW ops frags<=2097152) (h6:ROps w q6 q6l q6c ops) (h7:RFrags w q7 q7l q7c frags) (hB0:DB.B<=w.heap.size):
  CP 7 #[.agg #[.slice d1 d1l d1c,.slice d2 d2l d2c,.slice d3 d3l d3c,.slice d4 d4l d4c,.slice d5 d5l d5c],.agg #[.slice q6 q6l q6c,.slice q7 q7l q7c]] w fun e w'=>e=.returned (.bool true)/\Ext (fun _=>False) w w':=
 c_law_FnRuleArgs (S:=fun _ _ ops frags=>∃ av∈argListsD ops frags,dupZ av) (fun types dirs defs ops frags hO h h2 ok1 ok2 hs=>argsRule types dirs defs ops frags hO h h2 ok1 ok2 hs) (fun h h2 ok1 ok2 hs=>c_ArgsTwice h h2 ok1 ok2 hs) h1 h2 h3 h4 h5 hs hsp h6 h7 hB0
end Go.VC
