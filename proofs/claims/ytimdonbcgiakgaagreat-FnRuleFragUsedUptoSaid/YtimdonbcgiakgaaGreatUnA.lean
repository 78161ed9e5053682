/- Part of the proof of a law of a rule over documents (UnA), where what the arguments hold is of bulk at most 1048576. -/
import Derived.Test.YtimdonbcgiakgaaGreatBaseB
import Derived.Test.YtimdonbcgiakgaaGreatWalkD
import Derived.Test.YtimdonbcgiakgaaGreatWalkC
import Derived.Test.YtimdonbcgiakgaaGreatLawA
import Derived.Test.YtimdonbcgiakgaaGreatSpecE
set_option linter.unusedVariables false
set_option linter.unusedSectionVars false
namespace Go.VC
open Go Go.Proofs
set_option maxRecDepth 100000
theorem q_rules_NoUnusedFragmentsRule (a:OA)(b:Value)(w:World)(R:EW)(h:
 (b.oneCell'=true/\True)/\(let c:=w.alloc (.cells #[b] 152);
 True/\(let d:=c.alloc (.cells #[.bool false] 4);
 Off d (adr c.heap.size) 1 []/\True/\(let e:=(d.setCell (adr c.heap.size) (.bool false));
 let f:=e.alloc (.map #[] 0);
 True/\(let g:=f.alloc (.cells #[.map none] 153);
 Off g (adr f.heap.size) 1 []/\True/\(let i:=(g.setCell (adr f.heap.size) (.map (some e.heap.size)));
 C0 104 #[.pointer a,(.func (.func 105) #[] #[(.pointer (some (adr c.heap.size))),(.pointer (some (adr f.heap.size)))])] i (fun j=>True/\C0 106 #[.pointer a,(.func (.func 107) #[] #[(.pointer (some (adr c.heap.size))),(.pointer (some (adr f.heap.size))),(.pointer (some (adr w.heap.size)))])] j (fun k=>True/\R (.returned (.tuple #[])) k)))))))):CP 50 #[.pointer a,b] w R:=
 vcq Tryz.func50 [] [] [.l (.optr a),.l (.val b)] h
theorem q_rules_NoUnusedFragmentsRule_1 (a:OA)(b:OA)(c:Addr)(d:Addr)(w:World)(R:EW)(h:
 Lb w c fun e=>(Br (!e) (∀ f,f=w.drew->Lm f d fun g=>Pt b fun i=>Ls f i fun j=>∃ k,(Instr.mapUpdate 153 (.map g) (.string j) (.bool true)).run Tryz.prog f=.ok () k/\True/\True/\R (.returned (.tuple #[])) k) (R (.returned (.tuple #[])) w))):CP 105 #[.pointer a,.pointer b,(.pointer (some c)),(.pointer (some d))] w R:=
 vcq Tryz.func105 [] [] [.l (.optr a),.l (.optr b),.l (.ptr c),.l (.ptr d)] h
theorem q_rules_NoUnusedFragmentsRule_2 (a:OA)(b:OA)(c:Addr)(d:Addr)(e:Addr)(w:World)(R:EW)(h:
 Off w c 1 []/\True/\(let f:=(w.setCell c (.bool true));
 ∀ g,g=f.drew->Lm g d fun i=>Pt b fun j=>Ls g (j.add 1) fun k=>∃ l,(Instr.lookup 153 (.map i) (.string k) false).run Tryz.prog g=.ok (.bool l) g/\(Br (!l) (∀ m,m=g.drew->Lv m e fun n=>Pt b fun o=>Ls m (o.add 1) fun p=>Pt b fun q=>Lp m (q.add 7) fun r=>True/\(let s:=m.alloc (.cells #[(ifcV (some (9,(.string p))))] 20);
 ((s.cell? (q.add 7)=m.cell? (q.add 7))/\(s.cell? e=m.cell? e)/\True)/\CP 108 #[(.string (⟨#[70,114,97,103,109,101,110,116,32,34,37,115,34,32,105,115,32,110,101,118,101,114,32,117,115,101,100,46]⟩:BA)),(.slice (some (adr m.heap.size)) 1 1)] s (fun t u=>∃ v:Value,t=.returned v/\True/\((u.cell? (q.add 7)=s.cell? (q.add 7))/\(u.cell? e=s.cell? e)/\True)/\CP 109 #[.pointer r] u (fun x y=>∃ z:Value,x=.returned z/\True/\((y.cell? e=u.cell? e)/\True)/\(v.oneCell'=true/\z.oneCell'=true/\True)/\(let A:=y.alloc (.cells #[v,z] 174);
 ((A.cell? e=y.cell? e)/\True)/\∃ B C,n=.func (.func B) #[] C.toArray/\∃ D,Tryz.prog.funcs[B]? =some D/\(D.name== "runtime.NumGoroutine" ||D.body.isNone)=false/\CP B ([(.slice (some (adr y.heap.size)) 2 2)]++C).toArray A (fun E F=>E=.returned (.tuple #[])/\True/\True/\R (.returned (.tuple #[])) F)))))) (R (.returned (.tuple #[])) g)))):CP 107 #[.pointer a,.pointer b,(.pointer (some c)),(.pointer (some d)),(.pointer (some e))] w R:=
 vcq Tryz.func107 [] [] [.l (.optr a),.l (.optr b),.l (.ptr c),.l (.ptr d),.l (.ptr e)] h
theorem q_FragIdle (a:OA)(b c:Nat)(d:OA)(e f:Nat)(w:World)(R:EW)(h:
 True/\(let g:=w.alloc (.cells #[.slice a b c,.slice d e f] 30);
 ∃ (i:OA->Nat->Nat->Int->World->Prop) (j:OA->Nat->Nat->Int->World->Nat),i none 0 0 0 g/\
 (∀ (k:OA) (l m:Nat),∀ n:Int,∀ o:World,i k l m n o->
 (Br (decide (n<(b:Int))) (Ix a n b fun p=>L_sslll o (p.add (n.toNat*5)) fun q r s t u v x y z A B=>True/\(let C:=o.alloc (.cells #[(.string (⟨#[]⟩:BA)),(.string (⟨#[]⟩:BA)),.slice none 0 0,.slice none 0 0,.slice none 0 0] 51);
 True/\(let D:=o.alloc (.cells #[.string q,.string r,.slice s t u,.slice v x y,.slice z A B] 51);
 Cl 56 #[(.agg #[.slice a b c,.slice d e f]),.slice z A B] D (fun E F G H=>(KeepT 30 D H/\KeepT 51 D H/\True)/\∃ I J K,∃ L,(Go.builtin .append #[71,71] 71 #[false,false] #[.slice k l m,.slice E F G]).run Tryz.prog H=.ok (.value (.slice I J K)) L/\(KeepT 30 H L/\KeepT 51 H L/\True)/\(i I J K (IntKind.i64.wrap (n+1)) L/\j I J K (IntKind.i64.wrap (n+1)) L<j k l m n o))))) (∃ (M:Int->World->Prop) (N:Int->World->Nat),M 0 o/\
 (∀ O:Int,∀ P:World,M O P->
 (Br (decide (O<(e:Int))) (Ix d O e fun Q=>L_ssll P (Q.add (O.toNat*4)) fun S U V W X Y Z aa=>True/\(let ab:=P.alloc (.cells #[(.string (⟨#[]⟩:BA)),(.string (⟨#[]⟩:BA)),.slice none 0 0,.slice none 0 0] 63);
 True/\(let ac:=P.alloc (.cells #[.string S,.string U,.slice V W X,.slice Y Z aa] 63);
 Cb 57 #[.string S,.slice k l m] ac (fun ad ae=>(KeepT 30 ac ae/\KeepT 63 ac ae/\True)/\(Br (!ad) (R (.returned (.bool true)) ae) ((M (IntKind.i64.wrap (O+1)) ae/\N (IntKind.i64.wrap (O+1)) ae<N O P))))))) (R (.returned (.bool false)) P)))))))):CP 19 #[(.agg #[.slice a b c,.slice d e f])] w R:=
 vcq Tryz.func19 [1,5,7] [(8,⟨[(3,.slice),(11,.int .i64)],[]⟩),(25,⟨[(25,.int .i64)],[]⟩)] [.agg [.slice a b c,.slice d e f]] h
theorem q_impl_RNoUnusedFragments (a:OA)(b c:Nat)(d:OA)(e f:Nat)(g:BA)(i:BA)(j:BA)(k:OA)(l m:Nat)(n:OA)(o p:Nat)(q:OA)(r s:Nat)(t:OA)(u v:Nat)(w:World)(R:EW)(h:
 True/\(let x:=w.alloc (.cells #[.slice a b c,.slice d e f,.string g,.string i,.string j,.slice k l m,.slice n o p] 40);
 True/\(let y:=x.alloc (.cells #[.slice q r s,.slice t u v] 30);
 CP 49 #[(.agg #[.slice a b c,.slice d e f,.string g,.string i,.string j,.slice k l m,.slice n o p]),(.agg #[.slice q r s,.slice t u v]),(.func (.func 50) #[] #[])] y (fun z A=>∃ B,∃ C,z=.returned (.tuple #[.int .i64 B,.bool C])/\(KeepT 40 y A/\KeepT 30 y A/\True)/\R (.returned (.tuple #[.int .i64 B,.bool C])) A)))):CP 16 #[(.agg #[.slice a b c,.slice d e f,.string g,.string i,.string j,.slice k l m,.slice n o p]),(.agg #[.slice q r s,.slice t u v])] w R:=
 vcq Tryz.func16 [2,3] [] [.agg [.slice a b c,.slice d e f,.str g,.str i,.str j,.slice k l m,.slice n o p],.agg [.slice q r s,.slice t u v]] h
theorem q_laws_FnRuleFragUsed (a:OA)(b c:Nat)(d:OA)(e f:Nat)(g:OA)(i j:Nat)(k:OA)(l m:Nat)(n:OA)(o p:Nat)(q:OA)(r s:Nat)(t:OA)(u v:Nat)(w:World)(R:EW)(h:
 True/\(let x:=w.alloc (.cells #[.slice a b c,.slice d e f,.slice g i j,.slice k l m,.slice n o p] 26);
 True/\(let y:=x.alloc (.cells #[.slice q r s,.slice t u v] 30);
 ∀ z:Bool->World->Prop,(∀ A:Bool,∀ B:World,
 ((Br A (R (.returned (.bool true)) B) (CP 13 #[(.agg #[.slice a b c,.slice d e f,.slice g i j,.slice k l m,.slice n o p])] B (fun C D=>∃ E,∃ F,C=.returned (.tuple #[.pointer E,.bool F])/\(KeepT 26 B D/\KeepT 30 B D/\True)/\∀ G:Bool->World->Prop,(∀ H:Bool,∀ I:World,
 ((Br H (R (.returned (.bool true)) I) (∀ J,J=I.drew->CP 17 #[.pointer E] J (fun K L=>∃ M N O,∃ P Q S,∃ U,∃ V,∃ W,∃ X Y Z,∃ aa ab ac,K=.returned (.agg #[.slice M N O,.slice P Q S,.string U,.string V,.string W,.slice X Y Z,.slice aa ab ac])/\(KeepT 26 J L/\KeepT 30 J L/\True)/\((0=0)/\True)/\CP 16 #[(.agg #[.slice M N O,.slice P Q S,.string U,.string V,.string W,.slice X Y Z,.slice aa ab ac]),(.agg #[.slice q r s,.slice t u v])] L (fun ad ae=>∃ af,∃ ag,ad=.returned (.tuple #[.int .i64 af,.bool ag])/\(KeepT 26 L ae/\KeepT 30 L ae/\True)/\True/\True/\True/\Cb 19 #[(.agg #[.slice q r s,.slice t u v])] ae (fun ah ai=>(KeepT 26 ae ai/\KeepT 30 ae ai/\True)/\Cb 18 #[.int .i64 af,.bool ag,.bool ah] ai (fun aj ak=>(KeepT 26 ai ak/\KeepT 30 ai ak/\True)/\R (.returned (.bool aj)) ak)))))))->
 G H I)->
 (Nr (!F) (Cb 14 #[(.agg #[.slice q r s,.slice t u v])] D (fun al am=>(KeepT 26 D am/\KeepT 30 D am/\True)/\(Nr (!al) (Cb 15 #[.pointer E,(.agg #[.slice q r s,.slice t u v])] am (fun an ao=>(KeepT 26 am ao/\KeepT 30 am ao/\True)/\G (!an) ao)) (G true am)))) (G true D))))))->
 z A B)->
 Cb 11 #[(.agg #[.slice a b c,.slice d e f,.slice g i j,.slice k l m,.slice n o p])] y (fun ap aq=>(KeepT 26 y aq/\KeepT 30 y aq/\True)/\(Nr (!ap) (Cb 12 #[(.agg #[.slice q r s,.slice t u v])] aq (fun ar au=>(KeepT 26 aq au/\KeepT 30 aq au/\True)/\z (!ar) au)) (z true aq)))))):CP 3 #[(.agg #[.slice a b c,.slice d e f,.slice g i j,.slice k l m,.slice n o p]),(.agg #[.slice q r s,.slice t u v])] w R:=
 vcq Tryz.func3 [2,3] [(3,⟨[(16,.bool)],[]⟩),(13,⟨[(34,.bool)],[]⟩)] [.agg [.slice a b c,.slice d e f,.slice g i j,.slice k l m,.slice n o p],.agg [.slice q r s,.slice t u v]] h
set_option maxRecDepth 100000
theorem q_core_Events_OnFragmentSpread (a:OA)(b:Value)(w:World)(R:EW)(h:
 Pt a fun c=>Ll w (c.add 4) fun d e f=>(b.oneCell'=true/\True)/\(let g:=w.alloc (.cells #[b] 165);
 ∃ i j k,∃ l,(Go.builtin .append #[142,142] 142 #[false,false] #[.slice d e f,(.slice (some (adr w.heap.size)) 1 1)]).run Tryz.prog g=.ok (.value (.slice i j k)) l/\True/\Pt a fun m=>Off l (m.add 4) 1 []/\True/\(let n:=(l.setCell (m.add 4) (.slice i j k));
 R (.returned (.tuple #[])) n))):CP 104 #[.pointer a,b] w R:=
 vcq Tryz.func104 [] [] [.l (.optr a),.l (.val b)] h
variable [DB]
theorem c_core_Events_OnFragmentSpread {eb:Nat}{f:Value}{evs:List Value}{w:World}(hf:smallV f)(hB:Blk w eb 148 evs)(hj:evs[4]? =some (.slice none 0 0)):
  CP 104 #[.pointer (some (adr eb)),f] w fun e w'=>e=.returned (.tuple #[])/\∃ (p:Addr) (C:Nat),Blk w' eb 148 (evs.set 4 (.slice (some p) 1 C))/\At w' 165 p f/\w.heap.size<=p.block/\Ext (fun b=>b=eb) w w':=by
 obtain ⟨p,C,w7,r7,ha,hp,hx,-⟩:=on_append 142 165 Tryz.t165 _ _ (by kernel_rfl) (by kernel_rfl) rfl (by kernel_rfl) rfl (by kernel_rfl) (by decide) (w:=w) hf 142 #[false,false]
 have hB7:=hB.ext hx id
 have hlt:=hB.lt
 have hl:4+1<=evs.length:=(List.getElem?_eq_some_iff.1 hj).1
 have hs:Ext (fun b=>b=eb) w7 (w7.setCell ⟨eb,4,none⟩ (.slice (some p) 1 C)):=Ext.setCell (X:=fun b=>b=eb) (Ext.refl _) (a:=⟨eb,4,none⟩) (.inl rfl) _
 refine q_core_Events_OnFragmentSpread (some (adr eb)) f w _ ⟨adr eb,rfl,none,0,0,(hB.at (j:=4) hj).cell,⟨hf.one,trivial⟩,some p,1,C,w7,r7,trivial,adr eb,rfl,hB7.off (j:=4) (n:=1) (q:=fun _=>false) hl rfl,trivial,rfl,p,C,hB7.set 4 _,hs.at (by show ¬ p.block=eb;omega) ha,hp,(hx.toM _).trans hs fun _ _ e=>e⟩
end Go.VC
namespace Go.VC
open Go Go.Proofs
set_option maxRecDepth 100000
theorem q_core_Events_OnFragment (a:OA)(b:Value)(w:World)(R:EW)(h:
 Pt a fun c=>Ll w (c.add 2) fun d e f=>(b.oneCell'=true/\True)/\(let g:=w.alloc (.cells #[b] 177);
 ∃ i j k,∃ l,(Go.builtin .append #[140,140] 140 #[false,false] #[.slice d e f,(.slice (some (adr w.heap.size)) 1 1)]).run Tryz.prog g=.ok (.value (.slice i j k)) l/\True/\Pt a fun m=>Off l (m.add 2) 1 []/\True/\(let n:=(l.setCell (m.add 2) (.slice i j k));
 R (.returned (.tuple #[])) n))):CP 106 #[.pointer a,b] w R:=
 vcq Tryz.func106 [] [] [.l (.optr a),.l (.val b)] h
variable [DB]
theorem c_core_Events_OnFragment {eb:Nat}{f:Value}{evs:List Value}{w:World}(hf:smallV f)(hB:Blk w eb 148 evs)(hj:evs[2]? =some (.slice none 0 0)):
  CP 106 #[.pointer (some (adr eb)),f] w fun e w'=>e=.returned (.tuple #[])/\∃ (p:Addr) (C:Nat),Blk w' eb 148 (evs.set 2 (.slice (some p) 1 C))/\At w' 177 p f/\w.heap.size<=p.block/\Ext (fun b=>b=eb) w w':=by
 obtain ⟨p,C,w7,r7,ha,hp,hx,-⟩:=on_append 140 177 Tryz.t177 _ _ (by kernel_rfl) (by kernel_rfl) rfl (by kernel_rfl) rfl (by kernel_rfl) (by decide) (w:=w) hf 140 #[false,false]
 have hB7:=hB.ext hx id
 have hlt:=hB.lt
 have hl:2+1<=evs.length:=(List.getElem?_eq_some_iff.1 hj).1
 have hs:Ext (fun b=>b=eb) w7 (w7.setCell ⟨eb,2,none⟩ (.slice (some p) 1 C)):=Ext.setCell (X:=fun b=>b=eb) (Ext.refl _) (a:=⟨eb,2,none⟩) (.inl rfl) _
 refine q_core_Events_OnFragment (some (adr eb)) f w _ ⟨adr eb,rfl,none,0,0,(hB.at (j:=2) hj).cell,⟨hf.one,trivial⟩,some p,1,C,w7,r7,trivial,adr eb,rfl,hB7.off (j:=2) (n:=1) (q:=fun _=>false) hl rfl,trivial,rfl,p,C,hB7.set 2 _,hs.at (by show ¬ p.block=eb;omega) ha,hp,(hx.toM _).trans hs fun _ _ e=>e⟩
def isFrE:Ev->Bool
 | .frag _=>true
 | _=>false
def spNm:Ev->List BA
 | .spread n _ _=>[n]
 | _=>[]
def preE (l:List Ev):List Ev:=l.takeWhile fun e=> !isFrE e
def usedE (l:List Ev):List BA:=(preE l).flatMap spNm
def idleE (l:List Ev):Prop:=∃ f,Ev.frag f∈l/\f.name∉usedE l
theorem pre_any:∀ (l m:List Ev),l.any isFrE=true->preE (l++m)=preE l
 | [],m,h=>by simp at h
 | e::l,m,h=>by
  cases he:isFrE e with
  | true=>simp [preE,he]
  | false=>
   have h':l.any isFrE=true:=by simpa [he] using h
   have:=pre_any l m h'
   simp only [preE] at this
   simp [preE,he,this]
theorem pre_none:∀ (l m:List Ev),l.any isFrE=false->preE (l++m)=l++preE m
 | [],m,h=>rfl
 | e::l,m,h=>by
  simp only [List.any_cons,Bool.or_eq_false_iff] at h
  have:=pre_none l m h.2
  simp only [preE] at this
  simp [preE,h.1,this]
theorem used_frag (l:List Ev)(f:Frag):usedE (l++[.frag f])=usedE l:=by
 unfold usedE
 cases h:l.any isFrE with
 | true=>rw [pre_any l _ h]
 | false=>
  have h1:=pre_none l [] h
  rw [List.append_nil] at h1
  rw [pre_none l _ h,h1]
  rfl
theorem idle_frag (l:List Ev)(f:Frag):idleE (l++[.frag f])↔idleE l∨f.name∉usedE l:=by
 unfold idleE
 rw [used_frag]
 constructor
 ·rintro ⟨g,hg,hn⟩
  rcases List.mem_append.1 hg with hg|hg
  ·exact .inl ⟨g,hg,hn⟩
  ·obtain rfl:g=f:=by simpa using hg
   exact .inr hn
 ·rintro (⟨g,hg,hn⟩|hn)
  ·exact ⟨g,List.mem_append.2 (.inl hg),hn⟩
  ·exact ⟨f,by simp,hn⟩
theorem no_frag {l:List Ev}(h:l.any isFrE=false):¬ idleE l:=fun ⟨f,hf,_⟩=>by
 have:=List.any_eq_false.1 h _ hf
 exact this rfl
theorem any_spread (l:List Ev)(n:BA)(b:Bool)(pd:Option Def):(l++[Ev.spread n b pd]).any isFrE=l.any isFrE:=by simp [isFrE]
theorem used_spread {l:List Ev}(n:BA)(b:Bool)(pd:Option Def)(h:l.any isFrE=false):usedE (l++[.spread n b pd])=usedE l++[n]:=by
 have h1:=pre_none l [] h
 rw [List.append_nil] at h1
 unfold usedE
 rw [pre_none l _ h,h1,List.flatMap_append]
 simp [preE,spNm,isFrE]
theorem used_spread' {l:List Ev}(n:BA)(b:Bool)(pd:Option Def)(h:l.any isFrE=true):usedE (l++[.spread n b pd])=usedE l:=by
 unfold usedE
 rw [pre_any l _ h]
theorem idle_spread {l:List Ev}(n:BA)(b:Bool)(pd:Option Def):idleE (l++[.spread n b pd])↔idleE l:=by
 cases h:l.any isFrE with
 | true=>
  unfold idleE
  rw [used_spread' n b pd h]
  simp
 | false=>exact ⟨fun k=>absurd k (no_frag (by rw [any_spread];exact h)),fun k=>absurd k (no_frag h)⟩
def StU (ae cnt fb mb mp:Nat)(l:List Ev)(w:World):Prop:=
 Cnt ae cnt l.length (idleE l) w/\Blk w fb 4 [.bool (l.any isFrE)]/\Blk w mb 153 [.map (some mp)]/\∃ vs,VM w mp vs/\∀ n,n∈vs↔n∈usedE l
abbrev UV (ae cnt fb mb mp b:Nat):Prop:=b=cnt∨b=ae∨b=fb∨b=mb∨b=mp
theorem StU.ext {ae cnt fb mb mp:Nat}{l:List Ev}{w w':World}(h:StU ae cnt fb mb mp l w){X:Nat->Prop}(hx:Ext X w w')(hX:∀ b,UV ae cnt fb mb mp b->¬ X b):StU ae cnt fb mb mp l w':=by
 obtain ⟨h1,h2,h3,vs,h4,h5⟩:=h
 exact ⟨h1.ext hx (hX _ (.inr (.inl rfl))) (hX _ (.inl rfl)),h2.ext hx (hX _ (.inr (.inr (.inl rfl)))),h3.ext hx (hX _ (.inr (.inr (.inr (.inl rfl))))),vs,h4.ext hx (hX _ (.inr (.inr (.inr (.inr rfl))))),h5⟩
section
variable {c:WCtx} {ae cnt fb mb mp:Nat} {l:List Ev} {w:World} {cx:Option OpD} {co:OA} {vm:Nat} {evs:List Value} {node:Value} {ev:Ev}
theorem c_Un_1 (hne:ae≠cnt/\ae≠fb/\ae≠mb/\ae≠mp/\cnt≠fb/\cnt≠mb/\cnt≠mp/\fb≠mb/\fb≠mp/\mb≠mp)(hc:StU ae cnt fb mb mp l w)(hw:Wst c cx co vm evs w)(hk:slot ev=4)(hn:evNode c cx w node ev):
  CP 105 #[.pointer (some (adr c.wb)),node,.pointer (some (adr fb)),.pointer (some (adr mb))] w fun e w'=>e=.returned (.tuple #[])/\Ext (UV ae cnt fb mb mp) w w'/\StU ae cnt fb mb mp (l++[ev]) w':=by
 cases ev with
 | spread n found pd=>
  obtain ⟨b,q,q2,d,u2,u3,pos,rfl,hM,hB,-⟩:=hn
  obtain ⟨c0,f0,b0,vs,v0,h4⟩:=hc
  have hidle:idleE l↔idleE (l++[.spread n found pd]):=(idle_spread n found pd).symm
  refine q_rules_NoUnusedFragmentsRule_1 (some (adr c.wb)) (some (adr b)) (adr fb) (adr mb) w _ ⟨_,(f0.at (j:=0) rfl).cell,fun h=>?_,fun h=>?_⟩
  ·have hno:l.any isFrE=false:=by simpa using h
   intro w6 e6
   have x6:EF w w6:=by rw [e6];exact (Ext.refl w).drew
   obtain ⟨w10,r10,v10,x10⟩:=(v0.ext x6 id).put n
   refine ⟨some mp,((b0.ext x6 id).at (j:=0) rfl).cell,adr b,rfl,n,(hw.wk.trans (Wk.ofExt x6 fun _ _=>id)).nd hM hB (j:=0) rfl rfl,w10,r10,trivial,trivial,rfl,(x6.toM _).trans x10 fun b hb e=>.inr (.inr (.inr (.inr e))),?_,?_,(b0.ext x6 id).ext x10 hne.2.2.2.2.2.2.2.2.2,_,v10,fun k=>?_⟩
   ·exact Cnt.skip ((c0.ext x6 id id).ext x10 hne.2.2.2.1 hne.2.2.2.2.2.2.1) (by simp) hidle
   ·rw [any_spread]
    exact (f0.ext x6 id).ext x10 hne.2.2.2.2.2.2.2.2.1
   ·rw [used_spread n found pd hno,List.mem_append,List.mem_cons,h4 k,List.mem_singleton]
    exact Or.comm
  ·have hyes:l.any isFrE=true:=by simpa using h
   refine ⟨rfl,Ext.refl w,Cnt.skip c0 (by simp) hidle,by rw [any_spread];exact f0,b0,vs,v0,fun k=>?_⟩
   rw [used_spread' n found pd hyes]
   exact h4 k
 | _=>cases hk
theorem c_Un_2 (hVM:∀ b,UV ae cnt fb mb mp b->¬ c.M b)(hne:ae≠cnt/\ae≠fb/\ae≠mb/\ae≠mp/\cnt≠fb/\cnt≠mb/\cnt≠mp/\fb≠mb/\fb≠mp/\mb≠mp)(hc:StU ae cnt fb mb mp l w)(hw:Wst c cx co vm evs w)(hk:slot ev=2)(hn:evNode c cx w node ev):
  CP 107 #[.pointer (some (adr c.wb)),node,.pointer (some (adr fb)),.pointer (some (adr mb)),.pointer (some (adr ae))] w fun e w'=>e=.returned (.tuple #[])/\Ext (UV ae cnt fb mb mp) w w'/\StU ae cnt fb mb mp (l++[ev]) w':=by
 cases ev with
 | frag f=>
  obtain ⟨-, b,rfl,hp,-⟩:=hn
  obtain ⟨Af2,Lf2,Cf2,Af3,Lf3,Cf3,pos,hM,hB,-⟩:=hp
  obtain ⟨c0,f0,b0,vs,v0,h4⟩:=hc
  obtain ⟨n1,n2,n3,n4,n5,n6,n7,n8,n9,n10⟩:=hne
  have hs:Ext (fun b=>b=fb) w (w.setCell ⟨fb,0,none⟩ (.bool true)):=Ext.setCell (X:=fun b=>b=fb) (Ext.refl _) (a:=⟨fb,0,none⟩) (.inl rfl) _
  have fs:=f0.set 0 (.bool true)
  have hany:(l++[Ev.frag f]).any isFrE=true:=by simp [isFrE]
  refine q_rules_NoUnusedFragmentsRule_2 (some (adr c.wb)) (some (adr b)) (adr fb) (adr mb) (adr ae) w _ ⟨f0.off (j:=0) (n:=1) (q:=fun _=>false) (by simp) rfl,trivial,fun w7 e7=>?_⟩
  have x7:Ext (fun b=>b=fb) w w7:=by rw [e7];exact hs.trans ((Ext.refl _).drew (X:=fun _=>False)) fun _ _ e=>e.elim
  have f7:Blk w7 fb 4 [.bool true]:=by rw [e7];exact fs.ext ((Ext.refl _).drew (X:=fun _=>False)) id
  have c7:=c0.ext x7 n2 n5
  have b7:=b0.ext x7 n8.symm
  have v7:=v0.ext x7 n9.symm
  have k7:Wk c w w7:=Wk.ofExt x7 fun b hb e=>hVM b (.inr (.inr (.inl e))) hb
  obtain ⟨z,r,hz⟩:=v7.look f.name
  have fin:∀ w',Ext (fun k=>k=cnt∨k=ae) w7 w'->Cnt ae cnt (l++[Ev.frag f]).length (idleE (l++[.frag f])) w'->(.returned (.tuple #[]):Ending)=.returned (.tuple #[])/\Ext (UV ae cnt fb mb mp) w w'/\StU ae cnt fb mb mp (l++[.frag f]) w':=fun w' x' c'=>by
   refine ⟨rfl,(x7.mono fun _ _ e=>.inr (.inr (.inl e))).trans x' fun _ _ e=>e.elim .inl fun e=>.inr (.inl e),c',?_,b7.ext x' fun e=>?_,vs,v7.ext x' fun e=>?_,fun k=>by rw [used_frag];exact h4 k⟩
   ·rw [hany]
    exact f7.ext x' fun e=>e.elim (fun e=>n5 e.symm) fun e=>n2 e.symm
   ·exact e.elim (fun e=>n6 e.symm) fun e=>n3 e.symm
   ·exact e.elim (fun e=>n7 e.symm) fun e=>n4 e.symm
  refine ⟨some mp,(b7.at (j:=0) rfl).cell,adr b,rfl,f.name,(hw.wk.trans k7).nd hM hB (j:=1) rfl rfl,z,r,fun hz0=>?_,fun hz1=>?_⟩
  ·have hnot:f.name∉usedE l:=fun h=>by
    rw [hz.2 ((h4 _).2 h)] at hz0
    cases hz0
   intro w12 e12
   have x12:EF w7 w12:=by rw [e12];exact (Ext.refl w7).drew
   have c12:=c7.ext x12 id id
   have k12:=(hw.wk.trans k7).trans (Wk.ofExt x12 fun _ _=>id)
   have a12:=k12.at (a:=⟨b,7,none⟩) hM (hB.at (j:=7) rfl) rfl
   refine ⟨_,(c12.1.at (j:=0) rfl).cell,adr b,rfl,f.name,k12.nd hM hB (j:=1) rfl rfl,adr b,rfl,pos,a12.cell,trivial,?_⟩
   refine tell c12 a12 n1 ((Ext.refl w12).alloc _) rfl fun w' x' c'=>fin w' ((x12.toM _).trans x' fun _ _ e=>e) (Cnt.skip c' (by simp) ?_)
   exact ⟨fun _=>(idle_frag l f).2 (.inr hnot),fun _=>trivial⟩
  ·have hin:f.name∈usedE l:=(h4 _).1 (hz.1 (by simpa using hz1))
   refine fin w7 (Ext.refl w7) (Cnt.skip c7 (by simp) ?_)
   exact ⟨fun h=>(idle_frag l f).2 (.inl h),fun h=>((idle_frag l f).1 h).resolve_right fun k=>k hin⟩
 | _=>cases hk
end
theorem un_start {w w3 w4 w5 w6 w7 w8:World}{f:Value}(h3:w3=w.alloc (.cells #[f] 152))(h4:w4=w3.alloc (.cells #[.bool false] 4))(h5:w5=w4.setCell (adr w3.heap.size) (.bool false))(h6:w6=w5.alloc (.map #[] 0))(h7:w7=w6.alloc (.cells #[.map none] 153))(h8:w8=w7.setCell (adr w6.heap.size) (.map (some w5.heap.size))):
  Off w4 (adr w3.heap.size) 1 []/\Off w7 (adr w6.heap.size) 1 []/\EF w w8/\Blk w8 w.heap.size 152 [f]/\Blk w8 w3.heap.size 4 [.bool false]/\Blk w8 w6.heap.size 153 [.map (some w5.heap.size)]/\VM w8 w5.heap.size []/\w.heap.size<w3.heap.size/\w3.heap.size<w5.heap.size/\w5.heap.size<w6.heap.size/\w6.heap.size<w8.heap.size:=by
 subst h3
 have B3:=Blk.made w 152 [f]
 have x3:EF w (w.alloc (.cells #[f] 152)):=(Ext.refl w).alloc _
 replace B3:Blk (w.alloc (.cells #[f] 152)) w.heap.size 152 [f]:=B3
 generalize w.alloc (.cells #[f] 152)=w3 at *
 subst h4
 have B4:=Blk.made w3 4 [.bool false]
 have x4:EF w3 (w3.alloc (.cells #[.bool false] 4)):=(Ext.refl w3).alloc _
 replace B4:Blk (w3.alloc (.cells #[.bool false] 4)) w3.heap.size 4 [.bool false]:=B4
 generalize w3.alloc (.cells #[.bool false] 4)=w4 at *
 subst h5
 have B5:=B4.set 0 (.bool false)
 have x5:EF w3 (w4.setCell (adr w3.heap.size) (.bool false)):=Ext.setCell x4 (a:=⟨w3.heap.size,0,none⟩) (.inr (Nat.le_refl _)) _
 replace B5:Blk (w4.setCell (adr w3.heap.size) (.bool false)) w3.heap.size 4 [.bool false]:=B5
 generalize w4.setCell (adr w3.heap.size) (.bool false)=w5 at *
 subst h6
 have S6:=SMap.made w5
 have x6:EF w5 (w5.alloc (.map #[] 0)):=(Ext.refl w5).alloc _
 generalize w5.alloc (.map #[] 0)=w6 at *
 subst h7
 have B7:Blk (w6.alloc (.cells #[.map none] 153)) w6.heap.size 153 [.map none]:=Blk.made w6 153 [.map none]
 have x7:EF w6 (w6.alloc (.cells #[.map none] 153)):=(Ext.refl w6).alloc _
 generalize w6.alloc (.cells #[.map none] 153)=w7 at *
 subst h8
 have B8:=B7.set 0 (.map (some w5.heap.size))
 have x8:EF w6 (w7.setCell (adr w6.heap.size) (.map (some w5.heap.size))):=Ext.setCell x7 (a:=⟨w6.heap.size,0,none⟩) (.inr (Nat.le_refl _)) _
 have B8':Blk (w7.setCell (adr w6.heap.size) (.map (some w5.heap.size))) w6.heap.size 153 [.map (some w5.heap.size)]:=B8
 have x58:=x6.then x8
 exact ⟨B4.off (j:=0) (n:=1) (q:=inTs []) (by simp) rfl,B7.off (j:=0) (n:=1) (q:=inTs []) (by simp) rfl,(x3.then x5).then x58,((B3.ext x5 id).ext x58 id),B5.ext x58 id,B8',⟨[],S6.ext x8 id,fun k=>⟨fun h=>by simp at h,fun _=>rfl⟩⟩,B3.lt,B5.lt,S6.lt,B8'.lt⟩
def idleD (ops:List OpD)(frags:List Frag):Prop:=∃ f∈frags,∀ x∈ops,¬ Rch frags x.kids f.name
theorem rch_trans {fs:List Frag}{ks:List Sel}{g:Frag}{n:BA}(h1:Rch fs ks g.name)(h2:firstN Frag.name fs g.name=some g)(h:Rch fs g.kids n):Rch fs ks n:=by
 induction h with
 | base k1 k2=>exact .step h1 h2 k1 k2
 | step _ hf k1 k2 ih=>exact .step ih hf k1 k2
theorem rch_spread {c:WCtx}{cx:Option OpD}(okf:∀ f∈c.frags,okFrag f){ks:List Sel}(okk:okSels ks){pd:Option Def}{n:BA}(hi:isFr c.frags n=true):
  (∃ b pd',Ev.spread n b pd'∈evL c.types c.frags cx pd ks∨∃ m f,Rch c.frags ks m/\firstN Frag.name c.frags m=some f/\Ev.spread n b pd'∈evFr c.types c.frags cx f)↔Rch c.frags ks n:=by
 constructor
 ·rintro ⟨b,pd',h|⟨m,f,hr,hf,h⟩⟩
  ·exact .base (spread_in ks pd h).1 hi
  ·exact .step hr hf (spread_fr h).1 hi
 ·intro h
  cases h with
  | base h1 h2=>
   obtain ⟨pd',h⟩:=spread_of (tys:=c.types) (fs:=c.frags) (cx:=cx) ks pd okk h1
   exact ⟨_,pd',.inl h⟩
  | step hr hf h1 h2=>
   rename_i m f
   obtain ⟨pd',h⟩:=spread_of (tys:=c.types) (fs:=c.frags) (cx:=cx) f.kids (lastN Def.name c.types f.on) (okf f (firstN_mem hf).1).2.1 h1
   exact ⟨_,pd',.inr ⟨m,f,hr,hf,List.mem_append.2 (.inr h)⟩⟩
theorem spNm_mem {l:List Ev}{n:BA}:n∈l.flatMap spNm↔∃ b pd,Ev.spread n b pd∈l:=by
 rw [List.mem_flatMap]
 constructor
 ·rintro ⟨e,he,hn⟩
  cases e with
  | spread m b pd=>
   obtain rfl:n=m:=by simpa [spNm] using hn
   exact ⟨b,pd,he⟩
  | _=>simp [spNm] at hn
 ·rintro ⟨b,pd,h⟩
  exact ⟨_,h,by simp [spNm]⟩
theorem dop_spread {c:WCtx}{x:OpD}{n:BA}(okf:∀ f∈c.frags,okFrag f)(ok:okOp x)(hi:isFr c.frags n=true):(∃ b pd,DOp c x (.spread n b pd))↔Rch c.frags x.kids n:=by
 rw [<- rch_spread (cx:=some x) okf ok.2.2.2 (pd:=rootT c x.kind) hi]
 constructor
 ·rintro ⟨b,pd,h|⟨m,f,h1,h2,h3⟩⟩
  ·have:=(spread_op h).1
   obtain ⟨pd',h'⟩:=spread_of (tys:=c.types) (fs:=c.frags) (cx:=some x) x.kids (rootT c x.kind) ok.2.2.2 this
   exact ⟨_,pd',.inl h'⟩
  ·exact ⟨b,pd,.inr ⟨m,f,h1,h2,h3⟩⟩
 ·rintro ⟨b,pd,h|⟨m,f,h1,h2,h3⟩⟩
  ·refine ⟨b,pd,.inl ?_⟩
   unfold evOp
   exact List.mem_append.2 (.inr (List.mem_append.2 (.inr (List.mem_append.2 (.inl h)))))
  ·exact ⟨b,pd,.inr ⟨m,f,h1,h2,h3⟩⟩
theorem dfr_spread {c:WCtx}{y:Frag}{n:BA}(okf:∀ f∈c.frags,okFrag f)(hy:y∈c.frags)(hi:isFr c.frags n=true):(∃ b pd,DFr c y (.spread n b pd))↔Rch c.frags y.kids n:=by
 rw [<- rch_spread (cx:=none) okf (okf y hy).2.1 (pd:=lastN Def.name c.types y.on) hi]
 constructor
 ·rintro ⟨b,pd,h|⟨m,f,h1,h2,h3⟩⟩
  ·have:=(spread_fr h).1
   obtain ⟨pd',h'⟩:=spread_of (tys:=c.types) (fs:=c.frags) (cx:=none) y.kids (lastN Def.name c.types y.on) (okf y hy).2.1 this
   exact ⟨_,pd',.inl h'⟩
  ·exact ⟨b,pd,.inr ⟨m,f,h1,h2,h3⟩⟩
 ·rintro ⟨b,pd,h|⟨m,f,h1,h2,h3⟩⟩
  ·exact ⟨b,pd,.inl (List.mem_append.2 (.inr h))⟩
  ·exact ⟨b,pd,.inr ⟨m,f,h1,h2,h3⟩⟩
theorem seg_nofrag {c:WCtx}{ob:Obs}{ops:List OpD}{so:List (List Ev)}(h:F2 (SegO c ob) ops so):so.flatten.any isFrE=false:=by
 refine List.any_eq_false.2 fun e he=>?_
 obtain ⟨es,hes,he⟩:=List.mem_flatten.1 he
 obtain ⟨x,hx,hs⟩:=h.mem.2 es hes
 have:=(hs.only e he).1
 cases e with
 | frag f=>exact absurd this frag_dop
 | _=>simp [isFrE]
theorem idle_iff {c:WCtx}{ob:Obs}{l:List Ev}(okf:∀ f∈c.frags,okFrag f)(oko:∀ x∈c.ops,okOp x)(h2:ob.on 2=true)(h4:ob.on 4=true)(hnd:(c.frags.map Frag.name).Nodup)(hac:∀ f∈c.frags,¬ Rch c.frags f.kids f.name)(ht:Told c ob c.ops c.frags l):idleE l↔idleD c.ops c.frags:=by
 obtain ⟨so,sf,rfl,t1,t2⟩:=ht
 have hso:=seg_nofrag t1
 have hfr:∀ f:Frag,Ev.frag f∈so.flatten++sf.flatten↔f∈c.frags:=fun f=>by
  constructor
  ·intro h
   rcases List.mem_append.1 h with h|h
   ·exact absurd rfl (List.any_eq_false.1 hso _ h)
   ·obtain ⟨es,hes,he⟩:=List.mem_flatten.1 h
    obtain ⟨y,hy,hs⟩:=t2.mem.2 es hes
    obtain ⟨es0,rfl,ho,-⟩:=hs.ends
    rcases List.mem_append.1 he with he|he
    ·exact absurd (ho _ he).1 frag_dfr
    ·unfold em at he
     split at he
     ·obtain rfl:f=y:=by simpa using he
      exact hy
     ·simp at he
  ·intro h
   obtain ⟨es,hes,hs⟩:=t2.mem.1 f h
   obtain ⟨es0,rfl,-, -⟩:=hs.ends
   refine List.mem_append.2 (.inr (List.mem_flatten.2 ⟨_,hes,List.mem_append.2 (.inr ?_)⟩))
   rw [em,if_pos (by exact h2)]
   simp
 have hop:∀ n,isFr c.frags n=true->(n∈so.flatten.flatMap spNm↔∃ x∈c.ops,Rch c.frags x.kids n):=fun n hi=>by
  rw [spNm_mem]
  constructor
  ·rintro ⟨b,pd,h⟩
   obtain ⟨es,hes,he⟩:=List.mem_flatten.1 h
   obtain ⟨x,hx,hs⟩:=t1.mem.2 es hes
   exact ⟨x,hx,(dop_spread okf (oko x hx) hi).1 ⟨b,pd,(hs.only _ he).1⟩⟩
  ·rintro ⟨x,hx,hr⟩
   obtain ⟨b,pd,hd⟩:=(dop_spread okf (oko x hx) hi).2 hr
   obtain ⟨es,hes,hs⟩:=t1.mem.1 x hx
   exact ⟨b,pd,List.mem_flatten.2 ⟨es,hes,hs.all _ hd h4⟩⟩
 have hself:∀ f∈c.frags,isFr c.frags f.name=true:=fun f hf=>isFr_of ⟨f,hf,rfl⟩
 have hfirst:∀ f∈c.frags,firstN Frag.name c.frags f.name=some f:=fun f hf=>by
  obtain ⟨g,hg⟩:=isFr_iff.1 (hself f hf)
  obtain ⟨hgm,hgn⟩:=firstN_mem hg
  rw [hg,nodup_map_inj hnd hgm hf hgn]
 generalize hF:c.frags=F at t2
 cases t2 with
 | nil=>
  constructor
  ·rintro ⟨f,hf,-⟩
   have:=(hfr f).1 hf
   rw [hF] at this
   simp at this
  ·rintro ⟨f,hf,-⟩
   simp at hf
 | @cons y1 es1 ys ess g1 g2=>
  have hy1:y1∈c.frags:=by rw [hF];simp
  obtain ⟨es0,rfl,ho,ha⟩:=g1.ends
  have hes0:es0.any isFrE=false:=List.any_eq_false.2 fun e he=>by
   have:=(ho e he).1
   cases e with
   | frag f=>exact absurd this frag_dfr
   | _=>simp [isFrE]
  have hused:usedE (so.flatten++((es0++em ob (.frag y1))::ess).flatten)=so.flatten.flatMap spNm++es0.flatMap spNm:=by
   unfold usedE
   rw [pre_none _ _ hso,List.flatten_cons,List.append_assoc es0,pre_none _ _ hes0]
   have:preE (em ob (.frag y1)++ess.flatten)=[]:=by
    rw [em,if_pos (by exact h2)]
    simp [preE,isFrE]
   rw [this,List.append_nil,List.flatMap_append]
  have hin:∀ n,isFr c.frags n=true->(n∈usedE (so.flatten++((es0++em ob (.frag y1))::ess).flatten)↔(∃ x∈c.ops,Rch c.frags x.kids n)∨Rch c.frags y1.kids n):=fun n hi=>by
   rw [hused,List.mem_append,hop n hi,spNm_mem,<- dfr_spread okf hy1 hi]
   refine or_congr_right ⟨?_,?_⟩
   ·rintro ⟨b,pd,h⟩
    exact ⟨b,pd,(ho _ h).1⟩
   ·rintro ⟨b,pd,h⟩
    exact ⟨b,pd,ha _ h h4⟩
  constructor
  ·rintro ⟨f,hf,hn⟩
   have hfm:=(hfr f).1 hf
   exact ⟨f,hF▸hfm,fun x hx hr=>hn ((hin _ (hself f hfm)).2 (.inl ⟨x,hx,hF▸hr⟩))⟩
  ·rintro ⟨f,hf,hr⟩
   rw [<- hF] at hf
   by_cases h1:∃ x∈c.ops,Rch c.frags x.kids y1.name
   ·refine ⟨f,(hfr f).2 hf,fun hn=>?_⟩
    rcases (hin _ (hself f hf)).1 hn with ⟨x,hx,h⟩|h
    ·exact hr x hx (hF▸h)
    ·obtain ⟨x,hx,hx1⟩:=h1
     exact hr x hx (hF▸rch_trans hx1 (hfirst y1 hy1) h)
   ·refine ⟨y1,(hfr y1).2 hy1,fun hn=>?_⟩
    rcases (hin _ (hself y1 hy1)).1 hn with h|h
    ·exact h1 h
    ·exact hac y1 hy1 h
theorem c_FragIdle {a:OA}{l c:Nat}{a':OA}{l' c':Nat}{ops:List OpD}{frags:List Frag}{w:World}(hl:ROps w a l c ops)(hl':RFrags w a' l' c' frags)(ok1:∀ x∈ops,okOp x)(okf:∀ f∈frags,okFrag f)(h12:ops.length<=12)(h12':frags.length<=12)(hs:spTot ops frags<=2097152):
  CP 19 #[.agg #[.slice a l c,.slice a' l' c']] w (RetB w fun b=>b=true↔idleD ops frags):=by
 obtain ⟨e1,e3⟩:=hl.len
 obtain ⟨e1',e3'⟩:=hl'.len
 have hs2:(frags.map fun f=>(spL f.kids).length).sum<=2097152:=Nat.le_trans (Nat.le_add_left _ _) hs
 have hx0:=(Ext.refl (X:=fun _=>False) w).alloc (.cells #[.slice a l c,.slice a' l' c'] 30)
 refine q_FragIdle a l c a' l' c' w _ ⟨trivial,fun A L C i w1=>0<=i/\i<=l/\EF w w1/\∃ O:List BA,Qs w.heap.size w1 A L C O/\O.length<=i.toNat*12/\∀ n,n∈O↔∃ x∈ops.take i.toNat,Rch frags x.kids n,fun _ _ _ i _=>((l:Int)-i).toNat,⟨by omega,by omega,hx0,[],Qs.nil _ _,by simp,by simp⟩,?_⟩
 rintro A L C i w1 ⟨h0,hi,hx,O,qO,hlen,hO⟩
 refine ⟨fun hlt=>?_,fun hge=>?_⟩
 ·have hlt:=odt hlt
  obtain ⟨p,x,hp,hxs,cs,hc,a1,l1,c1,a2,l2,c2,a3,l3,c3,rfl,hv1,hv2,hv3⟩:=hl.get h0 hlt
  obtain ⟨⟨_,_,hc0⟩,hs0,⟨_,_,hc1⟩,hs1,⟨_,_,hc2⟩,hs2',⟨_,_,hc3⟩,hs3,⟨_,_,hc4⟩,-⟩:=hc
  have hmem:=List.mem_of_getElem? hxs
  refine ⟨p,hp,⟨h0,hlt⟩,_,hx.cell hc0 id,_,hx.cell hc1 id,_,_,_,hx.cell hc2 id,_,_,_,hx.cell hc3 id,_,_,_,hx.cell hc4 id,trivial,trivial,?_⟩
  have hy16:EF w1 (w1.alloc (.cells #[.string x.kind,.string x.name,.slice a1 l1 c1,.slice a2 l2 c2,.slice a3 l3 c3] 51)):=(Ext.refl w1).alloc _
  have hx16:=hx.then hy16
  have hsx:(spL x.kids).length<=2097152:=Nat.le_trans (Nat.le_trans (le_sum (fun x:OpD=>(spL x.kids).length) hmem) (Nat.le_add_right _ _)) hs
  refine (c_reached (hl'.keep hx16.keep) (hv3.keep hx16.keep) (ok1 x hmem).2.2.2 okf hsx hs2).mono ?_
  rintro _ w18 ⟨A2,L2,C2,xs,rfl,x18,q18,hxs18,hlen18⟩
  have y18:=hx16.then x18
  have hL:=q18.1
  have hOl:=qO.1
  have q1:=(qO.keep hy16 fun _ _=>id).keep x18 fun _ _=>id
  obtain ⟨A3,C3,w21,r21,q21,x21,k21,-⟩:=q1.more y18.size q18 (by omega)
  refine ⟨A2,L2,C2,rfl,⟨x18.keepT _,x18.keepT _,trivial⟩,A3,L+L2,C3,w21,r21,⟨k21 _ (by decide),k21 _ (by decide),trivial⟩,?_⟩
  rw [wrap_lt h0 (by omega)]
  refine next h0 hlt ⟨y18.trans x21 fun b hb hbl=>?_,O++xs,q21,?_,fun n=>?_⟩
  ·have:=(q1.base b hbl).1
   omega
  ·rw [List.length_append]
   omega
  ·rw [show (i+1).toNat=i.toNat+1 by omega,List.take_add_one,hxs,List.mem_append,hO n,hxs18 n]
   constructor
   ·rintro (⟨y,hy,h⟩|h)
    ·exact ⟨y,List.mem_append.2 (.inl hy),h⟩
    ·exact ⟨x,by simp,h⟩
   ·rintro ⟨y,hy,h⟩
    rcases List.mem_append.1 hy with hy|hy
    ·exact .inl ⟨y,hy,h⟩
    ·obtain rfl:y=x:=by simpa using hy
     exact .inr h
 ·have hle:=odf hge
  rw [List.take_of_length_le (by omega)] at hO
  have hOl:=qO.1
  refine ⟨fun j w2=>0<=j/\j<=l'/\EF w1 w2/\∀ f∈frags.take j.toNat,f.name∈O,fun j _=>((l':Int)-j).toNat,⟨by omega,by omega,Ext.refl w1,by simp⟩,?_⟩
  rintro j w2 ⟨j0,hj,hy,hn⟩
  refine ⟨fun hlt=>?_,fun hge=>?_⟩
  ·have hlt:=odt hlt
   obtain ⟨p,x,hp,hxs,cs,hc,a2,l2,c2,a3,l3,c3,rfl,hv2,hv3⟩:=hl'.get j0 hlt
   obtain ⟨⟨_,_,hc0⟩,hs0,⟨_,_,hc1⟩,hs1,⟨_,_,hc2⟩,hs2',⟨_,_,hc3⟩,-⟩:=hc
   have hmem:=List.mem_of_getElem? hxs
   have hxy:=hx.then hy
   have y32:EF w1 (w2.alloc (.cells #[.string x.name,.string x.on,.slice a2 l2 c2,.slice a3 l3 c3] 63)):=hy.alloc _
   refine ⟨p,hp,⟨j0,hlt⟩,_,hxy.cell hc0 id,_,hxy.cell hc1 id,_,_,_,hxy.cell hc2 id,_,_,_,hxy.cell hc3 id,trivial,trivial,?_⟩
   refine (c_in x.name ((qO.keep y32 fun _ _=>id).sl (by omega))).mono ?_
   rintro _ w34 ⟨b35,rfl,x34,hb⟩
   have y34:=y32.then x34
   refine ⟨b35,rfl,⟨x34.keepT _,x34.keepT _,trivial⟩,fun h=>?_,fun h=>?_⟩
   ·refine ⟨true,rfl,hx.then y34,fun _=>⟨x,hmem,fun y hy' hr=>?_⟩,fun _=>rfl⟩
    rw [hb.2 ((hO _).2 ⟨y,hy',hr⟩)] at h
    cases h
   ·rw [wrap_lt j0 (by omega)]
    exact next j0 hlt ⟨y34,take_all_int j0 hn hxs (hb.1 (by simpa using h))⟩
  ·have hall:=take_end e1' hge hn
   refine ⟨false,rfl,hx.then hy,nofun,fun ⟨f,hf,hr⟩=>?_⟩
   obtain ⟨x,hx',h⟩:=(hO _).1 (hall f hf)
   exact absurd h (hr x hx')
theorem unRule (types:List Def)(dirs:List DirDef)(defs:List SchemaDef)(ops:List OpD)(frags:List Frag)(hO:OkSchema types dirs defs)(h12:ops.length<=12)(h12':frags.length<=12)(ok1:∀ x∈ops,okOp x)(ok2:∀ x∈frags,okFrag x)(hs:docW ops frags<=2097152)(hS:SoundD types (rootsOf types defs) ops frags):
  RuleOK 50 (wideD types dirs (rootsOf types defs)) ops frags fun n=>0<=n/\(n>0↔idleD ops frags):=by
 refine ⟨⟨_,Tryz.func50,by kernel_rfl⟩,?_⟩
 intro c cnt hops hfrags hwd hb hB hcnt hne hMc hMe
 subst hops
 subst hfrags
 obtain ⟨rf,hrf⟩:=acyclic_rf hS.ac
 refine q_rules_NoUnusedFragmentsRule (some (adr c.eb)) _ c.w0 _ ⟨⟨rfl,trivial⟩,?_⟩
 intro w3
 refine ⟨trivial,?_⟩
 intro w4
 have key:=fun w5 w6 w7 w8=>un_start (w:=c.w0) (w3:=w3) (w4:=w4) (w5:=w5) (w6:=w6) (w7:=w7) (w8:=w8) (f:=.func (.func 102) #[] #[.pointer (some (adr cnt))]) rfl rfl
 obtain ⟨off4,off7,x8,Bae,Bfb,Bmb,vm8,z1,z2,z3,z4⟩:=key _ _ _ _ rfl rfl rfl rfl
 refine ⟨off4,trivial,?_⟩
 intro w5 w6
 refine ⟨trivial,?_⟩
 intro w7
 refine ⟨off7,trivial,?_⟩
 intro w8
 have hlc:=hcnt.lt
 have hle:=hB.lt
 replace x8:EF c.w0 w8:=x8
 replace Bae:Blk w8 c.w0.heap.size 152 [.func (.func 102) #[] #[.pointer (some (adr cnt))]]:=Bae
 replace Bfb:Blk w8 w3.heap.size 4 [.bool false]:=Bfb
 replace Bmb:Blk w8 w6.heap.size 153 [.map (some w5.heap.size)]:=Bmb
 replace vm8:VM w8 w5.heap.size []:=vm8
 replace z1:c.w0.heap.size<w3.heap.size:=z1
 replace z2:w3.heap.size<w5.heap.size:=z2
 replace z3:w5.heap.size<w6.heap.size:=z3
 replace z4:w6.heap.size<w8.heap.size:=z4
 clear key off4 off7
 clear_value w8
 clear_value w7
 clear_value w6
 clear_value w5
 clear_value w4
 clear_value w3
 obtain ⟨ae,hae⟩:∃ ae,ae=c.w0.heap.size:=⟨_,rfl⟩
 obtain ⟨fb,hfb⟩:∃ fb,fb=w3.heap.size:=⟨_,rfl⟩
 obtain ⟨mb,hmb⟩:∃ mb,mb=w6.heap.size:=⟨_,rfl⟩
 obtain ⟨mp,hmp⟩:∃ mp,mp=w5.heap.size:=⟨_,rfl⟩
 rw [<- hae] at Bae
 rw [<- hfb] at Bfb
 rw [<- hmb,<- hmp] at Bmb
 rw [<- hmp] at vm8
 rw [<- hae,<- hfb,<- hmb]
 refine (c_core_Events_OnFragmentSpread (f:=.func (.func 105) #[] #[.pointer (some (adr fb)),.pointer (some (adr mb))]) rfl (hB.ext x8 id) rfl).mono ?_
 rintro _ w10 ⟨rfl,p,C,B10,ap10,hpb,x10⟩
 refine ⟨rfl,trivial,?_⟩
 refine (c_core_Events_OnFragment (f:=.func (.func 107) #[] #[.pointer (some (adr fb)),.pointer (some (adr mb)),.pointer (some (adr ae))]) rfl B10 rfl).mono ?_
 rintro _ w12 ⟨rfl,p2,C2,B12,ap2,hpb2,x12⟩
 have x8':Ext (fun b=>b=c.eb) w8 w12:=x10.trans x12 fun _ _ e=>e
 have hz10:=x10.size
 have hz12:=x12.size
 have ap:At w12 _ p _:=x12.at (by show ¬ p.block=c.eb;omega) ap10
 have y12:Ext (fun b=>b=c.eb) c.w0 w12:=(x8.toM _).trans x8' fun _ _ e=>e
 have nae:¬ ae=c.eb:=by omega
 have nfb:¬ fb=c.eb:=by omega
 have nmb:¬ mb=c.eb:=by omega
 have nmp:¬ mp=c.eb:=by omega
 have Bae':=Bae.ext x8' nae
 have Bfb':=Bfb.ext x8' nfb
 have Bmb':=Bmb.ext x8' nmb
 have vm':=vm8.ext x8' nmp
 have Bc':=hcnt.ext y12 hne
 have hneq:ae≠cnt/\ae≠fb/\ae≠mb/\ae≠mp/\cnt≠fb/\cnt≠mb/\cnt≠mp/\fb≠mb/\fb≠mp/\mb≠mp:=by omega
 have hVM:∀ b,UV ae cnt fb mb mp b->¬ c.M b:=fun b hV hM=>by
  have:=hb.m b hM
  rcases hV with rfl|hV
  ·exact hMc hM
  ·omega
 refine ⟨rfl,trivial,rfl,y12,UV ae cnt fb mb mp,StU ae cnt fb mb mp,obL [(4,p,C),(2,p2,C2)],rf,?_,fun b hb'=>?_,fun b hb' T cs fr ho=>?_,fun l w'' hl ht=>?_⟩
 ·refine rule_one hb hrf hMe y12 (fun b hb'=>?_) hlc hne hMc hle (fun l w w'' h hx=>h.ext hx fun b hb k=>k hb) ⟨Cnt.zero Bae' Bc' (no_frag rfl),Bfb',Bmb',[],vm',by simp [usedE,preE]⟩ B12 fun b5 wb fm fl j=>vis_all (fun x hx=>?_) j
  ·rcases hb' with rfl|hb'
   ·exact .inl rfl
   ·exact .inr (by omega)
  simp only [List.mem_cons,List.not_mem_nil,or_false] at hx
  rcases hx with rfl|rfl
  ·refine ⟨_,_,[.pointer (some (adr fb)),.pointer (some (adr mb))],_,ap,fun h=>?_,fun h=>?_,Tryz.func105,by kernel_rfl,fun l w1 cx co vm evs node ev hl hw hk hn=>c_Un_1 hneq hl hw hk hn⟩
   ·have:p.block<c.w0.heap.size:=hb.m _ h
    omega
   ·have:UV ae cnt fb mb mp p.block:=h
    rcases this with h|h|h|h|h<;>omega
  ·refine ⟨_,_,[.pointer (some (adr fb)),.pointer (some (adr mb)),.pointer (some (adr ae))],_,ap2,fun h=>?_,fun h=>?_,Tryz.func107,by kernel_rfl,fun l w1 cx co vm evs node ev hl hw hk hn=>c_Un_2 hVM hneq hl hw hk hn⟩
   ·have:p2.block<c.w0.heap.size:=hb.m _ h
    omega
   ·have:UV ae cnt fb mb mp p2.block:=h
    rcases this with h|h|h|h|h<;>omega
 ·rcases hb' with rfl|hb'
  ·exact .inr (Nat.le_refl _)
  ·exact .inr (by omega)
 ·rcases hb' with rfl|rfl|rfl|rfl|rfl
  ·rw [Bc'.type ho];decide
  ·rw [Bae'.type ho];decide
  ·rw [Bfb'.type ho];decide
  ·rw [Bmb'.type ho];decide
  ·obtain ⟨m,⟨ents,cl,h1,-⟩,-⟩:=vm'
   rw [h1] at ho
   cases ho
 ·obtain ⟨⟨-, n,hn,hk⟩,-⟩:=hl
  have hsm:=spN_few (c:={ c with V:=UV ae cnt fb mb mp,St:=StU ae cnt fb mb mp,w0:=w12,rf:=rf}) (ob:=obL [(4,p,C),(2,p2,C2)]) h12 h12' hs
  obtain ⟨k1,k2,k3⟩:=hk (Nat.le_trans (Nat.le_trans ht.few hsm) (by decide))
  exact ⟨n,hn,k1,k3.trans (idle_iff (c:={ c with V:=UV ae cnt fb mb mp,St:=StU ae cnt fb mb mp,w0:=w12,rf:=rf}) ok2 ok1 rfl rfl hS.fr hS.ac ht)⟩
theorem c_impl_RNoUnusedFragments {P:Int->Prop}{wd:WorldD}{a1:OA}{l1 c1:Nat}{a2:OA}{l2 c2:Nat}{a6:OA}{l6 c6:Nat}{a7:OA}{l7 c7:Nat}{q8:OA}{q8l q8c:Nat}{q9:OA}{q9l q9c:Nat}{ops:List OpD}{frags:List Frag}{w:World}
  (hw:RWorld w wd [.slice a1 l1 c1,.slice a2 l2 c2,.string wd.query,.string wd.mutation,.string wd.subscription,.slice a6 l6 c6,.slice a7 l7 c7]) (ok3:∀ x∈wd.dirs,∀ y∈x.args,okArgDef y) (ok4:∀ x∈wd.types,okDef x)
  (few6:(pushD wd.types wd.possible).length<=4194304) (few7:(pushD wd.types wd.implements).length<=4194304) (hl1:ROps w q8 q8l q8c ops) (hl2:RFrags w q9 q9l q9c frags) (ok1:∀ x∈ops,okOp x) (ok2:∀ x∈frags,okFrag x) (hr:RuleOK 50 wd ops frags P) (hB0:DB.B<=w.heap.size):
  CP 16 #[.agg #[.slice a1 l1 c1,.slice a2 l2 c2,.string wd.query,.string wd.mutation,.string wd.subscription,.slice a6 l6 c6,.slice a7 l7 c7],.agg #[.slice q8 q8l q8c,.slice q9 q9l q9c]] w fun e w'=>
   ∃ n,e=.returned (.tuple #[.int .i64 n,.bool true])/\P n/\EF w w':=by
 have x11:EF w (w.alloc (.cells #[.slice a1 l1 c1,.slice a2 l2 c2,.string wd.query,.string wd.mutation,.string wd.subscription,.slice a6 l6 c6,.slice a7 l7 c7] 40)):=(Ext.refl w).alloc _
 have x12:=x11.alloc (.cells #[.slice q8 q8l q8c,.slice q9 q9l q9c] 30)
 refine q_impl_RNoUnusedFragments a1 l1 c1 a2 l2 c2 wd.query wd.mutation wd.subscription a6 l6 c6 a7 l7 c7 q8 q8l q8c q9 q9l q9c w _ ⟨trivial,trivial,?_⟩
 refine (c_impl_found (RWorld.keep x12.keep hw) ok3 ok4 few6 few7 (hl1.keep x12.keep) (hl2.keep x12.keep) ok1 ok2 hr (Nat.le_trans hB0 x12.size)).mono ?_
 rintro _ w' ⟨n,rfl,hp,hx⟩
 exact ⟨n,true,rfl,⟨hx.keepT _,hx.keepT _,trivial⟩,n,rfl,hp,x12.then hx⟩
theorem c_FnRuleFragUsed
  {d1:OA} {d1l d1c:Nat} {d2:OA} {d2l d2c:Nat} {d3:OA} {d3l d3c:Nat} {d4:OA} {d4l d4c:Nat} {d5:OA} {d5l d5c:Nat} {q6:OA} {q6l q6c:Nat} {q7:OA} {q7l q7c:Nat} {defs exts:List SchemaDef} {dirs:List DirDef} {types texts:List Def} {ops:List OpD} {frags:List Frag} {w:World}
  (h1:RSchemaDefs w d1 d1l d1c defs) (h2:RSchemaDefs w d2 d2l d2c exts) (h3:RDirDefs w d3 d3l d3c dirs) (h4:RDefs w d4 d4l d4c types) (h5:RDefs w d5 d5l d5c texts) (hs:d1l+d2l<=4194304) (hsp:docW ops frags<=2097152) (h6:ROps w q6 q6l q6c ops) (h7:RFrags w q7 q7l q7c frags) (hB0:DB.B<=w.heap.size):
  CP 3 #[.agg #[.slice d1 d1l d1c,.slice d2 d2l d2c,.slice d3 d3l d3c,.slice d4 d4l d4c,.slice d5 d5l d5c],.agg #[.slice q6 q6l q6c,.slice q7 q7l q7c]] w fun e w'=>e=.returned (.bool true)/\EF w w':=by
 have x8:EF w (w.alloc (.cells #[.slice d1 d1l d1c,.slice d2 d2l d2c,.slice d3 d3l d3c,.slice d4 d4l d4c,.slice d5 d5l d5c] 26)):=(Ext.refl w).alloc _
 have x9:=x8.alloc (.cells #[.slice q6 q6l q6c,.slice q7 q7l q7c] 30)
 refine q_laws_FnRuleFragUsed d1 d1l d1c d2 d2l d2c d3 d3l d3c d4 d4l d4c d5 d5l d5c q6 q6l q6c q7 q7l q7c w _ ⟨trivial,trivial,fun K10 hK10=>?_⟩
 have key10:∀ b w',EF w w'->K10 b w':=by
  intro b w' xw
  refine hK10 b w' ⟨fun _=>⟨rfl,xw⟩,fun _=>?_⟩
  refine (c_Build (h1.keep xw.keep) (h2.keep xw.keep) (h3.keep xw.keep) (h4.keep xw.keep) (h5.keep xw.keep) hs (Nat.le_trans hB0 xw.size)).mono ?_
  rintro _ w14 ⟨q15,b16,rfl,x14,hok⟩
  refine ⟨q15,b16,rfl,⟨x14.keepT _,x14.keepT _,trivial⟩,fun K17 hK17=>?_⟩
  have y14:=xw.then x14
  have key17:∀ b w',EF w14 w'->(b=false->b16=true/\ops.length<=12/\frags.length<=12/\(∀ x∈ops,okOp x)/\(∀ x∈frags,okFrag x)/\SoundD types (rootsOf types defs) ops frags)->K17 b w':=by
   intro b w19 x19 hb
   have y19:=y14.then x19
   refine hK17 b w19 ⟨fun _=>⟨rfl,y19⟩,fun hbf=>?_⟩
   obtain ⟨hb16,n1,n2,ok1,ok2,hS⟩:=hb hbf
   obtain ⟨k,rfl,A,L,C,hB,hR,hO⟩:=hok hb16
   intro w20 e20
   have x20:EF w19 w20:=by rw [e20];exact (Ext.refl w19).drew
   have y20:=y19.then x20
   have z20:=x19.then x20
   refine (c_World_Wide (hB.ext z20 id) (h4.keep y20.keep) (hR.keep z20.keep) (h3.keep y20.keep) hO.few.1 (fun t ht=>by have:=hO.small t ht;omega) hO.few.2 (Nat.le_trans hB0 y20.size)).mono ?_
   rintro _ w22 ⟨cs,rfl,hW,x22⟩
   obtain ⟨ok3,ok4,few6,few7⟩:=wide_ok hO
   have hW':=hW
   obtain ⟨a1,l1,c1,a2,l2,c2,a6,l6,c6,a7,l7,c7,rfl,-⟩:=hW'
   have y22:=y20.then x22
   refine ⟨a1,l1,c1,a2,l2,c2,_,_,_,a6,l6,c6,a7,l7,c7,rfl,⟨x22.keepT _,x22.keepT _,trivial⟩,⟨rfl,trivial⟩,?_⟩
   refine (c_impl_RNoUnusedFragments hW ok3 ok4 few6 few7 (h6.keep y22.keep) (h7.keep y22.keep) ok1 ok2 (unRule types dirs defs ops frags hO n1 n2 ok1 ok2 hsp hS) (Nat.le_trans hB0 y22.size)).mono ?_
   rintro _ w31 ⟨n,rfl,⟨hn0,hn⟩,x31⟩
   have y31:=y22.then x31
   refine ⟨n,true,rfl,⟨x31.keepT _,x31.keepT _,trivial⟩,trivial,trivial,trivial,?_⟩
   have z31:=(z20.then x22).then x31
   refine (c_FragIdle (h6.keep y31.keep) (h7.keep y31.keep) ok1 ok2 n1 n2 (Nat.le_trans (spTot_le _ _) (Nat.le_trans (selTot_W _ _) hsp))).mono ?_
   rintro _ w35 ⟨b36,rfl,x35,hb36⟩
   have y35:=y31.then x35
   refine ⟨b36,rfl,⟨x35.keepT _,x35.keepT _,trivial⟩,?_⟩
   refine (c_laws_told n true b36 w35).mono ?_
   rintro _ w38 ⟨rfl,rfl⟩
   refine ⟨_,rfl,⟨(Ext.refl _).keepT _,(Ext.refl _).keepT _,trivial⟩,?_,y35⟩
   rw [told_true hn0 (hn.trans hb36.symm)]
  refine ⟨fun hb=>?_,fun hb=>key17 true w14 (Ext.refl w14) nofun⟩
  refine (c_Small (h6.keep y14.keep) (h7.keep y14.keep)).mono ?_
  rintro _ w41 ⟨b42,rfl,x41,hsm⟩
  have y41:=y14.then x41
  refine ⟨b42,rfl,⟨x41.keepT _,x41.keepT _,trivial⟩,fun h42=>?_,fun _=>key17 true w41 x41 nofun⟩
  obtain ⟨n1,n2,ok1,ok2⟩:=hsm (by simpa using h42)
  obtain ⟨k,rfl,A,L,C,hB,hR,hO⟩:=hok (by simpa using hb)
  refine (c_World_Sound (hB.ext x41 id) (h4.keep y41.keep) (hR.keep x41.keep) (h6.keep y41.keep) (h7.keep y41.keep) ok1 ok2 n2 hsp).mono ?_
  rintro _ w53 ⟨b54,rfl,x53,hS⟩
  have z53:=x41.then x53
  have y53:=y41.then x53
  exact ⟨b54,rfl,⟨x53.keepT _,x53.keepT _,trivial⟩,key17 _ w53 z53 fun h=>⟨by simpa using hb,n1,n2,ok1,ok2,hS (by simpa using h)⟩⟩
 refine (c_laws_zzFits20 d1 d1l d1c d2 d2l d2c d3 d3l d3c d4 d4l d4c d5 d5l d5c _).mono ?_
 rintro _ w44 ⟨b45,rfl,x44,-⟩
 have y44:=x9.then x44
 refine ⟨b45,rfl,⟨x44.keepT _,x44.keepT _,trivial⟩,fun _=>?_,fun _=>key10 true w44 y44⟩
 refine (c_laws_zzFits21 q6 q6l q6c q7 q7l q7c _).mono ?_
 rintro _ w47 ⟨b48,rfl,x47,-⟩
 exact ⟨b48,rfl,⟨x47.keepT _,x47.keepT _,trivial⟩,key10 _ w47 (y44.then x47)⟩
end Go.VC
