/- Part of the proof of a law of a rule over documents (NfA), where what the arguments hold is of bulk at most 1048576. -/
import Derived.Test.YtimdonbcgiakgaaGreatBaseB
import Derived.Test.YtimdonbcgiakgaaGreatWalkD
import Derived.Test.YtimdonbcgiakgaaGreatReadA
import Derived.Test.YtimdonbcgiakgaaGreatSpecE
import Derived.Test.YtimdonbcgiakgaaGreatWalkC
import Derived.Test.YtimdonbcgiakgaaGreatLawA
set_option linter.unusedVariables false
set_option linter.unusedSectionVars false
namespace Go.VC
open Go Go.Proofs
set_option maxRecDepth 100000
theorem p_s (a:OA)(b:Value)(w:World)(R:EW)(h:
 C0 115 #[.pointer a,b,.bool false] w (fun c=>True/\R (.returned (.tuple #[])) c)):CP 63 #[.pointer a,b] w R:=
 vcq Tryz.func63 [] [] [.l (.optr a),.l (.val b)] h
theorem p_r (a:OA)(b:Value)(c:Bool)(w:World)(R:EW)(h:
 (b.oneCell'=true/\True)/\(let d:=w.alloc (.cells #[b] 152);
 C0 118 #[.pointer a,(.func (.func 169) #[] #[(.pointer (some (adr w.heap.size)))])] d (fun e=>True/\R (.returned (.tuple #[])) e))):CP 115 #[.pointer a,b,.bool c] w R:=
 vcq Tryz.func115 [] [] [.l (.optr a),.l (.val b),.l (.bool c)] h
theorem p_q (a:OA)(b:OA)(c:Addr)(w:World)(R:EW)(h:
 ∀ d:Bool->World->Prop,(∀ e:Bool,∀ f:World,
 ((Br e (R (.returned (.tuple #[])) f) (∀ g,g=f.drew->Lv g c fun i=>Pt b fun j=>Lp g (j.add 5) fun k=>CP 108 #[(.string (⟨#[67,97,110,110,111,116,32,113,117,101,114,121,32,116,104,105,115,32,102,105,101,108,100,32,111,110,32,116,104,105,115,32,116,121,112,101,46]⟩:BA)),.slice none 0 0] g (fun l m=>∃ n:Value,l=.returned n/\True/\((m.cell? (j.add 5)=g.cell? (j.add 5))/\(m.cell? c=g.cell? c)/\True)/\CP 109 #[.pointer k] m (fun o p=>∃ q:Value,o=.returned q/\True/\((p.cell? c=m.cell? c)/\True)/\(n.oneCell'=true/\q.oneCell'=true/\True)/\(let r:=p.alloc (.cells #[n,q] 174);
 ((r.cell? c=p.cell? c)/\True)/\∃ s t,i=.func (.func s) #[] t.toArray/\∃ u,Tryz.prog.funcs[s]? =some u/\(u.name== "runtime.NumGoroutine" ||u.body.isNone)=false/\CP s ([(.slice (some (adr p.heap.size)) 2 2)]++t).toArray r (fun v x=>v=.returned (.tuple #[])/\True/\True/\R (.returned (.tuple #[])) x)))))))->
 d e f)->
 Pt b fun y=>Lp w (y.add 8) fun z=>(Nr (z.isNone) (Pt b fun A=>Lp w (A.add 7) fun B=>d (!B.isNone) w) (d true w))):CP 169 #[.pointer a,.pointer b,(.pointer (some c))] w R:=
 vcq Tryz.func169 [] [(1,⟨[(16,.bool)],[]⟩)] [.l (.optr a),.l (.optr b),.l (.ptr c)] h
theorem p_u (a:OA)(b c:Nat)(d:OA)(e f:Nat)(g:BA)(i:BA)(j:BA)(k:OA)(l m:Nat)(n:OA)(o p:Nat)(q:OA)(r s:Nat)(t:OA)(u v:Nat)(w:World)(R:EW)(h:
 True/\(let x:=w.alloc (.cells #[.slice a b c,.slice d e f,.string g,.string i,.string j,.slice k l m,.slice n o p] 40);
 True/\(let y:=x.alloc (.cells #[.slice q r s,.slice t u v] 30);
 CP 49 #[(.agg #[.slice a b c,.slice d e f,.string g,.string i,.string j,.slice k l m,.slice n o p]),(.agg #[.slice q r s,.slice t u v]),(.func (.func 63) #[] #[])] y (fun z A=>∃ B,∃ C,z=.returned (.tuple #[.int .i64 B,.bool C])/\(KeepT 40 y A/\KeepT 30 y A/\True)/\R (.returned (.tuple #[.int .i64 B,.bool C])) A)))):CP 22 #[(.agg #[.slice a b c,.slice d e f,.string g,.string i,.string j,.slice k l m,.slice n o p]),(.agg #[.slice q r s,.slice t u v])] w R:=
 vcq Tryz.func22 [2,3] [] [.agg [.slice a b c,.slice d e f,.str g,.str i,.str j,.slice k l m,.slice n o p],.agg [.slice q r s,.slice t u v]] h
theorem p_v (a:OA)(b c:Nat)(d:OA)(e f:Nat)(g:OA)(i j:Nat)(k:OA)(l m:Nat)(n:OA)(o p:Nat)(q:OA)(r s:Nat)(t:OA)(u v:Nat)(w:World)(R:EW)(h:
 True/\(let x:=w.alloc (.cells #[.slice a b c,.slice d e f,.slice g i j,.slice k l m,.slice n o p] 26);
 True/\(let y:=x.alloc (.cells #[.slice q r s,.slice t u v] 30);
 ∀ z:Bool->World->Prop,(∀ A:Bool,∀ B:World,
 ((Br A (R (.returned (.bool true)) B) (CP 13 #[(.agg #[.slice a b c,.slice d e f,.slice g i j,.slice k l m,.slice n o p])] B (fun C D=>∃ E,∃ F,C=.returned (.tuple #[.pointer E,.bool F])/\(KeepT 26 B D/\KeepT 30 B D/\True)/\∀ G:Bool->World->Prop,(∀ H:Bool,∀ I:World,
 ((Br H (R (.returned (.bool true)) I) (∀ J,J=I.drew->CP 17 #[.pointer E] J (fun K L=>∃ M N O,∃ P Q S,∃ U,∃ V,∃ W,∃ X Y Z,∃ aa ab ac,K=.returned (.agg #[.slice M N O,.slice P Q S,.string U,.string V,.string W,.slice X Y Z,.slice aa ab ac])/\(KeepT 26 J L/\KeepT 30 J L/\True)/\((0=0)/\True)/\CP 22 #[(.agg #[.slice M N O,.slice P Q S,.string U,.string V,.string W,.slice X Y Z,.slice aa ab ac]),(.agg #[.slice q r s,.slice t u v])] L (fun ad ae=>∃ af,∃ ag,ad=.returned (.tuple #[.int .i64 af,.bool ag])/\(KeepT 26 L ae/\KeepT 30 L ae/\True)/\True/\True/\True/\Cb 23 #[.pointer E,(.agg #[.slice q r s,.slice t u v])] ae (fun ah ai=>(KeepT 26 ae ai/\KeepT 30 ae ai/\True)/\Cb 18 #[.int .i64 af,.bool ag,.bool ah] ai (fun aj ak=>(KeepT 26 ai ak/\KeepT 30 ai ak/\True)/\R (.returned (.bool aj)) ak)))))))->
 G H I)->
 (Nr (!F) (Cb 14 #[(.agg #[.slice q r s,.slice t u v])] D (fun al am=>(KeepT 26 D am/\KeepT 30 D am/\True)/\(Nr (!al) (Cb 15 #[.pointer E,(.agg #[.slice q r s,.slice t u v])] am (fun an ao=>(KeepT 26 am ao/\KeepT 30 am ao/\True)/\(Nr (!an) (Cb 21 #[.pointer E,(.agg #[.slice q r s,.slice t u v])] ao (fun ap aq=>(KeepT 26 ao aq/\KeepT 30 ao aq/\True)/\G ap aq)) (G true ao)))) (G true am)))) (G true D))))))->
 z A B)->
 Cb 11 #[(.agg #[.slice a b c,.slice d e f,.slice g i j,.slice k l m,.slice n o p])] y (fun ar au=>(KeepT 26 y au/\KeepT 30 y au/\True)/\(Nr (!ar) (Cb 12 #[(.agg #[.slice q r s,.slice t u v])] au (fun av ax=>(KeepT 26 au ax/\KeepT 30 au ax/\True)/\z (!av) ax)) (z true au)))))):CP 5 #[(.agg #[.slice a b c,.slice d e f,.slice g i j,.slice k l m,.slice n o p]),(.agg #[.slice q r s,.slice t u v])] w R:=
 vcq Tryz.func5 [2,3] [(3,⟨[(16,.bool)],[]⟩),(13,⟨[(39,.bool)],[]⟩)] [.agg [.slice a b c,.slice d e f,.slice g i j,.slice k l m,.slice n o p],.agg [.slice q r s,.slice t u v]] h
set_option maxRecDepth 100000
set_option maxRecDepth 100000
theorem d_t (a:OA)(b:Value)(w:World)(R:EW)(h:
 Pt a fun c=>Ll w (c.add 1) fun d e f=>(b.oneCell'=true/\True)/\(let g:=w.alloc (.cells #[b] 208);
 ∃ i j k,∃ l,(Go.builtin .append #[139,139] 139 #[false,false] #[.slice d e f,(.slice (some (adr w.heap.size)) 1 1)]).run Tryz.prog g=.ok (.value (.slice i j k)) l/\True/\Pt a fun m=>Off l (m.add 1) 1 []/\True/\(let n:=(l.setCell (m.add 1) (.slice i j k));
 R (.returned (.tuple #[])) n))):CP 118 #[.pointer a,b] w R:=
 vcq Tryz.func118 [] [] [.l (.optr a),.l (.val b)] h
variable [DB]
theorem c_9 {eb:Nat}{f:Value}{evs:List Value}{w:World}(hf:a_v f)(hB:Blk w eb 148 evs)(hj:evs[1]? =some (.slice none 0 0)):
  CP 118 #[.pointer (some (adr eb)),f] w fun e w'=>e=.returned (.tuple #[])/\∃ (p:Addr) (C:Nat),Blk w' eb 148 (evs.set 1 (.slice (some p) 1 C))/\At w' 208 p f/\w.heap.size<=p.block/\Ext (fun b=>b=eb) w w':=by
 obtain ⟨p,C,w7,r7,ha,hp,hx,-⟩:=m_z 139 208 Tryz.t208 _ _ (by kernel_rfl) (by kernel_rfl) rfl (by kernel_rfl) rfl (by kernel_rfl) (by decide) (w:=w) hf 139 #[false,false]
 have hB7:=hB.ext hx id
 have hlt:=hB.lt
 have hl:1+1<=evs.length:=(List.getElem?_eq_some_iff.1 hj).1
 have hs:Ext (fun b=>b=eb) w7 (w7.setCell ⟨eb,1,none⟩ (.slice (some p) 1 C)):=Ext.setCell (X:=fun b=>b=eb) (Ext.refl _) (a:=⟨eb,1,none⟩) (.inl rfl) _
 refine d_t (some (adr eb)) f w _ ⟨adr eb,rfl,none,0,0,(hB.at (j:=1) hj).cell,⟨hf.one,trivial⟩,some p,1,C,w7,r7,trivial,adr eb,rfl,hB7.off (j:=1) (n:=1) (q:=fun _=>false) hl rfl,trivial,rfl,p,C,hB7.set 1 _,hs.at (by show ¬ p.block=eb;omega) ha,hp,(hx.toM _).trans hs fun _ _ e=>e⟩
end Go.VC
namespace Go.VC
open Go Go.Proofs
set_option maxRecDepth 100000
variable [DB]
end Go.VC
namespace Go.VC
open Go Go.Proofs
set_option maxRecDepth 100000
theorem g_x (a:OA)(b:OA)(c d:Nat)(e:OA)(f g:Nat)(w:World)(R:EW)(h:
 True/\(let i:=w.alloc (.cells #[.pointer a] 33);
 True/\(let j:=i.alloc (.cells #[.slice b c d,.slice e f g] 30);
 True/\(let k:=j.alloc (.cells #[.bool false] 4);
 Off k (adr j.heap.size) 1 [30]/\True/\(let l:=(k.setCell (adr j.heap.size) (.bool false));
 Lp l (adr w.heap.size) fun m=>C0 59 #[.pointer m,(.agg #[.slice b c d,.slice e f g]),(.func (.func 60) #[] #[(.pointer (some (adr w.heap.size))),(.pointer (some (adr j.heap.size)))])] l (fun n=>(KeepT 30 l n/\True)/\Lb n (adr j.heap.size) fun o=>R (.returned (.bool o)) n)))))):CP 21 #[.pointer a,(.agg #[.slice b c d,.slice e f g])] w R:=
 vcq Tryz.func21 [3] [] [.l (.optr a),.agg [.slice b c d,.slice e f g]] h
theorem e_5 (a:Int)(b:BA)(c:BA)(d:BA)(e:OA)(f g:Nat)(i:OA)(j k:Nat)(l:OA)(m n:Nat)(o:BA)(p:Addr)(q:Addr)(w:World)(R:EW)(h:
 True/\(let r:=w.alloc (.cells #[.int .i64 a,.string b,.string c,.string d,.slice e f g,.slice i j k,.slice l m n] 84);
 Lp r p fun s=>CP 61 #[.pointer s,.string o,.string c] r (fun t u=>∃ v,∃ x,∃ y z A,∃ B C D,∃ E,∃ F G H,∃ I,∃ J K L,∃ M,t=.returned (.tuple #[(.agg #[.string v,.string x,.slice y z A,.slice B C D,.string E,.slice F G H,.bool I,.slice J K L]),.bool M])/\(KeepT 84 r u/\True)/\True/\(let N:=u.alloc (.cells #[(.string (⟨#[]⟩:BA)),(.string (⟨#[]⟩:BA)),.slice none 0 0,.slice none 0 0,(.string (⟨#[]⟩:BA)),.slice none 0 0,.bool false,.slice none 0 0] 87);
 True/\(let O:=u.alloc (.cells #[.string v,.string x,.slice y z A,.slice B C D,.string E,.slice F G H,.bool I,.slice J K L] 87);
 ∀ P:World->Prop,(∀ Q:World,
 (Lb Q q fun S=>(Nr S ((Br (a==0) ((Br (c.toList==(⟨#[95,95,116,121,112,101,110,97,109,101]⟩:BA).toList) (Off Q q 1 [84,87]/\True/\(let U:=(Q.setCell q (.bool (decide ((m:Int)>0))));
 R (.returned (.tuple #[])) U)) (Off Q q 1 [84,87]/\True/\(let V:=(Q.setCell q (.bool false));
 R (.returned (.tuple #[])) V)))) (Off Q q 1 [84,87]/\True/\(let W:=(Q.setCell q (.bool false));
 R (.returned (.tuple #[])) W)))) (Off Q q 1 [84,87]/\True/\(let X:=(Q.setCell q (.bool true));
 R (.returned (.tuple #[])) X))))->
 P Q)->
 ∀ Y:Bool->World->Prop,(∀ Z:Bool,∀ aa:World,
 ((Br Z (∀ ab,ab=aa.drew->Lb ab q fun ac=>(Br ac (Off ab q 1 [84,87]/\True/\(let ad:=(ab.setCell q (.bool true));
 True/\P ad)) (Lp ab p fun ae=>Cs 62 #[.pointer ae,(.agg #[.string E,.slice F G H,.bool I])] ab (fun af ag=>(KeepT 84 ab ag/\KeepT 87 ab ag/\True)/\((0=0)/\True)/\Cb 53 #[.string af] ag (fun ah ai=>(KeepT 84 ag ai/\KeepT 87 ag ai/\True)/\((0=0)/\True)/\Off ai q 1 [84,87]/\True/\(let aj:=(ai.setCell q (.bool (!(ah==(decide ((m:Int)>0))))));
 True/\P aj)))))) (P aa)))->
 Y Z aa)->
 (Br (a==0) (Y M O) (Y false O))))))):CP 60 #[(.agg #[.int .i64 a,.string b,.string c,.string d,.slice e f g,.slice i j k,.slice l m n]),.string o,(.pointer (some p)),(.pointer (some q))] w R:=
 vcq Tryz.func60 [4,6] [(4,⟨[],[]⟩),(5,⟨[(21,.bool)],[]⟩)] [.agg [.int .i64 a,.str b,.str c,.str d,.slice e f g,.slice i j k,.slice l m n],.l (.str o),.l (.ptr p),.l (.ptr q)] h
variable [DB]
theorem SSt.bool {w w':World}{ob:Nat}{v:Value}(hB:Blk w ob 4 [v])(hDB:DB.B<=ob)(hx:Ext (fun b=>b=ob) w w'):SSt (fun b=>b=ob) w w':=by
 refine ⟨hx,fun T T' a v' ht ho ha=>?_,fun T hT b cs fr hb=>?_⟩
 ·by_cases he:a.block=ob
  ·obtain ⟨cs,fr,h1,-⟩:=ha
   rw [he,show objAt w ob=_ from hB] at h1
   simp only [Option.some.injEq,Obj.cells.injEq] at h1
   obtain ⟨-, rfl,-⟩:=h1
   rcases ho with rfl|ho
   ·exact absurd ht (by decide)
   ·omega
  ·exact hx.at he ha
 ·refine hx.old b _ (fun e=>?_) hb
  have e:b=ob:=e
  subst e
  rw [show objAt w b=_ from hB] at hb
  simp only [Option.some.injEq,Obj.cells.injEq] at hb
  obtain ⟨-, rfl,-⟩:=hb
  exact absurd hT (by decide)
abbrev compK (k:BA):Prop:=k=a_V∨k=b_i∨k=d_n
def bad1 (types:List Def)(k:Int)(n:BA)(m:Nat)(u:BA):Prop:=k=0/\(b_K types u n).2=true/\¬ (compK (findD types (a_n (b_K types u n).1.t)).1.kind↔0<m)
def badLf (types:List Def)(x:Sel × BA):Prop:=match x.1 with
 | .mk k _ n _ _ _ kids=>bad1 types k n kids.length x.2∨(k=0/\n=bTn/\0<kids.length)
section
variable {k:Nat} {A4:OA} {L4 C4:Nat} {A:OA} {L C:Nat} {A3:OA} {L3 C3:Nat} {types:List Def}
def PLf (k:Nat)(A4:OA)(L4 C4:Nat)(A:OA)(L C:Nat)(A3:OA)(L3 C3:Nat)(types:List Def)(wb ob:Nat)(l:List (Sel × BA))(w:World):Prop:=
 Blk w wb 33 [.pointer (some (adr k))]/\Blk w k 69 [.slice A4 L4 C4,.slice A L C,.slice A3 L3 C3]/\RDefs w A4 L4 C4 types/\∃ b:Bool,Blk w ob 4 [.bool b]/\(b=true↔∃ x∈l,badLf types x)
theorem o_Y {wb ob:Nat}(hDB:DB.B<=ob)(h1:wb≠ob)(h2:k≠ob):Clo 60 [.pointer (some (adr wb)),.pointer (some (adr ob))] (fun b=>b=ob) (PLf k A4 L4 C4 A L C A3 L3 C3 types wb ob):=by
 refine ⟨⟨_,Tryz.func60,by kernel_rfl⟩,fun l w w' ⟨p1,p2,p3,b,p4,p5⟩ hx=>⟨p1.ext hx id,p2.ext hx id,p3.keep hx.keep,b,p4.ext hx id,p5⟩,?_⟩
 rintro l w ⟨k',al,n,on,args,dirs,kids⟩ u cs ⟨p1,p2,p3,b0,p4,p5⟩ hv hsm hok hu
 obtain ⟨a1,l1,c1,a2,l2,c2,a3,l3,c3,rfl,hv1,hv2,hv3⟩:=c_w.1 hv
 have hl3:=hv3.len.1
 have hn:n.size<=4194304:=hsm (.string n) (by simp)
 have x11:EF w (w.alloc (.cells #[.int .i64 k',.string al,.string n,.string on,.slice a1 l1 c1,.slice a2 l2 c2,.slice a3 l3 c3] 84)):=(Ext.refl w).alloc _
 refine e_5 k' al n on a1 l1 c1 a2 l2 c2 a3 l3 c3 u (adr wb) (adr ob) w _ ⟨trivial,some (adr k),((p1.ext x11 id).at (j:=0) rfl).cell,?_⟩
 refine (e_p (types:=types) hu hn (p2.ext x11 id) (p3.keep x11.keep)).mono ?_
 rintro _ w14 ⟨cs14,rfl,⟨f0,fl0,fc0,f1,fl1,fc1,tn,f2,fl2,fc2,nn,f3,fl3,fc3,rfl,-, -, hty,-⟩,hsm14,x14⟩
 refine ⟨_,_,_,_,_,_,_,_,_,_,_,_,_,_,_,_,_,rfl,⟨x14.keepT _,trivial⟩,trivial,trivial,fun K26 hK26=>?_⟩
 have x25:=(x11.then x14).alloc (.cells #[.string (b_K types u n).1.doc,.string (b_K types u n).1.name,.slice f0 fl0 fc0,.slice f1 fl1 fc1,.string tn,.slice f2 fl2 fc2,.bool nn,.slice f3 fl3 fc3] 87)
 have z25:=(Ext.refl (X:=fun _=>False) w14).alloc (.cells #[.string (b_K types u n).1.doc,.string (b_K types u n).1.name,.slice f0 fl0 fc0,.slice f1 fl1 fc1,.string tn,.slice f2 fl2 fc2,.bool nn,.slice f3 fl3 fc3] 87)
 have set:∀ {w':World} {b v:Bool},SSt (fun b=>b=ob) w w'->Blk w' ob 4 [.bool b]->SSt (fun b=>b=ob) w (w'.setCell (adr ob) (.bool v))/\Blk (w'.setCell (adr ob) (.bool v)) ob 4 [.bool v]:=fun {w' b v} s hb=>
  ⟨s.trans (SSt.bool hb hDB (Ext.setCell (X:=fun b=>b=ob) (Ext.refl _) (a:=⟨ob,0,none⟩) (.inl rfl) _)),hb.set 0 _⟩
 have off:∀ {w':World} {b:Bool},Blk w' ob 4 [.bool b]->∃ (cs:Array Value) (T:TypeId),objAt w' ob=some (.cells cs T (0,0))/\(none:Option Nat)=none/\0+1<=cs.size/\(Nat.beq 84 T||(Nat.beq 87 T||false))=false:=fun {w' b} hb=>hb.off (j:=0) (n:=1) (q:=fun T=>(Nat.beq 84 T||(Nat.beq 87 T||false))) (by simp) rfl
 have fin:∀ (w':World) (b:Bool),SSt (fun b=>b=ob) w w'->Blk w' ob 4 [.bool b]->(b=true↔(∃ x∈l,badLf types x)∨badLf types (.mk k' al n on args dirs kids,u))->
   (.returned (.tuple #[]):Ending)=.returned (.tuple #[])/\SSt (fun b=>b=ob) w w'/\PLf k A4 L4 C4 A L C A3 L3 C3 types wb ob (l++[(.mk k' al n on args dirs kids,u)]) w':=fun w' b s hb hi=>
  ⟨rfl,s,p1.ext s.ext h1,p2.ext s.ext h2,p3.keep s.keep,b,hb,hi.trans ⟨fun h=>h.elim (fun ⟨x,hx,hb⟩=>⟨x,by simp [hx],hb⟩) fun h=>⟨_,by simp,h⟩,fun ⟨x,hx,hb⟩=>by
   rcases List.mem_append.1 hx with hx|hx
   ·exact .inl ⟨x,hx,hb⟩
   ·rw [List.mem_singleton.1 hx] at hb
    exact .inr hb⟩⟩
 have key26:∀ (w':World) (b:Bool),SSt (fun b=>b=ob) w w'->Blk w' ob 4 [.bool b]->(b=true↔(∃ x∈l,badLf types x)∨bad1 types k' n kids.length u)->K26 w':=by
  intro w' b s hb hi
  refine hK26 w' ⟨b,(hb.at (j:=0) rfl).cell,fun h0=>⟨fun hk=>⟨fun he=>⟨off hb,trivial,fin _ _ (set s hb).1 (set s hb).2 ?_⟩,fun he=>⟨off hb,trivial,fin _ _ (set s hb).1 (set s hb).2 ?_⟩⟩,fun hk=>⟨off hb,trivial,fin _ _ (set s hb).1 (set s hb).2 ?_⟩⟩,fun hb1=>⟨off hb,trivial,fin _ _ (set s hb).1 (set s hb).2 ?_⟩⟩
  ·have hnot:¬ ((∃ x∈l,badLf types x)∨bad1 types k' n kids.length u):=fun h=>by rw [hi.2 h] at h0;cases h0
   have hk:k'=0:=by simpa using hk
   have hnn:=a_b.1 he
   rw [decide_eq_true_iff]
   constructor
   ·intro h
    exact .inr (.inr ⟨hk,hnn,by omega⟩)
   ·rintro (h|h|⟨-, -, h⟩)
    ·exact (hnot (.inl h)).elim
    ·exact (hnot (.inr h)).elim
    ·omega
  ·have hnot:¬ ((∃ x∈l,badLf types x)∨bad1 types k' n kids.length u):=fun h=>by rw [hi.2 h] at h0;cases h0
   refine ⟨nofun,?_⟩
   rintro (h|h|⟨-, h,-⟩)
   ·exact (hnot (.inl h)).elim
   ·exact (hnot (.inr h)).elim
   ·exact absurd h (a_f.1 he)
  ·have hnot:¬ ((∃ x∈l,badLf types x)∨bad1 types k' n kids.length u):=fun h=>by rw [hi.2 h] at h0;cases h0
   have hk:k'≠0:=fun e=>by simp [e] at hk
   refine ⟨nofun,?_⟩
   rintro (h|h|⟨h,-⟩)
   ·exact (hnot (.inl h)).elim
   ·exact (hnot (.inr h)).elim
   ·exact absurd h hk
  ·refine ⟨fun _=>(hi.1 hb1).imp id .inl,fun _=>rfl⟩
 intro K33 hK33
 have key33:∀ (b:Bool),(b=true↔k'=0/\(b_K types u n).2=true)->K33 b (w14.alloc (.cells #[.string (b_K types u n).1.doc,.string (b_K types u n).1.name,.slice f0 fl0 fc0,.slice f1 fl1 fc1,.string tn,.slice f2 fl2 fc2,.bool nn,.slice f3 fl3 fc3] 87)):=by
  intro b hb
  have p25:=p4.ext x25 id
  refine hK33 b _ ⟨fun h w36 e36=>?_,fun h=>key26 _ b0 (SSt.of0 x25) p25 (p5.trans ⟨.inl,fun k=>k.elim id fun k=>?_⟩)⟩
  ·obtain ⟨hk0,hG⟩:=hb.1 h
   have x36:EF w w36:=by rw [e36];exact x25.drew
   have z36:EF w14 w36:=by rw [e36];exact z25.drew
   have p36:=p4.ext x36 id
   refine ⟨b0,(p36.at (j:=0) rfl).cell,fun h0=>⟨off p36,trivial,trivial,key26 _ _ (set (SSt.of0 x36) p36).1 (set (SSt.of0 x36) p36).2 ⟨fun _=>.inl (p5.1 h0),fun _=>rfl⟩⟩,fun h0=>?_⟩
   refine ⟨some (adr k),((p1.ext x36 id).at (j:=0) rfl).cell,?_⟩
   refine (c_8 (hsm14 (.string tn) (by simp)) (hty.keep z36.keep) ((p2.ext x36 id).at (j:=0) rfl) (p3.keep x36.keep)).mono ?_
   rintro _ w41 ⟨rfl,x41⟩
   refine ⟨_,rfl,⟨x41.keepT _,x41.keepT _,trivial⟩,⟨rfl,trivial⟩,?_⟩
   refine (b_5 _ _).mono ?_
   rintro _ w44 ⟨b45,rfl,x44,hb45⟩
   have x3644:=(x36.then x41).then x44
   have p44:=p4.ext x3644 id
   refine ⟨b45,rfl,⟨x44.keepT _,x44.keepT _,trivial⟩,⟨rfl,trivial⟩,off p44,trivial,trivial,key26 _ _ (set (SSt.of0 x3644) p44).1 (set (SSt.of0 x3644) p44).2 ?_⟩
   have hnot:¬ ∃ x∈l,badLf types x:=fun h=>by rw [p5.2 h] at h0;cases h0
   have hm:decide ((l3:Int)>0)=true↔0<kids.length:=by rw [decide_eq_true_iff];omega
   have hcmp:(!(b45==decide ((l3:Int)>0)))=true↔¬ (compK (findD types (a_n (b_K types u n).1.t)).1.kind↔0<kids.length):=by
    have hb45':b45=true↔compK (findD types (a_n (b_K types u n).1.t)).1.kind:=hb45
    rw [<- hb45',<- hm]
    cases b45<;>cases decide ((l3:Int)>0)<;>simp
   rw [hcmp]
   exact ⟨fun h=>.inr ⟨hk0,hG,h⟩,fun h=>h.elim (fun h=>(hnot h).elim) fun h=>h.2.2⟩
  ·have:b=true:=hb.2 ⟨k.1,k.2.1⟩
   rw [this] at h
   cases h
 exact ⟨fun h=>key33 _ ⟨fun k=>⟨by simpa using h,k⟩,fun k=>k.2⟩,fun h=>key33 false ⟨nofun,fun k=>by simp [k.1] at h⟩⟩
theorem f_W {roots:List RootD}{a:OA}{l c:Nat}{a':OA}{l' c':Nat}{ops:List OpD}{frags:List Frag}{w:World}(hDB:DB.B<=w.heap.size)(hB:Blk w k 69 [.slice A4 L4 C4,.slice A L C,.slice A3 L3 C3])(hT:RDefs w A4 L4 C4 types)(hR:b_w w A L C roots)(hl:ROps w a l c ops)(hl':a_X w a' l' c' frags)(ok1:∀ x∈ops,okOp x)(ok2:∀ x∈frags,b_j x):
  CP 21 #[.pointer (some (adr k)),.agg #[.slice a l c,.slice a' l' c']] w (RetB w fun b=>b=true↔∃ x∈atAll types roots ops frags,badLf types x):=by
 have x4:EF w (w.alloc (.cells #[.pointer (some (adr k))] 33)):=(Ext.refl w).alloc _
 have B4:Blk (w.alloc (.cells #[.pointer (some (adr k))] 33)) w.heap.size 33 [.pointer (some (adr k))]:=Blk.made w 33 [.pointer (some (adr k))]
 refine g_x (some (adr k)) a l c a' l' c' w _ ⟨trivial,?_⟩
 generalize w.alloc (.cells #[.pointer (some (adr k))] 33)=w4 at *
 have x5:EF w4 (w4.alloc (.cells #[.slice a l c,.slice a' l' c'] 30)):=(Ext.refl w4).alloc _
 refine ⟨trivial,?_⟩
 show True/\_
 generalize w4.alloc (.cells #[.slice a l c,.slice a' l' c'] 30)=w5 at *
 have B6:Blk (w5.alloc (.cells #[.bool false] 4)) w5.heap.size 4 [.bool false]:=Blk.made w5 4 [.bool false]
 have x6:EF w5 (w5.alloc (.cells #[.bool false] 4)):=(Ext.refl w5).alloc _
 refine ⟨trivial,?_⟩
 show (∃ _,_)/\_
 generalize w5.alloc (.cells #[.bool false] 4)=w6 at *
 refine ⟨B6.off (j:=0) (n:=1) (q:=fun T=>(Nat.beq 30 T||false)) (by simp) rfl,trivial,?_⟩
 have B7:Blk (w6.setCell (adr w5.heap.size) (.bool false)) w5.heap.size 4 [.bool false]:=B6.set 0 (.bool false)
 have x7:EF w5 (w6.setCell (adr w5.heap.size) (.bool false)):=Ext.setCell x6 (a:=⟨w5.heap.size,0,none⟩) (.inr (Nat.le_refl _)) _
 generalize w6.setCell (adr w5.heap.size) (.bool false)=w7 at *
 have y7:=(x4.then x5).then x7
 have hz4:=B4.lt
 have hz5:=x5.size
 have hk:=hB.lt
 have hx5:=x4.size
 have B47:Blk w7 w.heap.size 33 [.pointer (some (adr k))]:=(B4.ext x5 id).ext x7 id
 refine ⟨some (adr k),(B47.at (j:=0) rfl).cell,?_⟩
 refine (j_4 (X:=fun b=>b=w5.heap.size) (P:=PLf k A4 L4 C4 A L C A3 L3 C3 types w.heap.size w5.heap.size) (by show ¬ k=w5.heap.size;omega) (o_Y (by omega) (by omega) (by omega)) (hB.ext y7 id) (hT.keep y7.keep) (hR.keep y7.keep) (hl.keep y7.keep) (hl'.keep y7.keep) ok1 ok2 ⟨B47,hB.ext y7 id,hT.keep y7.keep,false,B7,by simp⟩).mono ?_
 rintro _ w10 ⟨rfl,s10,-, -, -, b,B10,hb⟩
 refine ⟨rfl,⟨s10.kt _ (by decide),trivial⟩,b,(B10.at (j:=0) rfl).cell,b,rfl,y7.trans s10.ext fun k' hk' e=>?_,hb⟩
 have e:k'=w5.heap.size:=e
 omega
end
theorem Base.look {c:WCtx}{cx:Option OpD}{co:OA}{vm:Nat}{evs:List Value}{w w':World}(hb:Base c)(hw:Wst c cx co vm evs w)(hx:EF w w'):w'.cell? ⟨c.wb,1,none⟩=some (.pointer (some (adr c.sb)))/\w'.cell? ⟨c.sb,4,none⟩=some (.map (some c.m1))/\
  ∀ u,∃ q,(Instr.lookup 242 (.map (some c.m1)) (.string u) false).run Tryz.prog w'=.ok (.pointer q) w'/\OptQ (PDef c.M c.w0) (lastN Def.name c.types u) q:=by
 obtain ⟨q1,q2,q3,s,hS,-⟩:=hb.sch
 have hwk:=hw.wk.trans (Wk.ofExt hx fun _ _=>id)
 exact ⟨((hw.walker.ext hx id).at (j:=1) rfl).cell,hwk.nd hb.sb hS (j:=4) rfl rfl,fun u=>VC.tlook (hwk.smap hb.m1.1 hb.m1.2.1) hb.m1.2.2 u⟩
abbrev Suf (ae:Nat)(X:Addr)(fmt:BA)(A:OA)(L C:Nat)(q:OA)(v53 v70:Value)(w:World)(K:World->Prop):Prop:=
 CP 168 #[.string fmt,.slice A L C] w (fun e w73=>∃ v74:Value,e=.returned v74/\True/\((w73.cell? X=w.cell? X)/\(w73.cell? (adr ae)=w.cell? (adr ae))/\True)/\
  CP 109 #[.pointer q] w73 (fun e w76=>∃ v77:Value,e=.returned v77/\True/\((w76.cell? (adr ae)=w73.cell? (adr ae))/\True)/\(v70.oneCell'=true/\v74.oneCell'=true/\v77.oneCell'=true/\True)/\(let w78:=w76.alloc (.cells #[v70,v74,v77] 174);
   ((w78.cell? (adr ae)=w76.cell? (adr ae))/\True)/\∃ (g:FuncId) (cap:List Value),v53=.func (.func g) #[] cap.toArray/\∃ fn,Tryz.prog.funcs[g]? =some fn/\(fn.name== "runtime.NumGoroutine" ||fn.body.isNone)=false/\
   CP g ([Value.slice (some (adr w76.heap.size)) 3 3]++cap).toArray w78 (fun e w83=>e=.returned (.tuple #[])/\True/\True/\K w83))))
abbrev MSuf (ae:Nat)(X:Addr)(fm:BA)(A':OA)(L' C':Nat)(fmt:BA)(A:OA)(L C:Nat)(q:OA)(v53:Value)(w:World)(K:World->Prop):Prop:=
 CP 108 #[.string fm,.slice A' L' C'] w (fun e w69=>∃ v70:Value,e=.returned v70/\True/\((w69.cell? X=w.cell? X)/\(w69.cell? (adr ae)=w.cell? (adr ae))/\True)/\Suf ae X fmt A L C q v53 v70 w69 K)
abbrev leafK (k:BA):Prop:=k=kEnum∨k=d_m
def g_n (c:WCtx)(pd:Option Def)(n:BA)(m:Nat):Prop:=∃ f d,fldD pd n=some f/\lastN Def.name c.types (a_w f.t)=some d/\((leafK d.kind/\0<m)∨(¬ leafK d.kind/\m=0))
def k_O (c:WCtx):Ev->Prop
 | .fld (.mk _ _ n _ _ _ kids) pd=>g_n c pd n kids.length
 | _=>False
def StL (bad:Ev->Prop)(ae cnt sg:Nat)(l:List Ev)(w:World):Prop:=StB bad ae cnt l w/\Blk w sg 4 [.bool false]
section
variable {c:WCtx} {ae cnt sg:Nat} {bad:Ev->Prop} {l:List Ev} {w:World} {cx:Option OpD} {co:OA} {vm:Nat} {evs:List Value} {node:Value} {ev:Ev}
end
mutual
def flS (tys:List Def):Option Def->Sel->List (Sel × Option Def)
 | pd,.mk k al n on args dirs kids=>if k=0 then (.mk k al n on args dirs kids,pd)::flL tys (nextD tys pd n) kids else if k=1 then [] else flL tys (inlD tys pd on) kids
def flL (tys:List Def):Option Def->List Sel->List (Sel × Option Def)
 | _,[]=>[]
 | pd,s::l=>flS tys pd s++flL tys pd l
end
section
variable {tys:List Def} {fs:List Frag} {cx:Option OpD}
theorem m_i {s:Sel}{pd':Option Def}:∀ (ks:List Sel) (pd:Option Def),Ev.fld s pd'∈evL tys fs cx pd ks↔(s,pd')∈flL tys pd ks
 | [],pd=>by simp [evL,flL]
 | .mk k al n on args dirs kids::l,pd=>by
  have ihl:=m_i (s:=s) (pd':=pd') l pd
  have hA:Ev.fld s pd'∉b_B cx args:=fun h=>by have:=d_8 _ h;cases this
  have hD:∀ loc,Ev.fld s pd'∉evDs cx loc dirs:=fun loc h=>by have:=b_C _ h;simp [slot] at this
  have key:Ev.fld s pd'∈evS tys fs cx pd (.mk k al n on args dirs kids)↔(s,pd')∈flS tys pd (.mk k al n on args dirs kids):=by
   simp only [evS,flS]
   by_cases hk0:k=0
   ·have ih:=m_i (s:=s) (pd':=pd') kids (nextD tys pd n)
    rw [if_pos hk0,if_pos hk0,List.mem_append,List.mem_append,List.mem_append,ih]
    simp [hA,hD,or_comm]
   ·by_cases hk1:k=1
    ·rw [if_neg hk0,if_pos hk1,if_neg hk0,if_pos hk1,List.mem_append]
     simp [hD]
    ·have ih:=m_i (s:=s) (pd':=pd') kids (inlD tys pd on)
     rw [if_neg hk0,if_neg hk1,if_neg hk0,if_neg hk1,List.mem_append,List.mem_append,ih]
     simp [hD]
  simp only [evL,flL,List.mem_append]
  rw [key,ihl]
theorem n_s {s:Sel}{pd':Option Def}{f:Frag}:Ev.fld s pd'∈evFr tys fs cx f↔(s,pd')∈flL tys (lastN Def.name tys f.on) f.kids:=by
 have hD:Ev.fld s pd'∉evDs cx d_z f.dirs:=fun h=>by have:=b_C _ h;simp [slot] at this
 unfold evFr
 rw [List.mem_append,m_i]
 simp [hD]
end
theorem o_T {c:WCtx}{x:OpD}{s:Sel}{pd':Option Def}:Ev.fld s pd'∈evOp c x↔(s,pd')∈flL c.types (rootT c x.kind) x.kids:=by
 have hV:Ev.fld s pd'∉f_j (some x) x.vars:=fun h=>by have:=g_e _ h;simp [slot] at this
 have hD:Ev.fld s pd'∉evDs (some x) (opLoc x.kind) x.dirs:=fun h=>by have:=b_C _ h;simp [slot] at this
 unfold evOp
 rw [List.mem_append,List.mem_append,List.mem_append,m_i]
 simp [hV,hD]
theorem k_j {c:WCtx}{s:Sel}{pd:Option Def}:DocEv c (.fld s pd)↔(∃ x∈c.ops,(s,pd)∈flL c.types (rootT c x.kind) x.kids)∨∃ f∈c.frags,(s,pd)∈flL c.types (lastN Def.name c.types f.on) f.kids:=by
 constructor
 ·rintro (⟨x,hx,h|⟨n,f,-, h1,h2⟩⟩|⟨f,hf,(h|⟨n,g,-, h1,h2⟩)|h⟩)
  ·exact .inl ⟨x,hx,o_T.1 h⟩
  ·exact .inr ⟨f,(a_U h1).1,n_s.1 h2⟩
  ·exact .inr ⟨f,hf,n_s.1 h⟩
  ·exact .inr ⟨g,(a_U h1).1,n_s.1 h2⟩
  ·cases h
 ·rintro (⟨x,hx,h⟩|⟨f,hf,h⟩)
  ·exact .inl ⟨x,hx,.inl (o_T.2 h)⟩
  ·exact .inr ⟨f,hf,.inl (.inl (n_s.2 h))⟩
theorem e_z {types:List Def}{u:BA}(h:(findD types u).2=false):(findD types u).1=noDef:=by
 unfold findD at h ⊢
 split
 ·rename_i d hd
  simp [hd] at h
 ·split
  ·rename_i h1 h2
   simp [h1,h2] at h
  ·rfl
theorem k_Y {types:List Def}{u:BA}(h:(findD types u).2=true):(findD types u).1∈a_P++types:=by
 unfold findD at h ⊢
 split
 ·rename_i d hd
  exact List.mem_append.2 (.inr (List.mem_of_find?_eq_some hd))
 ·split
  ·rename_i h2
   exact List.mem_append.2 (.inl (List.mem_map.2 ⟨u,d_x.1 h2,rfl⟩))
  ·rename_i h1 h2
   simp [h1,h2] at h
theorem baseName_eq':∀ t:Typ,a_n t=a_w t
 | .mk n [] nn=>rfl
 | .mk n (t::l) nn=>baseName_eq' t
def Rel (types:List Def)(u:BA)(pd:Option Def):Prop:=∀ n,n≠bTn->fldD pd n=b_e types u n/\∀ f,b_e types u n=some f->(findD types (a_n f.t)).1.kind≠E0/\(findD types (a_n f.t)).1.kind≠b_f
theorem o_U {pd:Option Def}{n:BA}(hn:n≠bTn):fldD pd n=pd.bind fun d=>a_h Fld.name d.fields n:=by rw [fldD,if_neg hn]
theorem o_I {types:List Def}{u:BA}{pd:Option Def}(h1:∀ d,pd=some d->d.fields=[])(h2:(findD types u).1=noDef):Rel types u pd:=fun n hn=>by
 have hS:b_e types u n=none:=by
  rw [b_e,if_neg fun k=>hn k.1,h2,if_neg]
  rintro (h|h)<;>exact absurd h (by decide)
 refine ⟨?_,fun f h=>by rw [hS] at h;cases h⟩
 rw [hS,o_U hn]
 cases pd with
 | none=>rfl
 | some d=>
  show a_h Fld.name d.fields n=none
  rw [h1 d rfl];rfl
section
variable {types:List Def} {dirs:List DirDef} {defs:List SchemaDef}
theorem j_O (hO:OkSchema types dirs defs){u:BA}(h:(findD types u).1.kind≠b_f):Rel types u (lastN Def.name (a_P++types) u):=by
 rw [c_N hO]
 cases hf:(findD types u).2 with
 | false=>exact o_I (fun d hd=>by simp at hd) (e_z hf)
 | true=>
  intro n hn
  have hd:b_e types u n=if (findD types u).1.kind=a_V∨(findD types u).1.kind=b_i then a_h Fld.name (findD types u).1.fields n else none:=by rw [b_e,if_neg fun k=>hn k.1]
  rw [if_pos rfl,o_U hn]
  have hm:=k_Y hf
  generalize (findD types u).1=d at *
  show a_h Fld.name d.fields n=_/\_
  by_cases hk:d.kind=a_V∨d.kind=b_i
  ·rw [if_pos hk] at hd
   refine ⟨hd.symm,fun f hf=>?_⟩
   rw [hd] at hf
   have hfm:=(a_U hf).1
   rcases List.mem_append.1 hm with hm|hm
   ·obtain ⟨s,-, rfl⟩:=List.mem_map.1 hm
    simp [a_A] at hfm
   ·exact ((hO.simple d hm).2.1 f hfm).2.2.2.2.2 h
  ·rw [if_neg hk] at hd
   have hfl:d.fields=[]:=by
    rcases ((k_I (roots:=[]) hO).2.1 d hm).2.2.2.2 with k|k|k|k
    ·exact k
    ·exact (hk (.inl k)).elim
    ·exact (hk (.inr k)).elim
    ·exact absurd k h
   refine ⟨by rw [hd,hfl];rfl,fun f hf=>by rw [hd] at hf;cases hf⟩
theorem p_i {tys:List Def}{pd:Option Def}{al n on:BA}{args:List Argm}{ds:List Dir}{kids:List Sel}:flS tys pd (.mk 0 al n on args ds kids)=(.mk 0 al n on args ds kids,pd)::flL tys (nextD tys pd n) kids:=by
 rw [flS,if_pos rfl]
theorem p_j {tys:List Def}{pd:Option Def}{k:Int}{al n on:BA}{args:List Argm}{ds:List Dir}{kids:List Sel}(h:k=1):flS tys pd (.mk k al n on args ds kids)=[]:=by
 rw [flS,if_neg (by omega),if_pos h]
theorem p_k {tys:List Def}{pd:Option Def}{k:Int}{al n on:BA}{args:List Argm}{ds:List Dir}{kids:List Sel}(h:k≠0)(h1:k≠1):flS tys pd (.mk k al n on args ds kids)=flL tys (inlD tys pd on) kids:=by
 rw [flS,if_neg h,if_neg h1]
theorem o_N {types:List Def}{u:BA}{k:Int}{al n on:BA}{args:List Argm}{ds:List Dir}{kids:List Sel}:atS types u (.mk k al n on args ds kids)=(.mk k al n on args ds kids,u)::atL types (downS types u k n on) kids:=by rw [atS]
def walkB (c:WCtx)(x:Sel × Option Def):Prop:=k_O c (.fld x.1 x.2)
end
abbrev leafD (types:List Def)(roots:List RootD)(ops:List OpD)(frags:List Frag):Prop:=∃ x∈atAll types roots ops frags,badLf types x
end Go.VC
namespace Go.VC
open Go Go.Proofs
set_option maxRecDepth 100000
theorem p_z (a:OA)(b:OA)(c d:Nat)(e:OA)(f g:Nat)(w:World)(R:EW)(h:
 True/\(let i:=w.alloc (.cells #[.pointer a] 33);
 True/\(let j:=i.alloc (.cells #[.slice b c d,.slice e f g] 30);
 True/\(let k:=j.alloc (.cells #[.bool false] 4);
 Off k (adr j.heap.size) 1 [30]/\True/\(let l:=(k.setCell (adr j.heap.size) (.bool false));
 Lp l (adr w.heap.size) fun m=>C0 59 #[.pointer m,(.agg #[.slice b c d,.slice e f g]),(.func (.func 64) #[] #[(.pointer (some (adr w.heap.size))),(.pointer (some (adr j.heap.size)))])] l (fun n=>(KeepT 30 l n/\True)/\Lb n (adr j.heap.size) fun o=>R (.returned (.bool o)) n)))))):CP 23 #[.pointer a,(.agg #[.slice b c d,.slice e f g])] w R:=
 vcq Tryz.func23 [3] [] [.l (.optr a),.agg [.slice b c d,.slice e f g]] h
theorem p_w (a:Int)(b:BA)(c:BA)(d:BA)(e:OA)(f g:Nat)(i:OA)(j k:Nat)(l:OA)(m n:Nat)(o:BA)(p:Addr)(q:Addr)(w:World)(R:EW)(h:
 True/\(let r:=w.alloc (.cells #[.int .i64 a,.string b,.string c,.string d,.slice e f g,.slice i j k,.slice l m n] 84);
 Lp r p fun s=>CP 65 #[.pointer s,.string o] r (fun t u=>∃ v,∃ x,∃ y,∃ z A B,∃ C D E,∃ F G H,∃ I J K,∃ L M N,∃ O,t=.returned (.tuple #[(.agg #[.string v,.string x,.string y,.slice z A B,.slice C D E,.slice F G H,.slice I J K,.slice L M N]),.bool O])/\(KeepT 84 r u/\True)/\True/\(let P:=u.alloc (.cells #[(.string (⟨#[]⟩:BA)),(.string (⟨#[]⟩:BA)),(.string (⟨#[]⟩:BA)),.slice none 0 0,.slice none 0 0,.slice none 0 0,.slice none 0 0,.slice none 0 0] 75);
 True/\(let Q:=u.alloc (.cells #[.string v,.string x,.string y,.slice z A B,.slice C D E,.slice F G H,.slice I J K,.slice L M N] 75);
 Lp Q p fun S=>CP 61 #[.pointer S,.string o,.string c] Q (fun U V=>∃ W,∃ X,∃ Y Z aa,∃ ab ac ad,∃ ae,∃ af ag ah,∃ ai,∃ aj ak al,∃ am,U=.returned (.tuple #[(.agg #[.string W,.string X,.slice Y Z aa,.slice ab ac ad,.string ae,.slice af ag ah,.bool ai,.slice aj ak al]),.bool am])/\(KeepT 84 Q V/\KeepT 75 Q V/\True)/\True/\(let an:=V.alloc (.cells #[(.string (⟨#[]⟩:BA)),(.string (⟨#[]⟩:BA)),.slice none 0 0,.slice none 0 0,(.string (⟨#[]⟩:BA)),.slice none 0 0,.bool false,.slice none 0 0] 87);
 True/\(let ao:=V.alloc (.cells #[.string W,.string X,.slice Y Z aa,.slice ab ac ad,.string ae,.slice af ag ah,.bool ai,.slice aj ak al] 87);
 Lb ao q fun ap=>(Nr ap ((Br (a==0) (Cb 53 #[.string v] ao (fun aq ar=>(KeepT 84 ao ar/\KeepT 75 ao ar/\KeepT 87 ao ar/\True)/\(Br aq (Off ar q 1 [84,75,87]/\True/\(let au:=(ar.setCell q (.bool (!am)));
 R (.returned (.tuple #[])) au)) (Off ar q 1 [84,75,87]/\True/\(let av:=(ar.setCell q (.bool false));
 R (.returned (.tuple #[])) av))))) (Off ao q 1 [84,75,87]/\True/\(let ax:=(ao.setCell q (.bool false));
 R (.returned (.tuple #[])) ax)))) (Off ao q 1 [84,75,87]/\True/\(let ay:=(ao.setCell q (.bool true));
 R (.returned (.tuple #[])) ay))))))))))):CP 64 #[(.agg #[.int .i64 a,.string b,.string c,.string d,.slice e f g,.slice i j k,.slice l m n]),.string o,(.pointer (some p)),(.pointer (some q))] w R:=
 vcq Tryz.func64 [4,6,8] [] [.agg [.int .i64 a,.str b,.str c,.str d,.slice e f g,.slice i j k,.slice l m n],.l (.str o),.l (.ptr p),.l (.ptr q)] h
variable [DB]
def badNf (types:List Def)(x:Sel × BA):Prop:=match x.1 with
 | .mk k _ n _ _ _ kids=>k=0/\compK (findD types x.2).1.kind/\(b_K types x.2 n).2=false
section
variable {k:Nat} {A4:OA} {L4 C4:Nat} {A:OA} {L C:Nat} {A3:OA} {L3 C3:Nat} {types:List Def}
def PNf (k:Nat)(A4:OA)(L4 C4:Nat)(A:OA)(L C:Nat)(A3:OA)(L3 C3:Nat)(types:List Def)(wb ob:Nat)(l:List (Sel × BA))(w:World):Prop:=
 Blk w wb 33 [.pointer (some (adr k))]/\Blk w k 69 [.slice A4 L4 C4,.slice A L C,.slice A3 L3 C3]/\RDefs w A4 L4 C4 types/\∃ b:Bool,Blk w ob 4 [.bool b]/\(b=true↔∃ x∈l,badNf types x)
theorem p_H {wb ob:Nat}(hDB:DB.B<=ob)(h1:wb≠ob)(h2:k≠ob):Clo 64 [.pointer (some (adr wb)),.pointer (some (adr ob))] (fun b=>b=ob) (PNf k A4 L4 C4 A L C A3 L3 C3 types wb ob):=by
 refine ⟨⟨_,Tryz.func64,by kernel_rfl⟩,fun l w w' ⟨p1,p2,p3,b,p4,p5⟩ hx=>⟨p1.ext hx id,p2.ext hx id,p3.keep hx.keep,b,p4.ext hx id,p5⟩,?_⟩
 rintro l w ⟨k',al,n,on,args,dirs,kids⟩ u cs ⟨p1,p2,p3,b0,p4,p5⟩ hv hsm hok hu
 obtain ⟨a1,l1,c1,a2,l2,c2,a3,l3,c3,rfl,hv1,hv2,hv3⟩:=c_w.1 hv
 have hn:n.size<=4194304:=hsm (.string n) (by simp)
 have x11:EF w (w.alloc (.cells #[.int .i64 k',.string al,.string n,.string on,.slice a1 l1 c1,.slice a2 l2 c2,.slice a3 l3 c3] 84)):=(Ext.refl w).alloc _
 refine p_w k' al n on a1 l1 c1 a2 l2 c2 a3 l3 c3 u (adr wb) (adr ob) w _ ⟨trivial,some (adr k),((p1.ext x11 id).at (j:=0) rfl).cell,?_⟩
 refine (a_t hu ((p2.ext x11 id).at (j:=0) rfl) (p3.keep x11.keep)).mono ?_
 rintro _ w14 ⟨cs14,rfl,⟨b1,m1,d1,b2,m2,d2,b3,m3,d3,b4,m4,d4,b5,m5,d5,rfl,-⟩,-, x14⟩
 have x25:=(x11.then x14).alloc (.cells #[.string (findD types u).1.kind,.string (findD types u).1.doc,.string (findD types u).1.name,.slice b1 m1 d1,.slice b2 m2 d2,.slice b3 m3 d3,.slice b4 m4 d4,.slice b5 m5 d5] 75)
 refine ⟨_,_,_,_,_,_,_,_,_,_,_,_,_,_,_,_,_,_,_,rfl,⟨x14.keepT _,trivial⟩,trivial,trivial,some (adr k),((p1.ext x25 id).at (j:=0) rfl).cell,?_⟩
 refine (e_p (types:=types) hu hn (p2.ext x25 id) (p3.keep x25.keep)).mono ?_
 rintro _ w28 ⟨cs28,rfl,⟨f0,fl0,fc0,f1,fl1,fc1,tn,f2,fl2,fc2,nn,f3,fl3,fc3,rfl,-⟩,-, x28⟩
 have x39:=(x25.then x28).alloc (.cells #[.string (b_K types u n).1.doc,.string (b_K types u n).1.name,.slice f0 fl0 fc0,.slice f1 fl1 fc1,.string tn,.slice f2 fl2 fc2,.bool nn,.slice f3 fl3 fc3] 87)
 have p39:=p4.ext x39 id
 have fin:∀ (w':World) (b v:Bool),EF w w'->Blk w' ob 4 [.bool b]->(v=true↔(∃ x∈l,badNf types x)∨badNf types (.mk k' al n on args dirs kids,u))->
   (.returned (.tuple #[]):Ending)=.returned (.tuple #[])/\SSt (fun b=>b=ob) w (w'.setCell (adr ob) (.bool v))/\PNf k A4 L4 C4 A L C A3 L3 C3 types wb ob (l++[(.mk k' al n on args dirs kids,u)]) (w'.setCell (adr ob) (.bool v)):=fun w' b v x hb hi=>by
  have s:SSt (fun b=>b=ob) w (w'.setCell (adr ob) (.bool v)):=(SSt.of0 x).trans (SSt.bool hb hDB (Ext.setCell (X:=fun b=>b=ob) (Ext.refl _) (a:=⟨ob,0,none⟩) (.inl rfl) _))
  exact ⟨rfl,s,p1.ext s.ext h1,p2.ext s.ext h2,p3.keep s.keep,v,hb.set 0 _,hi.trans ⟨fun h=>h.elim (fun ⟨x,hx,hb⟩=>⟨x,by simp [hx],hb⟩) fun h=>⟨_,by simp,h⟩,fun ⟨x,hx,hb⟩=>by
   rcases List.mem_append.1 hx with hx|hx
   ·exact .inl ⟨x,hx,hb⟩
   ·rw [List.mem_singleton.1 hx] at hb
    exact .inr hb⟩⟩
 have off:∀ {w':World} {b:Bool},Blk w' ob 4 [.bool b]->∃ (cs:Array Value) (T:TypeId),objAt w' ob=some (.cells cs T (0,0))/\(none:Option Nat)=none/\0+1<=cs.size/\(Nat.beq 84 T||(Nat.beq 75 T||(Nat.beq 87 T||false)))=false:=fun {w' b} hb=>hb.off (j:=0) (n:=1) (q:=fun T=>(Nat.beq 84 T||(Nat.beq 75 T||(Nat.beq 87 T||false)))) (by simp) rfl
 refine ⟨_,_,_,_,_,_,_,_,_,_,_,_,_,_,_,_,_,rfl,⟨x28.keepT _,x28.keepT _,trivial⟩,trivial,trivial,b0,(p39.at (j:=0) rfl).cell,fun h0=>?_,fun hb0=>⟨off p39,trivial,fin _ _ _ x39 p39 ⟨fun _=>.inl (p5.1 hb0),fun _=>rfl⟩⟩⟩
 have hnot:¬ ∃ x∈l,badNf types x:=fun h=>by rw [p5.2 h] at h0;cases h0
 refine ⟨fun hk=>?_,fun hk=>⟨off p39,trivial,fin _ _ _ x39 p39 ⟨nofun,fun h=>h.elim (fun h=>(hnot h).elim) fun h=>?_⟩⟩⟩
 ·have hk:k'=0:=by simpa using hk
  refine (b_5 _ _).mono ?_
  rintro _ w42 ⟨b43,rfl,x42,hb43⟩
  have hb43':b43=true↔compK (findD types u).1.kind:=hb43
  have x3942:=x39.then x42
  have p42:=p4.ext x3942 id
  refine ⟨b43,rfl,⟨x42.keepT _,x42.keepT _,x42.keepT _,trivial⟩,fun h=>⟨off p42,trivial,fin _ _ _ x3942 p42 ⟨fun hv=>.inr ⟨hk,hb43'.1 h,by simpa using hv⟩,fun hv=>hv.elim (fun h=>(hnot h).elim) fun h=>by rw [h.2.2];rfl⟩⟩,fun h=>⟨off p42,trivial,fin _ _ _ x3942 p42 ⟨nofun,fun hv=>hv.elim (fun h=>(hnot h).elim) fun h'=>?_⟩⟩⟩
  rw [hb43'.2 h'.2.1] at h
  cases h
 ·have:k'=0:=h.1
  simp [this] at hk
theorem p_x {roots:List RootD}{a:OA}{l c:Nat}{a':OA}{l' c':Nat}{ops:List OpD}{frags:List Frag}{w:World}(hDB:DB.B<=w.heap.size)(hB:Blk w k 69 [.slice A4 L4 C4,.slice A L C,.slice A3 L3 C3])(hT:RDefs w A4 L4 C4 types)(hR:b_w w A L C roots)(hl:ROps w a l c ops)(hl':a_X w a' l' c' frags)(ok1:∀ x∈ops,okOp x)(ok2:∀ x∈frags,b_j x):
  CP 23 #[.pointer (some (adr k)),.agg #[.slice a l c,.slice a' l' c']] w (RetB w fun b=>b=true↔∃ x∈atAll types roots ops frags,badNf types x):=by
 have x4:EF w (w.alloc (.cells #[.pointer (some (adr k))] 33)):=(Ext.refl w).alloc _
 have B4:Blk (w.alloc (.cells #[.pointer (some (adr k))] 33)) w.heap.size 33 [.pointer (some (adr k))]:=Blk.made w 33 [.pointer (some (adr k))]
 refine p_z (some (adr k)) a l c a' l' c' w _ ⟨trivial,?_⟩
 generalize w.alloc (.cells #[.pointer (some (adr k))] 33)=w4 at *
 have x5:EF w4 (w4.alloc (.cells #[.slice a l c,.slice a' l' c'] 30)):=(Ext.refl w4).alloc _
 refine ⟨trivial,?_⟩
 show True/\_
 generalize w4.alloc (.cells #[.slice a l c,.slice a' l' c'] 30)=w5 at *
 have B6:Blk (w5.alloc (.cells #[.bool false] 4)) w5.heap.size 4 [.bool false]:=Blk.made w5 4 [.bool false]
 have x6:EF w5 (w5.alloc (.cells #[.bool false] 4)):=(Ext.refl w5).alloc _
 refine ⟨trivial,?_⟩
 show (∃ _,_)/\_
 generalize w5.alloc (.cells #[.bool false] 4)=w6 at *
 refine ⟨B6.off (j:=0) (n:=1) (q:=fun T=>(Nat.beq 30 T||false)) (by simp) rfl,trivial,?_⟩
 have B7:Blk (w6.setCell (adr w5.heap.size) (.bool false)) w5.heap.size 4 [.bool false]:=B6.set 0 (.bool false)
 have x7:EF w5 (w6.setCell (adr w5.heap.size) (.bool false)):=Ext.setCell x6 (a:=⟨w5.heap.size,0,none⟩) (.inr (Nat.le_refl _)) _
 generalize w6.setCell (adr w5.heap.size) (.bool false)=w7 at *
 have y7:=(x4.then x5).then x7
 have hz4:=B4.lt
 have hz5:=x5.size
 have hk:=hB.lt
 have hx5:=x4.size
 have B47:Blk w7 w.heap.size 33 [.pointer (some (adr k))]:=(B4.ext x5 id).ext x7 id
 refine ⟨some (adr k),(B47.at (j:=0) rfl).cell,?_⟩
 refine (j_4 (X:=fun b=>b=w5.heap.size) (P:=PNf k A4 L4 C4 A L C A3 L3 C3 types w.heap.size w5.heap.size) (by show ¬ k=w5.heap.size;omega) (p_H (by omega) (by omega) (by omega)) (hB.ext y7 id) (hT.keep y7.keep) (hR.keep y7.keep) (hl.keep y7.keep) (hl'.keep y7.keep) ok1 ok2 ⟨B47,hB.ext y7 id,hT.keep y7.keep,false,B7,by simp⟩).mono ?_
 rintro _ w10 ⟨rfl,s10,-, -, -, b,B10,hb⟩
 refine ⟨rfl,⟨s10.kt _ (by decide),trivial⟩,b,(B10.at (j:=0) rfl).cell,b,rfl,y7.trans s10.ext fun k' hk' e=>?_,hb⟩
 have e:k'=w5.heap.size:=e
 omega
end
def p_y (pd:Option Def)(n:BA):Prop:=pd≠none/\fldD pd n=none
def p_E:Ev->Prop
 | .fld s pd=>p_y pd (o_J s)
 | _=>False
theorem FldAt.none_iff {c:WCtx}{w:World}{d:Option Fld}{q:OA}(h:FldAt c w d q):q.isNone=true↔d=none:=by
 cases d with
 | none=>rw [show q=none from h];simp
 | some f=>
  obtain ⟨fb,A,L,C,tb,rfl,-⟩:=h
  simp
section
variable {c:WCtx} {ae cnt:Nat} {bad:Ev->Prop} {l:List Ev} {w:World} {cx:Option OpD} {co:OA} {vm:Nat} {evs:List Value} {node:Value} {ev:Ev}
theorem p_F (hbad:∀ e,bad e↔p_E e)(hne:ae≠cnt)(hc:StB bad ae cnt l w)(hw:Wst c cx co vm evs w)(hk:slot ev=1)(hn:f_i c cx w node ev):
  CP 169 #[.pointer (some (adr c.wb)),node,.pointer (some (adr ae))] w fun e w'=>e=.returned (.tuple #[])/\Ext (fun b=>b=cnt∨b=ae) w w'/\StB bad ae cnt (l++[ev]) w':=by
 cases ev with
 | fld s pd=>
  obtain ⟨b,q,q8,rfl,hp,hq,hF,hq8,hQ,-⟩:=hn
  have hB1:bad (.fld s pd)↔p_y pd (o_J s):=hbad _
  have hpos:∃ (A1:OA) (L1 C1:Nat) (A2:OA) (L2 C2:Nat) (A3:OA) (L3 C3:Nat) (pos:OA) (al n:BA),c.M b/\Blk c.w0 b 192 [.string al,.string n,.slice A1 L1 C1,.slice A2 L2 C2,.slice A3 L3 C3,.pointer pos,.pointer none,.pointer none,.pointer none]:=by
   obtain ⟨k,al,n,on,args,dirs,kids⟩:=s
   simp only [PSel] at hp
   rcases hp with ⟨-, b',A1,L1,C1,A2,L2,C2,A3,L3,C3,pos,he,hM,hB,-⟩|⟨-, b',_,_,_,pos,he,-⟩|⟨-, b',_,_,_,_,_,_,pos,he,-⟩
   ·obtain rfl:b=b':=by
     have:=he
     simp only [Value.iface.injEq,Value.pointer.injEq,Option.some.injEq,true_and] at this
     exact congrArg Addr.block this
    exact ⟨A1,L1,C1,A2,L2,C2,A3,L3,C3,pos,al,n,hM,hB⟩
   ·simp at he
   ·simp at he
  obtain ⟨A1,L1,C1,A2,L2,C2,A3,L3,C3,pos,al,n,hM,hB⟩:=hpos
  refine p_q (some (adr c.wb)) (some (adr b)) (adr ae) w _ fun K4 hK4=>?_
  have key4:∀ z:Bool,(z=true↔¬ p_y pd (o_J s))->K4 z w:=by
   intro z hz
   refine hK4 z w ⟨fun h=>⟨rfl,Ext.refl w,StB.good hc fun hbd=>hz.1 h (hB1.1 hbd)⟩,fun h=>fun w7 e7=>?_⟩
   have hbd:p_y pd (o_J s):=Classical.byContradiction fun k=>by rw [hz.2 k] at h;cases h
   have x7:EF w w7:=by rw [e7];exact (Ext.refl w).drew
   have c7:=Cnt.ext hc x7 id id
   have a7:=(hw.wk.trans (Wk.ofExt x7 fun _ _=>id)).at (a:=⟨b,5,none⟩) hM (hB.at (j:=5) rfl) rfl
   refine ⟨_,(c7.1.at (j:=0) rfl).cell,adr b,rfl,pos,a7.cell,?_⟩
   exact tell0 c7 a7 hne rfl fun w' x' c'=>⟨rfl,(x7.toM _).trans x' fun _ _ e=>e,StB.told c' (hB1.2 hbd)⟩
  refine ⟨adr b,rfl,q8,hq8,fun h8=>⟨adr b,rfl,q,hq,key4 _ ?_⟩,fun h8=>key4 true ⟨fun _ k=>k.1 (hQ.isNone.1 h8),fun _=>rfl⟩⟩
  have hd:pd≠none:=fun k=>by rw [hQ.isNone.2 k] at h8;cases h8
  constructor
  ·intro h k
   have:=(FldAt.none_iff hF).2 k.2
   rw [this] at h
   cases h
  ·intro h
   cases hqn:q.isNone with
   | false=>rfl
   | true=>exact absurd ⟨hd,(FldAt.none_iff hF).1 hqn⟩ h
 | _=>cases hk
end
section
variable {types:List Def} {dirs:List DirDef} {defs:List SchemaDef}
def CompR (types:List Def)(u:BA)(pd:Option Def):Prop:=pd≠none↔compK (findD types u).1.kind
theorem p_B (hO:OkSchema types dirs defs){u:BA}(h:compK (findD types u).1.kind):CompR types u (lastN Def.name (a_P++types) u):=by
 refine ⟨fun _=>h,fun _=>?_⟩
 rw [c_N hO]
 cases hf:(findD types u).2 with
 | true=>simp
 | false=>
  rw [e_z hf] at h
  rcases h with h|h|h<;>exact absurd h (by decide)
theorem p_D {k:BA}(h:compK k):k≠b_f:=fun e=>by
 rcases h with h|h|h<;>rw [e] at h<;>exact absurd h (by decide)
theorem p_I {u:BA}{pd:Option Def}(hR:Rel types u pd)(hC:CompR types u pd)(n:BA):p_y pd n↔compK (findD types u).1.kind/\(b_K types u n).2=false:=by
 unfold p_y
 rw [show (pd≠none↔compK (findD types u).1.kind) from hC]
 by_cases hn:n=bTn
 ·subst hn
  constructor
  ·rintro ⟨-, h⟩
   rw [fldD,if_pos rfl] at h
   cases h
  ·rintro ⟨hc,h⟩
   rw [b_P (show b_e types u bTn=some (tnFld bTn) by rw [b_e,if_pos ⟨rfl,hc⟩])] at h
   cases h
 ·rw [(hR n hn).1]
  cases hS:b_e types u n with
  | none=>simp [c_f hS]
  | some f=>simp [b_P hS]
def walkN (x:Sel × Option Def):Prop:=p_E (.fld x.1 x.2)
theorem p_C (hO:OkSchema types dirs defs){c:WCtx}(ht:c.types=a_P++types):∀ (ks:List Sel) (u:BA) (pd:Option Def),a_z ks->Rel types u pd->CompR types u pd->(∀ n∈condL ks,compK (findD types n).1.kind)->(∀ x∈atL types u ks,¬ badLf types x)->((∃ x∈flL c.types pd ks,walkN x)↔∃ x∈atL types u ks,badNf types x)
 | [],u,pd,_,_,_,_,_=>by simp [flL,atL]
 | .mk k al n on args dirs' kids::l,u,pd,ok,hR,hCo,hC,hL=>by
  simp only [a_z,okSel] at ok
  have hCl:∀ n∈condL l,compK (findD types n).1.kind:=fun m hm=>hC m (by simp only [condL,List.mem_append];exact .inr hm)
  have hLl:∀ x∈atL types u l,¬ badLf types x:=fun x hx=>hL x (by simp only [atL,List.mem_append];exact .inr hx)
  have ihl:=p_C hO ht l u pd ok.2 hR hCo hCl hLl
  have hCk:∀ n∈condL kids,compK (findD types n).1.kind:=fun m hm=>hC m (by
   simp only [condL,condS,List.mem_append]
   exact .inl (.inr hm))
  have hLk:∀ x∈atL types (downS types u k n on) kids,¬ badLf types x:=fun x hx=>hL x (by
   simp only [atL,List.mem_append]
   rw [o_N]
   exact .inl (List.mem_cons_of_mem _ hx))
  have hown:¬ badLf types (.mk k al n on args dirs' kids,u):=hL _ (by
   simp only [atL,List.mem_append]
   rw [o_N]
   exact .inl (by simp))
  have key:(∃ x∈flS c.types pd (.mk k al n on args dirs' kids),walkN x)↔∃ x∈atS types u (.mk k al n on args dirs' kids),badNf types x:=by
   rw [o_N]
   by_cases hk0:k=0
   ·subst hk0
    have hkids:(∃ x∈flL c.types (nextD c.types pd n) kids,walkN x)↔∃ x∈atL types (downS types u 0 n on) kids,badNf types x:=by
     cases hkk:kids with
     | nil=>simp [flL,atL]
     | cons s0 r0=>
      rw [<- hkk]
      have hm:0<kids.length:=by rw [hkk];simp
      have hn:n≠bTn:=fun e=>hown (.inr ⟨rfl,e,hm⟩)
      obtain ⟨hE,hK⟩:=hR n hn
      have hd:downS types u 0 n on=a_n (b_K types u n).1.t:=by rw [downS,if_pos rfl]
      have hx:nextD c.types pd n=(b_e types u n).bind fun f=>lastN Def.name c.types (a_w f.t):=by rw [nextD,hE]
      have hRC:Rel types (downS types u 0 n on) (nextD c.types pd n)/\CompR types (downS types u 0 n on) (nextD c.types pd n):=by
       rw [hd,hx]
       cases hS:b_e types u n with
       | none=>
        rw [c_f hS]
        have he:=e_z (m_h hO)
        refine ⟨o_I (fun d hd=>by cases hd) he,fun h=>absurd rfl h,fun h=>?_⟩
        have h:compK (findD types E0).1.kind:=h
        rw [he] at h
        rcases h with h|h|h<;>exact absurd h (by decide)
       | some f=>
        have hcomp:compK (findD types (a_n f.t)).1.kind:=Classical.byContradiction fun k=>hown (.inl ⟨rfl,by rw [b_P hS],by
         rw [b_P hS]
         exact fun h=>k (h.2 hm)⟩)
        rw [b_P hS]
        show Rel types (a_n f.t) (lastN Def.name c.types (a_w f.t))/\CompR types (a_n f.t) (lastN Def.name c.types (a_w f.t))
        rw [ht,<- baseName_eq']
        exact ⟨j_O hO (hK f hS).2,p_B hO hcomp⟩
      exact p_C hO ht kids _ _ ok.1.2.2.2.1 hRC.1 hRC.2 hCk hLk
    rw [p_i]
    simp only [List.mem_cons,exists_eq_or_imp]
    rw [hkids]
    refine or_congr_left ?_
    show p_y pd n↔(0=(0:Int)/\compK (findD types u).1.kind/\(b_K types u n).2=false)
    rw [p_I hR hCo]
    simp
   ·have hno:¬ badNf types (.mk k al n on args dirs' kids,u):=fun h=>hk0 h.1
    simp only [List.mem_cons,exists_eq_or_imp,hno,false_or]
    by_cases hk1:k=1
    ·have hkk:=(ok.1.2.2.2.2.1 hk1).2
     subst hkk
     rw [p_j hk1]
     simp [atL]
    ·rw [p_k hk0 hk1]
     have hk2:k=2:=by omega
     have hd:downS types u k n on=if on=E0 then u else on:=by rw [downS,if_neg hk0]
     have hRC:Rel types (downS types u k n on) (inlD c.types pd on)/\CompR types (downS types u k n on) (inlD c.types pd on):=by
      rw [hd,inlD]
      by_cases ho:on=E0
      ·rw [if_pos ho,if_pos ho];exact ⟨hR,hCo⟩
      ·have hc:=hC on (by
        simp only [condL,condS,List.mem_append]
        exact .inl (.inl (by rw [if_pos ⟨hk2,ho⟩];simp)))
       rw [if_neg ho,if_neg ho,ht]
       exact ⟨j_O hO (p_D hc),p_B hO hc⟩
     exact p_C hO ht kids _ _ ok.1.2.2.2.1 hRC.1 hRC.2 hCk hLk
  simp only [flL,atL,List.mem_append]
  constructor
  ·rintro ⟨x,hx|hx,h⟩
   ·obtain ⟨y,hy,h⟩:=key.1 ⟨x,hx,h⟩
    exact ⟨y,.inl hy,h⟩
   ·obtain ⟨y,hy,h⟩:=ihl.1 ⟨x,hx,h⟩
    exact ⟨y,.inr hy,h⟩
  ·rintro ⟨x,hx|hx,h⟩
   ·obtain ⟨y,hy,h⟩:=key.2 ⟨x,hx,h⟩
    exact ⟨y,.inl hy,h⟩
   ·obtain ⟨y,hy,h⟩:=ihl.2 ⟨x,hx,h⟩
    exact ⟨y,.inr hy,h⟩
end
abbrev p_J (types:List Def)(roots:List RootD)(ops:List OpD)(frags:List Frag):Prop:=∃ x∈atAll types roots ops frags,badNf types x
theorem p_G (types:List Def)(dirs:List DirDef)(defs:List SchemaDef)(ops:List OpD)(frags:List Frag)(hO:OkSchema types dirs defs)(h12:ops.length<=12)(h12':frags.length<=12)(ok1:∀ x∈ops,okOp x)(ok2:∀ x∈frags,b_j x)(hs:docW ops frags<=2097152)(hS:SoundD types (a_F types defs) ops frags)(hN:¬ leafD types (a_F types defs) ops frags)(hty:∀ x∈types,∀ y∈x.fields,typW y.t<=2097152):
  RuleOK 63 (wideD types dirs (a_F types defs)) ops frags fun n=>0<=n/\(n>0↔p_J types (a_F types defs) ops frags):=by
 refine ⟨⟨_,Tryz.func63,by kernel_rfl⟩,?_⟩
 intro c cnt hops hfrags hwd hb hB hcnt hne hMc hMe
 subst hops
 subst hfrags
 obtain ⟨rf,hrf⟩:=l_q hS.ac
 have ht:c.types=a_P++types:=hwd.1
 have x3:EF c.w0 (c.w0.alloc (.cells #[.func (.func 102) #[] #[.pointer (some (adr cnt))]] 152)):=(Ext.refl c.w0).alloc _
 have Bae:=Blk.made c.w0 152 [.func (.func 102) #[] #[.pointer (some (adr cnt))]]
 refine p_s (some (adr c.eb)) _ c.w0 _ ?_
 refine p_r (some (adr c.eb)) _ false c.w0 _ ⟨⟨rfl,trivial⟩,?_⟩
 have hlc:=hcnt.lt
 have hle:=hB.lt
 replace Bae:Blk (c.w0.alloc (.cells #[.func (.func 102) #[] #[.pointer (some (adr cnt))]] 152)) c.w0.heap.size 152 [.func (.func 102) #[] #[.pointer (some (adr cnt))]]:=Bae
 generalize hw3:c.w0.alloc (.cells #[.func (.func 102) #[] #[.pointer (some (adr cnt))]] 152)=w3
 replace x3:EF c.w0 w3:=by rw [<- hw3];exact x3
 replace Bae:Blk w3 c.w0.heap.size 152 [.func (.func 102) #[] #[.pointer (some (adr cnt))]]:=by rw [<- hw3];exact Bae
 clear hw3
 have hla:=Bae.lt
 refine (c_9 (f:=.func (.func 169) #[] #[.pointer (some (adr c.w0.heap.size))]) rfl (hB.ext x3 id) rfl).mono ?_
 rintro _ w5 ⟨rfl,p,C,B5,ap,hpb,x5⟩
 have y5:Ext (fun b=>b=c.eb) c.w0 w5:=(x3.toM _).trans x5 fun _ _ e=>e
 have hz5:=x5.size
 have hae:c.w0.heap.size≠cnt:=by omega
 have Bae5:=Bae.ext x5 (by show ¬ c.w0.heap.size=c.eb;omega)
 have Bc5:=hcnt.ext y5 hne
 obtain ⟨ae,hae'⟩:∃ ae,ae=c.w0.heap.size:=⟨_,rfl⟩
 rw [<- hae'] at Bae5 hae ap
 have hVM:∀ b,b=cnt∨b=ae->¬ c.M b:=fun b hV hM=>by
  have:=hb.m b hM
  rcases hV with rfl|rfl
  ·exact hMc hM
  ·omega
 refine ⟨rfl,trivial,rfl,trivial,rfl,y5,fun b=>b=cnt∨b=ae,StB p_E ae cnt,obL [(1,p,C)],rf,?_,fun b hb'=>?_,fun b hb' T cs fr ho=>?_,fun l w'' hl ht'=>?_⟩
 ·refine n_H hb hrf hMe y5 (fun b hb'=>?_) hlc hne hMc hle (fun l w w'' h hx=>Cnt.ext h hx (fun e=>e (.inr rfl)) fun e=>e (.inl rfl)) (Cnt.zero Bae5 Bc5 (by simp)) B5 fun b5 wb fm fl j=>o_M (fun x hx=>?_) j
  ·rcases hb' with rfl|hb'
   ·exact .inl rfl
   ·exact .inr (by omega)
  simp only [List.mem_cons,List.not_mem_nil,or_false] at hx
  subst hx
  refine ⟨_,_,[.pointer (some (adr ae))],_,ap,fun h=>?_,fun h=>?_,Tryz.func169,by kernel_rfl,fun l w1 cx co vm evs node ev hl hw hk hn=>p_F (fun e=>Iff.rfl) hae hl hw hk hn⟩
  ·have:p.block<c.w0.heap.size:=hb.m _ h
   omega
  ·have:p.block=cnt∨p.block=ae:=h
   omega
 ·rcases hb' with rfl|hb'
  ·exact .inr (Nat.le_refl _)
  ·exact .inr (by omega)
 ·rcases hb' with rfl|rfl
  ·rw [Bc5.type ho];decide
  ·rw [Bae5.type ho];decide
 ·obtain ⟨-, n,hn,hk⟩:=hl
  have hsm:=o_K (c:={ c with V:=fun b=>b=cnt∨b=ae,St:=StB p_E ae cnt,w0:=w5,rf:=rf}) (ob:=obL [(1,p,C)]) h12 h12' hs
  obtain ⟨k1,k2,k3⟩:=hk (Nat.le_trans (Nat.le_trans ht'.few hsm) (by decide))
  refine ⟨n,hn,k1,k3.trans ((ht'.bad fun e hbad=>?_).trans ?_)⟩
  ·cases e with
   | fld s=>rfl
   | _=>cases hbad
  ·have hin:∀ n∈c_H c.ops c.frags,compK (findD types n).1.kind:=fun n hn=>hS.co n hn
   have hroot:∀ x∈c.ops,rootT c x.kind=lastN Def.name (a_P++types) (rootD (a_F types defs) x.kind):=fun x hx=>by
    obtain ⟨-, -, e1,e2,e3⟩:=hwd
    rcases (ok1 x hx).1 with h|h|h
    ·rw [m_9 (.inl h),e1,ht,h];rfl
    ·rw [m_8 (by rw [h];rintro (k|k)<;>exact absurd k (by decide)) h,e2,ht,h];rfl
    ·rw [n_a (by rw [h];rintro (k|k)<;>exact absurd k (by decide)) (by rw [h];decide) h,e3,ht,h];rfl
   have hrk:∀ x∈c.ops,compK (findD types (rootD (a_F types defs) x.kind)).1.kind:=fun x hx=>by
    have hne:=hS.rt x hx
    unfold rootD at hne ⊢
    split at hne
    ·rename_i r hr
     show compK (findD types r.t).1.kind
     rw [hO.roots.2.2.2 r (List.mem_of_find?_eq_some hr)]
     exact .inl rfl
    ·exact absurd rfl hne
   have hop:∀ x∈c.ops,((∃ y∈flL c.types (rootT c x.kind) x.kids,walkN y)↔∃ y∈atL types (rootD (a_F types defs) x.kind) x.kids,badNf types y):=fun x hx=>
    p_C hO ht x.kids _ _ (ok1 x hx).2.2.2 (by rw [hroot x hx];exact j_O hO (p_D (hrk x hx))) (by rw [hroot x hx];exact p_B hO (hrk x hx)) (fun n hn=>hin n (List.mem_append.2 (.inr (List.mem_flatMap.2 ⟨x,hx,hn⟩)))) fun y hy hb=>hN ⟨y,List.mem_append.2 (.inl (List.mem_flatMap.2 ⟨x,hx,hy⟩)),hb⟩
   have hfr:∀ f∈c.frags,((∃ y∈flL c.types (lastN Def.name c.types f.on) f.kids,walkN y)↔∃ y∈atL types f.on f.kids,badNf types y):=fun f hf=>
    p_C hO ht f.kids _ _ (ok2 f hf).2.1 (by rw [ht];exact j_O hO (p_D (hin f.on (List.mem_append.2 (.inl (List.mem_flatMap.2 ⟨f,hf,by simp⟩)))))) (by rw [ht];exact p_B hO (hin f.on (List.mem_append.2 (.inl (List.mem_flatMap.2 ⟨f,hf,by simp⟩))))) (fun n hn=>hin n (List.mem_append.2 (.inl (List.mem_flatMap.2 ⟨f,hf,by simp [hn]⟩)))) fun y hy hb=>hN ⟨y,List.mem_append.2 (.inr (List.mem_flatMap.2 ⟨f,hf,hy⟩)),hb⟩
   constructor
   ·rintro ⟨e,hdoc,hbad⟩
    cases e with
    | fld s pd=>
     rcases k_j.1 hdoc with ⟨x,hx,h⟩|⟨f,hf,h⟩
     ·obtain ⟨y,hy,hyb⟩:=(hop x hx).1 ⟨_,h,hbad⟩
      exact ⟨y,List.mem_append.2 (.inl (List.mem_flatMap.2 ⟨x,hx,hy⟩)),hyb⟩
     ·obtain ⟨y,hy,hyb⟩:=(hfr f hf).1 ⟨_,h,hbad⟩
      exact ⟨y,List.mem_append.2 (.inr (List.mem_flatMap.2 ⟨f,hf,hy⟩)),hyb⟩
    | _=>cases hbad
   ·rintro ⟨y,hy,hyb⟩
    rcases List.mem_append.1 hy with hy|hy
    ·obtain ⟨x,hx,hy⟩:=List.mem_flatMap.1 hy
     obtain ⟨⟨s,pd⟩,h,hb'⟩:=(hop x hx).2 ⟨y,hy,hyb⟩
     exact ⟨.fld s pd,k_j.2 (.inl ⟨x,hx,h⟩),hb'⟩
    ·obtain ⟨f,hf,hy⟩:=List.mem_flatMap.1 hy
     obtain ⟨⟨s,pd⟩,h,hb'⟩:=(hfr f hf).2 ⟨y,hy,hyb⟩
     exact ⟨.fld s pd,k_j.2 (.inr ⟨f,hf,h⟩),hb'⟩
theorem p_t {P:Int->Prop}{wd:WorldD}{a1:OA}{l1 c1:Nat}{a2:OA}{l2 c2:Nat}{a6:OA}{l6 c6:Nat}{a7:OA}{l7 c7:Nat}{q8:OA}{q8l q8c:Nat}{q9:OA}{q9l q9c:Nat}{ops:List OpD}{frags:List Frag}{w:World}
  (hw:c_6 w wd [.slice a1 l1 c1,.slice a2 l2 c2,.string wd.query,.string wd.mutation,.string wd.subscription,.slice a6 l6 c6,.slice a7 l7 c7]) (ok3:∀ x∈wd.dirs,∀ y∈x.args,a_s y) (ok4:∀ x∈wd.types,okDef x)
  (few6:(pushD wd.types wd.possible).length<=4194304) (few7:(pushD wd.types wd.implements).length<=4194304) (hl1:ROps w q8 q8l q8c ops) (hl2:a_X w q9 q9l q9c frags) (ok1:∀ x∈ops,okOp x) (ok2:∀ x∈frags,b_j x) (hr:RuleOK 63 wd ops frags P) (hB0:DB.B<=w.heap.size):
  CP 22 #[.agg #[.slice a1 l1 c1,.slice a2 l2 c2,.string wd.query,.string wd.mutation,.string wd.subscription,.slice a6 l6 c6,.slice a7 l7 c7],.agg #[.slice q8 q8l q8c,.slice q9 q9l q9c]] w fun e w'=>
   ∃ n,e=.returned (.tuple #[.int .i64 n,.bool true])/\P n/\EF w w':=by
 have x11:EF w (w.alloc (.cells #[.slice a1 l1 c1,.slice a2 l2 c2,.string wd.query,.string wd.mutation,.string wd.subscription,.slice a6 l6 c6,.slice a7 l7 c7] 40)):=(Ext.refl w).alloc _
 have x12:=x11.alloc (.cells #[.slice q8 q8l q8c,.slice q9 q9l q9c] 30)
 refine p_u a1 l1 c1 a2 l2 c2 wd.query wd.mutation wd.subscription a6 l6 c6 a7 l7 c7 q8 q8l q8c q9 q9l q9c w _ ⟨trivial,trivial,?_⟩
 refine (j_d (c_6.keep x12.keep hw) ok3 ok4 few6 few7 (hl1.keep x12.keep) (hl2.keep x12.keep) ok1 ok2 hr (Nat.le_trans hB0 x12.size)).mono ?_
 rintro _ w' ⟨n,rfl,hp,hx⟩
 exact ⟨n,true,rfl,⟨hx.keepT _,hx.keepT _,trivial⟩,n,rfl,hp,x12.then hx⟩
theorem p_A
  {d1:OA} {d1l d1c:Nat} {d2:OA} {d2l d2c:Nat} {d3:OA} {d3l d3c:Nat} {d4:OA} {d4l d4c:Nat} {d5:OA} {d5l d5c:Nat} {q6:OA} {q6l q6c:Nat} {q7:OA} {q7l q7c:Nat} {defs exts:List SchemaDef} {dirs:List DirDef} {types texts:List Def} {ops:List OpD} {frags:List Frag} {w:World}
  (h1:a_p w d1 d1l d1c defs) (h2:a_p w d2 d2l d2c exts) (h3:a_Y w d3 d3l d3c dirs) (h4:RDefs w d4 d4l d4c types) (h5:RDefs w d5 d5l d5c texts) (hs:d1l+d2l<=4194304) (hsp:docW ops frags<=2097152) (hty:∀ x∈types,∀ y∈x.fields,typW y.t<=2097152) (h6:ROps w q6 q6l q6c ops) (h7:a_X w q7 q7l q7c frags) (hB0:DB.B<=w.heap.size):
  CP 5 #[.agg #[.slice d1 d1l d1c,.slice d2 d2l d2c,.slice d3 d3l d3c,.slice d4 d4l d4c,.slice d5 d5l d5c],.agg #[.slice q6 q6l q6c,.slice q7 q7l q7c]] w fun e w'=>e=.returned (.bool true)/\EF w w':=by
 have x8:EF w (w.alloc (.cells #[.slice d1 d1l d1c,.slice d2 d2l d2c,.slice d3 d3l d3c,.slice d4 d4l d4c,.slice d5 d5l d5c] 26)):=(Ext.refl w).alloc _
 have x9:=x8.alloc (.cells #[.slice q6 q6l q6c,.slice q7 q7l q7c] 30)
 refine p_v d1 d1l d1c d2 d2l d2c d3 d3l d3c d4 d4l d4c d5 d5l d5c q6 q6l q6c q7 q7l q7c w _ ⟨trivial,trivial,fun K10 hK10=>?_⟩
 have key10:∀ b w',EF w w'->K10 b w':=by
  intro b w' xw
  refine hK10 b w' ⟨fun _=>⟨rfl,xw⟩,fun _=>?_⟩
  refine (n_5 (h1.keep xw.keep) (h2.keep xw.keep) (h3.keep xw.keep) (h4.keep xw.keep) (h5.keep xw.keep) hs (Nat.le_trans hB0 xw.size)).mono ?_
  rintro _ w14 ⟨q15,b16,rfl,x14,hok⟩
  refine ⟨q15,b16,rfl,⟨x14.keepT _,x14.keepT _,trivial⟩,fun K17 hK17=>?_⟩
  have y14:=xw.then x14
  have key17:∀ b w',EF w14 w'->(b=false->b16=true/\ops.length<=12/\frags.length<=12/\(∀ x∈ops,okOp x)/\(∀ x∈frags,b_j x)/\SoundD types (a_F types defs) ops frags/\¬ leafD types (a_F types defs) ops frags)->K17 b w':=by
   intro b w19 x19 hb
   have y19:=y14.then x19
   refine hK17 b w19 ⟨fun _=>⟨rfl,y19⟩,fun hbf=>?_⟩
   obtain ⟨hb16,n1,n2,ok1,ok2,hS,hP⟩:=hb hbf
   obtain ⟨k,rfl,A,L,C,hB,hR,hO⟩:=hok hb16
   intro w20 e20
   have x20:EF w19 w20:=by rw [e20];exact (Ext.refl w19).drew
   have y20:=y19.then x20
   have z20:=x19.then x20
   refine (i_8 (hB.ext z20 id) (h4.keep y20.keep) (hR.keep z20.keep) (h3.keep y20.keep) hO.few.1 (fun t ht=>by have:=hO.small t ht;omega) hO.few.2 (Nat.le_trans hB0 y20.size)).mono ?_
   rintro _ w22 ⟨cs,rfl,hW,x22⟩
   obtain ⟨ok3,ok4,few6,few7⟩:=k_I hO
   have hW':=hW
   obtain ⟨a1,l1,c1,a2,l2,c2,a6,l6,c6,a7,l7,c7,rfl,-⟩:=hW'
   have y22:=y20.then x22
   refine ⟨a1,l1,c1,a2,l2,c2,_,_,_,a6,l6,c6,a7,l7,c7,rfl,⟨x22.keepT _,x22.keepT _,trivial⟩,⟨rfl,trivial⟩,?_⟩
   refine (p_t hW ok3 ok4 few6 few7 (h6.keep y22.keep) (h7.keep y22.keep) ok1 ok2 (p_G types dirs defs ops frags hO n1 n2 ok1 ok2 hsp hS hP hty) (Nat.le_trans hB0 y22.size)).mono ?_
   rintro _ w31 ⟨n,rfl,⟨hn0,hn⟩,x31⟩
   have y31:=y22.then x31
   refine ⟨n,true,rfl,⟨x31.keepT _,x31.keepT _,trivial⟩,trivial,trivial,trivial,?_⟩
   have z31:=(z20.then x22).then x31
   refine (p_x (Nat.le_trans hB0 y31.size) (hB.ext z31 id) (h4.keep y31.keep) (hR.keep z31.keep) (h6.keep y31.keep) (h7.keep y31.keep) ok1 ok2).mono ?_
   rintro _ w35 ⟨b36,rfl,x35,hb36⟩
   have y35:=y31.then x35
   refine ⟨b36,rfl,⟨x35.keepT _,x35.keepT _,trivial⟩,?_⟩
   refine (j_9 n true b36 w35).mono ?_
   rintro _ w38 ⟨rfl,rfl⟩
   refine ⟨_,rfl,⟨(Ext.refl _).keepT _,(Ext.refl _).keepT _,trivial⟩,?_,y35⟩
   rw [n_f hn0 (hn.trans hb36.symm)]
  refine ⟨fun hb=>?_,fun hb=>key17 true w14 (Ext.refl w14) nofun⟩
  refine (n_7 (h6.keep y14.keep) (h7.keep y14.keep)).mono ?_
  rintro _ w41 ⟨b42,rfl,x41,hsm⟩
  have y41:=y14.then x41
  refine ⟨b42,rfl,⟨x41.keepT _,x41.keepT _,trivial⟩,fun h42=>?_,fun _=>key17 true w41 x41 nofun⟩
  obtain ⟨n1,n2,ok1,ok2⟩:=hsm (by simpa using h42)
  obtain ⟨k,rfl,A,L,C,hB,hR,hO⟩:=hok (by simpa using hb)
  refine (i_c (hB.ext x41 id) (h4.keep y41.keep) (hR.keep x41.keep) (h6.keep y41.keep) (h7.keep y41.keep) ok1 ok2 n2 hsp).mono ?_
  rintro _ w53 ⟨b54,rfl,x53,hS⟩
  have z53:=x41.then x53
  have y53:=y41.then x53
  refine ⟨b54,rfl,⟨x53.keepT _,x53.keepT _,trivial⟩,fun h54=>?_,fun _=>key17 true w53 z53 nofun⟩
  have hS':=hS (by simpa using h54)
  refine (f_W (Nat.le_trans hB0 y53.size) (hB.ext z53 id) (h4.keep y53.keep) (hR.keep z53.keep) (h6.keep y53.keep) (h7.keep y53.keep) ok1 ok2).mono ?_
  rintro _ w56 ⟨b57,rfl,x56,hP⟩
  exact ⟨b57,rfl,⟨x56.keepT _,x56.keepT _,trivial⟩,key17 _ w56 (z53.then x56) fun h=>⟨by simpa using hb,n1,n2,ok1,ok2,hS',fun k=>by rw [hP.2 k] at h;cases h⟩⟩
 refine (f_4 d1 d1l d1c d2 d2l d2c d3 d3l d3c d4 d4l d4c d5 d5l d5c _).mono ?_
 rintro _ w44 ⟨b45,rfl,x44,-⟩
 have y44:=x9.then x44
 refine ⟨b45,rfl,⟨x44.keepT _,x44.keepT _,trivial⟩,fun _=>?_,fun _=>key10 true w44 y44⟩
 refine (f_5 q6 q6l q6c q7 q7l q7c _).mono ?_
 rintro _ w47 ⟨b48,rfl,x47,-⟩
 exact ⟨b48,rfl,⟨x47.keepT _,x47.keepT _,trivial⟩,key10 _ w47 (y44.then x47)⟩
end Go.VC
