/- Part of the proof of a law of a rule over documents (AkA), where what the arguments hold is of bulk at most 1048576. -/
import Derived.Test.YtkgkigklbpefgaaGreatBaseB
import Derived.Test.YtkgkigklbpefgaaGreatWalkD
import Derived.Test.YtkgkigklbpefgaaGreatReadA
import Derived.Test.YtkgkigklbpefgaaGreatSpecE
import Derived.Test.YtkgkigklbpefgaaGreatWalkC
import Derived.Test.YtkgkigklbpefgaaGreatLawA
import Derived.Test.YtkgkigklbpefgaaGreatSpecD
import Derived.ArgAppend
set_option linter.unusedVariables false
set_option linter.unusedSimpArgs false
set_option linter.unusedSectionVars false
set_option linter.deprecated false
namespace Go.VC
open Go Go.Proofs
set_option maxRecDepth 100000
theorem p_O (a:OA)(b:Value)(w:World)(R:EW)(h:
 C0 110 #[.pointer a,b,.bool false] w (fun c=>True/\R (.returned (.tuple #[])) c)):CP 57 #[.pointer a,b] w R:=
 vcq Tryz.func57 [] [] [.l (.optr a),.l (.val b)] h
theorem p_M (a:OA)(b:Value)(c:Bool)(w:World)(R:EW)(h:
 (b.oneCell'=true/\True)/\(let d:=w.alloc (.cells #[b] 161);
 C0 145 #[.pointer a,(.func (.func 174) #[] #[(.pointer (some (adr w.heap.size)))])] d (fun e=>True/\C0 114 #[.pointer a,(.func (.func 176) #[] #[(.pointer (some (adr w.heap.size)))])] e (fun f=>True/\R (.returned (.tuple #[])) f)))):CP 110 #[.pointer a,b,.bool c] w R:=
 vcq Tryz.func110 [] [] [.l (.optr a),.l (.val b),.l (.bool c)] h
theorem p_K (a:OA)(b:OA)(c:Addr)(w:World)(R:EW)(h:
 ∀ d:Bool->World->Prop,(∀ e:Bool,∀ f:World,
 ((Br e (R (.returned (.tuple #[])) f) (Pt b fun g=>Ll f (g.add 2) fun i j k=>∃ (l:Int->World->Prop) (m:Int->World->Nat),l 0 f/\
 (∀ n:Int,∀ o:World,l n o->
 (Br (decide (n<(j:Int))) (∀ p:World->Prop,(∀ q:World,
 ((l (wr (n+1)) q/\m (wr (n+1)) q<m n o))->
 p q)->
 Ix i n j fun r=>Lp o (r.add (n.toNat*1)) fun s=>∀ t,t=o.drew->Pt b fun u=>Lp t (u.add 7) fun v=>Pt v fun x=>Ll t (x.add 2) fun y z A=>Pt s fun B=>Ls t B fun C=>Cp 175 #[.slice y z A,.string C] t (fun D E=>True/\True/\True/\(Br (!D.isNone) (p E) (∀ F,F=E.drew->Lv F c fun G=>Pt s fun H=>Ls F H fun I=>Pt b fun J=>Lp F (J.add 8) fun K=>Pt K fun L=>Ls F (L.add 2) fun M=>Pt b fun N=>Ls F (N.add 1) fun O=>Pt b fun P=>Lp F (P.add 5) fun Q=>True/\(let S:=F.alloc (.cells #[(ifcV (some (9,(.string I)))),(ifcV (some (9,(.string M)))),(ifcV (some (9,(.string O))))] 20);
 ((S.cell? (P.add 5)=F.cell? (P.add 5))/\(S.cell? c=F.cell? c)/\True)/\CP 116 #[(.string (⟨#[85,110,107,110,111,119,110,32,97,114,103,117,109,101,110,116,32,34,37,115,34,32,111,110,32,102,105,101,108,100,32,34,37,115,46,37,115,34,46]⟩:BA)),(.slice (some (adr F.heap.size)) 3 3)] S (fun U V=>∃ W:Value,U=.returned W/\True/\((V.cell? (P.add 5)=S.cell? (P.add 5))/\(V.cell? c=S.cell? c)/\True)/\CP 117 #[.pointer Q] V (fun X Y=>∃ Z:Value,X=.returned Z/\True/\((Y.cell? c=V.cell? c)/\True)/\(W.oneCell'=true/\Z.oneCell'=true/\True)/\(let aa:=Y.alloc (.cells #[W,Z] 181);
 ((aa.cell? c=Y.cell? c)/\True)/\∃ ab ac,G=.func (.func ab) #[] ac.toArray/\∃ ad,Tryz.prog.funcs[ab]? =some ad/\(ad.name== "runtime.NumGoroutine" ||ad.body.isNone)=false/\CP ab ([(.slice (some (adr Y.heap.size)) 2 2)]++ac).toArray aa (fun ae af=>ae=.returned (.tuple #[])/\True/\True/\p af))))))))) (R (.returned (.tuple #[])) o))))))->
 d e f)->
 Pt b fun ag=>Lp w (ag.add 7) fun ah=>(Nr (ah.isNone) (Pt b fun ai=>Lp w (ai.add 8) fun aj=>d aj.isNone w) (d true w))):CP 174 #[.pointer a,.pointer b,(.pointer (some c))] w R:=
 vcq Tryz.func174 [] [(1,⟨[(19,.bool)],[]⟩),(9,⟨[(25,.int .i64)],[]⟩),(16,⟨[],[]⟩)] [.l (.optr a),.l (.optr b),.l (.ptr c)] h
theorem p_L (a:OA)(b:OA)(c:Addr)(w:World)(R:EW)(h:
 Pt b fun d=>Lp w (d.add 4) fun e=>(Br (e.isNone) (R (.returned (.tuple #[])) w) (Pt b fun f=>Ll w (f.add 1) fun g i j=>∃ (k:Int->World->Prop) (l:Int->World->Nat),k 0 w/\
 (∀ m:Int,∀ n:World,k m n->
 (Br (decide (m<(i:Int))) (∀ o:World->Prop,(∀ p:World,
 ((k (wr (m+1)) p/\l (wr (m+1)) p<l m n))->
 o p)->
 Ix g m i fun q=>Lp n (q.add (m.toNat*1)) fun r=>∀ s,s=n.drew->Pt b fun t=>Lp s (t.add 4) fun u=>Pt u fun v=>Ll s (v.add 2) fun x y z=>Pt r fun A=>Ls s A fun B=>Cp 175 #[.slice x y z,.string B] s (fun C D=>True/\True/\True/\(Br (!C.isNone) (o D) (∀ E,E=D.drew->Lv E c fun F=>Pt r fun G=>Ls E G fun H=>Pt b fun I=>Ls E I fun J=>Pt b fun K=>Lp E (K.add 2) fun L=>True/\(let M:=E.alloc (.cells #[(ifcV (some (9,(.string H)))),(ifcV (some (9,(.string J))))] 20);
 ((M.cell? (K.add 2)=E.cell? (K.add 2))/\(M.cell? c=E.cell? c)/\True)/\CP 116 #[(.string (⟨#[85,110,107,110,111,119,110,32,97,114,103,117,109,101,110,116,32,34,37,115,34,32,111,110,32,100,105,114,101,99,116,105,118,101,32,34,64,37,115,34,46]⟩:BA)),(.slice (some (adr E.heap.size)) 2 2)] M (fun N O=>∃ P:Value,N=.returned P/\True/\((O.cell? (K.add 2)=M.cell? (K.add 2))/\(O.cell? c=M.cell? c)/\True)/\CP 117 #[.pointer L] O (fun Q S=>∃ U:Value,Q=.returned U/\True/\((S.cell? c=O.cell? c)/\True)/\(P.oneCell'=true/\U.oneCell'=true/\True)/\(let V:=S.alloc (.cells #[P,U] 181);
 ((V.cell? c=S.cell? c)/\True)/\∃ W X,F=.func (.func W) #[] X.toArray/\∃ Y,Tryz.prog.funcs[W]? =some Y/\(Y.name== "runtime.NumGoroutine" ||Y.body.isNone)=false/\CP W ([(.slice (some (adr S.heap.size)) 2 2)]++X).toArray V (fun Z aa=>Z=.returned (.tuple #[])/\True/\True/\o aa))))))))) (R (.returned (.tuple #[])) n)))))):CP 176 #[.pointer a,.pointer b,(.pointer (some c))] w R:=
 vcq Tryz.func176 [] [(9,⟨[(18,.int .i64)],[]⟩),(16,⟨[],[]⟩)] [.l (.optr a),.l (.optr b),.l (.ptr c)] h
theorem p_R (a:OA)(b c:Nat)(d:OA)(e f:Nat)(g:BA)(i:BA)(j:BA)(k:OA)(l m:Nat)(n:OA)(o p:Nat)(q:OA)(r s:Nat)(t:OA)(u v:Nat)(w:World)(R:EW)(h:
 True/\(let x:=w.alloc (.cells #[.slice a b c,.slice d e f,.string g,.string i,.string j,.slice k l m,.slice n o p] 40);
 True/\(let y:=x.alloc (.cells #[.slice q r s,.slice t u v] 30);
 CP 56 #[(.agg #[.slice a b c,.slice d e f,.string g,.string i,.string j,.slice k l m,.slice n o p]),(.agg #[.slice q r s,.slice t u v]),(.func (.func 57) #[] #[])] y (fun z A=>∃ B,∃ C,z=.returned (.tuple #[.int .i64 B,.bool C])/\(KeepT 40 y A/\KeepT 30 y A/\True)/\R (.returned (.tuple #[.int .i64 B,.bool C])) A)))):CP 17 #[(.agg #[.slice a b c,.slice d e f,.string g,.string i,.string j,.slice k l m,.slice n o p]),(.agg #[.slice q r s,.slice t u v])] w R:=
 vcq Tryz.func17 [2,3] [] [.agg [.slice a b c,.slice d e f,.str g,.str i,.str j,.slice k l m,.slice n o p],.agg [.slice q r s,.slice t u v]] h
set_option maxRecDepth 100000
theorem d_t (a:OA)(b:Value)(w:World)(R:EW)(h:
 Pt a fun c=>Ll w (c.add 1) fun d e f=>(b.oneCell'=true/\True)/\(let g:=w.alloc (.cells #[b] 292);
 Ap 148 (.slice d e f) (.slice (some (adr w.heap.size)) 1 1) g fun i j k l=>True/\Pt a fun m=>Off l (m.add 1) 1 []/\True/\(let n:=(l.setCell (m.add 1) (.slice i j k));
 R (.returned (.tuple #[])) n))):CP 145 #[.pointer a,b] w R:=
 vcq Tryz.func145 [] [] [.l (.optr a),.l (.val b)] h
variable [DB]
theorem c_9 {eb:Nat}{f:Value}{evs:List Value}{w:World}(hf:a_v f)(hB:Blk w eb 157 evs)(hj:evs[1]? =some (.slice none 0 0)):
  CP 145 #[.pointer (some (adr eb)),f] w fun e w'=>e=.returned (.tuple #[])/\∃ (p:Addr) (C:Nat),Blk w' eb 157 (evs.set 1 (.slice (some p) 1 C))/\At w' 292 p f/\w.heap.size<=p.block/\Ext (fun b=>b=eb) w w':=by
 obtain ⟨p,C,w7,r7,ha,hp,hx,-⟩:=m_z 148 292 Tryz.t292 _ _ (by kernel_rfl) (by kernel_rfl) rfl (by kernel_rfl) rfl (by kernel_rfl) (by decide) (w:=w) hf 148 #[false,false];have hB7:=hB.ext hx id;have hlt:=hB.lt;have hl:1+1<=evs.length:=(List.getElem?_eq_some_iff.1 hj).1;have hs:Ext (fun b=>b=eb) w7 (w7.setCell ⟨eb,1,none⟩ (.slice (some p) 1 C)):=Ext.setCell (X:=fun b=>b=eb) (Ext.refl _) (a:=⟨eb,1,none⟩) (.inl rfl) _;refine d_t (some (adr eb)) f w _ ⟨adr eb,rfl,none,0,0,(hB.at (j:=1) hj).cell,⟨hf.one,trivial⟩,some p,1,C,w7,r7,trivial,adr eb,rfl,hB7.off (j:=1) (n:=1) (q:=fun _=>false) hl rfl,trivial,rfl,p,C,hB7.set 1 _,hs.at (by show ¬ p.block=eb;omega) ha,hp,(hx.toM _).trans hs fun _ _ e=>e⟩
end Go.VC
namespace Go.VC
open Go Go.Proofs
set_option maxRecDepth 100000
theorem p_T (a:OA)(b:Value)(w:World)(R:EW)(h:
 Pt a fun c=>Ll w (c.add 5) fun d e f=>(b.oneCell'=true/\True)/\(let g:=w.alloc (.cells #[b] 197);
 Ap 152 (.slice d e f) (.slice (some (adr w.heap.size)) 1 1) g fun i j k l=>True/\Pt a fun m=>Off l (m.add 5) 1 []/\True/\(let n:=(l.setCell (m.add 5) (.slice i j k));
 R (.returned (.tuple #[])) n))):CP 114 #[.pointer a,b] w R:=
 vcq Tryz.func114 [] [] [.l (.optr a),.l (.val b)] h
variable [DB]
theorem p_S {eb:Nat}{f:Value}{evs:List Value}{w:World}(hf:a_v f)(hB:Blk w eb 157 evs)(hj:evs[5]? =some (.slice none 0 0)):
  CP 114 #[.pointer (some (adr eb)),f] w fun e w'=>e=.returned (.tuple #[])/\∃ (p:Addr) (C:Nat),Blk w' eb 157 (evs.set 5 (.slice (some p) 1 C))/\At w' 197 p f/\w.heap.size<=p.block/\Ext (fun b=>b=eb) w w':=by
 obtain ⟨p,C,w7,r7,ha,hp,hx,-⟩:=m_z 152 197 Tryz.t197 _ _ (by kernel_rfl) (by kernel_rfl) rfl (by kernel_rfl) rfl (by kernel_rfl) (by decide) (w:=w) hf 152 #[false,false];have hB7:=hB.ext hx id;have hlt:=hB.lt;have hl:5+1<=evs.length:=(List.getElem?_eq_some_iff.1 hj).1;have hs:Ext (fun b=>b=eb) w7 (w7.setCell ⟨eb,5,none⟩ (.slice (some p) 1 C)):=Ext.setCell (X:=fun b=>b=eb) (Ext.refl _) (a:=⟨eb,5,none⟩) (.inl rfl) _;refine p_T (some (adr eb)) f w _ ⟨adr eb,rfl,none,0,0,(hB.at (j:=5) hj).cell,⟨hf.one,trivial⟩,some p,1,C,w7,r7,trivial,adr eb,rfl,hB7.off (j:=5) (n:=1) (q:=fun _=>false) hl rfl,trivial,rfl,p,C,hB7.set 5 _,hs.at (by show ¬ p.block=eb;omega) ha,hp,(hx.toM _).trans hs fun _ _ e=>e⟩
abbrev StK (bad:Ev->Prop)(ae cnt:Nat)(l:List Ev)(w:World):Prop:=Cnt ae cnt (l.length*4194304) (∃ e∈l,bad e) w
abbrev InK (bad:Ev->Prop)(ae cnt:Nat)(l:List Ev)(k:Nat)(b:Prop)(w:World):Prop:=Cnt ae cnt (l.length*4194304+k) ((∃ e∈l,bad e)∨b) w
theorem InK.start {bad:Ev->Prop}{ae cnt:Nat}{l:List Ev}{w:World}{b:Prop}(h:StK bad ae cnt l w)(hb:¬ b):InK bad ae cnt l 0 b w:=Cnt.skip h (by omega) ⟨.inl,fun k=>k.elim id fun k=>absurd k hb⟩
theorem InK.good {bad:Ev->Prop}{ae cnt:Nat}{l:List Ev}{w:World}{k k':Nat}{b b':Prop}(h:InK bad ae cnt l k b w)(hk:k<=k')(hb:b↔b'):InK bad ae cnt l k' b' w:=Cnt.skip h (by omega) ⟨fun k=>k.imp id hb.1,fun k=>k.imp id hb.2⟩
theorem InK.told {bad:Ev->Prop}{ae cnt:Nat}{l:List Ev}{w:World}{k k':Nat}{b':Prop}(h:Cnt ae cnt (l.length*4194304+k+1) True w)(hk:k+1<=k')(hb:b'):InK bad ae cnt l k' b' w:=Cnt.skip h (by omega) ⟨fun _=>.inr hb,fun _=>trivial⟩
theorem InK.stop {bad:Ev->Prop}{ae cnt:Nat}{l:List Ev}{w:World}{k:Nat}{b:Prop}{ev:Ev}(h:InK bad ae cnt l k b w)(hk:k<=4194304)(hb:b↔bad ev):StK bad ae cnt (l++[ev]) w:=
 Cnt.skip h (by rw [la_,List.length_cons,List.length_nil];omega) (Iff.trans ⟨fun k=>k.imp id hb.1,fun k=>k.imp id hb.2⟩ i_p.symm)
theorem Blk.cell_none {w:World}{b:Nat}{T:TypeId}{cs:List Value}(h:Blk w b T cs){j:Nat}(hj:cs.length<=j):w.cell? ⟨b,j,none⟩=none:=by
 have h':w.heap[b]? =some (.cells cs.toArray T (0,0)):=h;simp only [World.cell?,h'];simp [hj]
def q_P:Sel->List Argm
 | .mk _ _ _ _ args _ _=>args
def p_U (defs:List ArgDef)(a:Argm):Prop:=a_h ArgDef.name defs a.name=none
def badAk (c:WCtx):Ev->Prop
 | .fld s pd=>pd≠none/\∃ f,fldD pd (o_J s)=some f/\∃ a∈q_P s,p_U f.args a
 | .dir d _=>∃ f,lastN DirDef.name c.dirs d.name=some f/\∃ a∈d.args,p_U f.args a
 | _=>False
theorem ex_take' {α:Type}{P:α->Prop}{xs:List α}{i:Int}{x:α}(h0:0<=i)(hx:xs[i.toNat]? =some x):(∃ y∈xs.take (i+1).toNat,P y)↔(∃ y∈xs.take i.toNat,P y)∨P x:=by
 rw [show (i+1).toNat=i.toNat+1 by omega,List.take_add_one,hx];exact i_p
section
variable {c:WCtx} {ae cnt:Nat} {bad:Ev->Prop} {l:List Ev} {w:World} {cx:Option OpD} {co:OA} {vm:Nat} {evs:List Value} {node:Value} {ev:Ev}
theorem q_X (hVM:∀ b,b=cnt∨b=ae->¬ c.M b)(hbad:∀ e,bad e↔badAk c e)(hne:ae≠cnt)(hc:StK bad ae cnt l w)(hw:Wst c cx co vm evs w)(hk:slot ev=1)(hn:f_i c cx w node ev):
  CP 174 #[.pointer (some (adr c.wb)),node,.pointer (some (adr ae))] w fun e w'=>e=.returned (.tuple #[])/\Ext (fun b=>b=cnt∨b=ae) w w'/\StK bad ae cnt (l++[ev]) w':=by
 cases ev with
 | fld s pd=>
  obtain ⟨b,q,q8,rfl,hp,hq,hF,hq8,hQ,-⟩:=hn;obtain ⟨k,al,n,on,args,dirs,kids⟩:=s;simp only [PSel] at hp;rcases hp with ⟨-, b',A1,L1,C1,A2,L2,C2,A3,L3,C3,pos,he,hM,hB,hA,-⟩|⟨-, b',_,_,_,pos,he,-⟩|⟨-, b',_,_,_,_,_,_,pos,he,-⟩
  ·obtain rfl:b=b':=by
    have:=he;simp only [Value.iface.injEq,Value.pointer.injEq,Option.some.injEq,true_and] at this;exact congrArg Addr.block this
   have hF:FldAt c w (fldD pd n) q:=hF;have hB1:bad (.fld (.mk k al n on args dirs kids) pd)↔pd≠none/\∃ f,fldD pd n=some f/\∃ a∈args,p_U f.args a:=hbad _;have hL:=hA.1;have hL2:=hA.2.2.1;refine p_K (some (adr c.wb)) (some (adr b)) (adr ae) w _ fun K4 hK4=>?_;have skip:¬ bad (.fld (.mk k al n on args dirs kids) pd)->K4 true w:=fun hb=>hK4 true w ⟨fun _=>⟨rfl,Ext.refl w,InK.stop (InK.start hc hb) (by omega) (iff_of_false hb hb)⟩,nofun⟩;refine ⟨adr b,rfl,q,hq,fun h7=>⟨adr b,rfl,q8,hq8,?_⟩,fun h7=>skip fun hb=>?_⟩
   ·cases h8:q8.isNone with
    | true=>
     rw [h8];exact skip fun hb=>(hB1.1 hb).1 (hQ.isNone.1 h8)
    | false=>
     cases hfd:fldD pd n with
     | none=>
      rw [hfd] at hF;rw [show q=none from hF] at h7;cases h7
     | some f=>
      rw [hfd] at hF;obtain ⟨fb,A,L,C,tb,rfl,h2,hds,-⟩:=hF;cases hpd:pd with
      | none=>
       rw [hQ.isNone.2 hpd] at h8;cases h8
      | some d=>
       rw [hpd] at hQ;obtain ⟨db,rfl,hdp⟩:=hQ;have hfb:¬ (fb=cnt∨fb=ae):=by
        rintro (rfl|rfl)
        ·obtain ⟨-, m,hcn,-⟩:=hc;rw [hcn.cell_none (by simp)] at h2;cases h2
        ·rw [hc.1.cell_none (by simp)] at h2;cases h2
       refine hK4 false w ⟨nofun,fun _=>?_⟩;refine ⟨adr b,rfl,A1,L1,C1,hw.wk.nd hM hB (j:=2) rfl rfl,fun i w1=>0<=i/\i<=L1/\Ext (fun b=>b=cnt∨b=ae) w w1/\InK bad ae cnt l i.toNat (∃ a∈args.take i.toNat,p_U f.args a) w1,fun i _=>((L1:Int)-i).toNat,⟨by omega,by omega,Ext.refl w,InK.start hc (by simp)⟩,?_⟩;rintro i w1 ⟨h0,hi,hx,hin⟩;have k1:=hw.wk.trans (Wk.ofExt hx fun b hb e=>hVM b e hb);refine ⟨fun hlt=>fun K13 hK13=>?_,fun hge=>?_⟩
       ·have hlt:=odt hlt;obtain ⟨p,x,v,hpp,hxs,hcell,ab,rfl,hax⟩:=hA.wget k1 (fun _=>rfl) h0 hlt;obtain ⟨vb,pos2,hM2,hB2,-⟩:=hax;have key13:∀ w',Ext (fun b=>b=cnt∨b=ae) w1 w'->InK bad ae cnt l (i+1).toNat (∃ a∈args.take (i+1).toNat,p_U f.args a) w'->K13 w':=by
         intro w' x' c';refine hK13 w' ?_;rw [a_a h0 (by omega)];exact next h0 hlt ⟨hx.trans x' fun _ _ e=>e,c'⟩
        refine ⟨p,hpp,⟨h0,hlt⟩,some (adr ab),hcell,fun w17 e17=>?_⟩;have x17:EF w1 w17:=by rw [e17];exact (Ext.refl w1).drew
        have y17:Ext (fun b=>b=cnt∨b=ae) w w17:=hx.trans x17 fun _ _ e=>e.elim;have k17:=k1.trans (Wk.ofExt x17 fun _ _=>id);refine ⟨adr b,rfl,_,(y17.cell_eq (a:=⟨b,7,none⟩) (fun e=>hVM _ e hM) hq).trans hq,adr fb,rfl,A,L,C,(y17.cell_eq (a:=⟨fb,2,none⟩) hfb h2).trans h2,adr ab,rfl,x.name,k17.nd hM2 hB2 (j:=0) rfl rfl,?_⟩;refine (a_H k17 hds).mono ?_;rintro _ w25 ⟨q26,rfl,rfl,o26⟩;have hiff:q26.isNone=true↔p_U f.args x:=o26.isNone;refine ⟨q26,rfl,trivial,trivial,trivial,fun h=>key13 _ (x17.toM _) (InK.good (Cnt.ext hin x17 id id) (by omega) ?_),fun h=>fun w27 e27=>?_⟩
        ·rw [ex_take' h0 hxs];exact ⟨.inl,fun k=>k.resolve_right fun k=>by rw [hiff.2 k] at h;cases h⟩
        ·have hq26:q26.isNone=true:=by simpa using h
         have x27:EF w1 w27:=by rw [e27];exact x17.drew
         have y27:Ext (fun b=>b=cnt∨b=ae) w w27:=hx.trans x27 fun _ _ e=>e.elim;have k27:=k1.trans (Wk.ofExt x27 fun _ _=>id);have c27:=Cnt.ext hin x27 id id;have a27:=k27.at (a:=⟨b,5,none⟩) hM (hB.at (j:=5) rfl) rfl;obtain ⟨_,_,_,_,_,_,A9,L9,C9,_,_,_,_,_,_,pos9,hM9,hB9,-⟩:=hdp;refine ⟨_,(c27.1.at (j:=0) rfl).cell,adr ab,rfl,x.name,k27.nd hM2 hB2 (j:=0) rfl rfl,adr b,rfl,_,(y27.cell_eq (a:=⟨b,8,none⟩) (fun e=>hVM _ e hM) hq8).trans hq8,adr db,rfl,d.name,k27.nd hM9 hB9 (j:=2) rfl rfl,adr b,rfl,n,k27.nd hM hB (j:=1) rfl rfl,adr b,rfl,pos,a27.cell,trivial,?_⟩;refine tell c27 a27 hne ((Ext.refl w27).alloc _) rfl fun w' x' c'=>key13 w' ((x27.toM _).trans x' fun _ _ e=>e) (InK.told c' (by omega) ?_);exact (ex_take' h0 hxs).2 (.inr (hiff.1 hq26))
       ·have hle:=odf hge;rw [tl_ (by omega)] at hin;refine ⟨rfl,hx,InK.stop hin (by omega) ?_⟩;rw [hB1];constructor
        ·intro h;exact ⟨by rw [hpd];simp,f,hfd,h⟩
        ·rintro ⟨-, f',hf',h⟩;rw [hfd] at hf';cases hf';exact h
   ·obtain ⟨-, f,hf,-⟩:=hB1.1 hb;rw [hf] at hF;obtain ⟨fb,A,L,C,tb,rfl,-⟩:=hF;cases h7
  ·simp at he
  ·simp at he
 | _=>cases hk
theorem q_Y (hVM:∀ b,b=cnt∨b=ae->¬ c.M b)(hbad:∀ e,bad e↔badAk c e)(hne:ae≠cnt)(hc:StK bad ae cnt l w)(hw:Wst c cx co vm evs w)(hk:slot ev=5)(hn:f_i c cx w node ev):
  CP 176 #[.pointer (some (adr c.wb)),node,.pointer (some (adr ae))] w fun e w'=>e=.returned (.tuple #[])/\Ext (fun b=>b=cnt∨b=ae) w w'/\StK bad ae cnt (l++[ev]) w':=by
 cases ev with
 | dir d loc=>
  obtain ⟨b,q,rfl,hp,hq,hQ,-⟩:=hn;obtain ⟨A1,L1,C1,pos,hM,hB,hA,-⟩:=hp;have hB1:bad (.dir d loc)↔∃ f,lastN DirDef.name c.dirs d.name=some f/\∃ a∈d.args,p_U f.args a:=hbad _;have hL:=hA.1;have hL2:=hA.2.2.1;refine p_L (some (adr c.wb)) (some (adr b)) (adr ae) w _ ⟨adr b,rfl,q,hq,fun h5=>?_,fun h5=>?_⟩
  ·have hb:¬ bad (.dir d loc):=fun hb=>by
    obtain ⟨f,hf,-⟩:=hB1.1 hb;rw [hQ.isNone.1 h5] at hf;cases hf
   exact ⟨rfl,Ext.refl w,InK.stop (InK.start hc hb) (by omega) (iff_of_false hb hb)⟩
  ·cases hfd:lastN DirDef.name c.dirs d.name with
   | none=>
    rw [hQ.isNone.2 hfd] at h5;cases h5
   | some f=>
    rw [hfd] at hQ;obtain ⟨fb,rfl,A,L,C,_,_,_,_,hfM,hfB,hds,-⟩:=hQ;refine ⟨adr b,rfl,A1,L1,C1,hw.wk.nd hM hB (j:=1) rfl rfl,fun i w1=>0<=i/\i<=L1/\Ext (fun b=>b=cnt∨b=ae) w w1/\InK bad ae cnt l i.toNat (∃ a∈d.args.take i.toNat,p_U f.args a) w1,fun i _=>((L1:Int)-i).toNat,⟨by omega,by omega,Ext.refl w,InK.start hc (by simp)⟩,?_⟩;rintro i w1 ⟨h0,hi,hx,hin⟩;have k1:=hw.wk.trans (Wk.ofExt hx fun b hb e=>hVM b e hb);refine ⟨fun hlt=>fun K12 hK12=>?_,fun hge=>?_⟩
    ·have hlt:=odt hlt;obtain ⟨p,x,v,hpp,hxs,hcell,ab,rfl,hax⟩:=hA.wget k1 (fun _=>rfl) h0 hlt;obtain ⟨vb,pos2,hM2,hB2,-⟩:=hax;have key12:∀ w',Ext (fun b=>b=cnt∨b=ae) w1 w'->InK bad ae cnt l (i+1).toNat (∃ a∈d.args.take (i+1).toNat,p_U f.args a) w'->K12 w':=by
      intro w' x' c';refine hK12 w' ?_;rw [a_a h0 (by omega)];exact next h0 hlt ⟨hx.trans x' fun _ _ e=>e,c'⟩
     refine ⟨p,hpp,⟨h0,hlt⟩,some (adr ab),hcell,fun w16 e16=>?_⟩;have x16:EF w1 w16:=by rw [e16];exact (Ext.refl w1).drew
     have y16:Ext (fun b=>b=cnt∨b=ae) w w16:=hx.trans x16 fun _ _ e=>e.elim;have k16:=k1.trans (Wk.ofExt x16 fun _ _=>id);refine ⟨adr b,rfl,_,(y16.cell_eq (a:=⟨b,4,none⟩) (fun e=>hVM _ e hM) hq).trans hq,adr fb,rfl,A,L,C,k16.nd hfM hfB (j:=2) rfl rfl,adr ab,rfl,x.name,k16.nd hM2 hB2 (j:=0) rfl rfl,?_⟩;refine (a_H k16 hds).mono ?_;rintro _ w24 ⟨q25,rfl,rfl,o25⟩;have hiff:q25.isNone=true↔p_U f.args x:=o25.isNone;refine ⟨q25,rfl,trivial,trivial,trivial,fun h=>key12 _ (x16.toM _) (InK.good (Cnt.ext hin x16 id id) (by omega) ?_),fun h=>fun w26 e26=>?_⟩
     ·rw [ex_take' h0 hxs];exact ⟨.inl,fun k=>k.resolve_right fun k=>by rw [hiff.2 k] at h;cases h⟩
     ·have hq25:q25.isNone=true:=by simpa using h
      have x26:EF w1 w26:=by rw [e26];exact x16.drew
      have k26:=k1.trans (Wk.ofExt x26 fun _ _=>id);have c26:=Cnt.ext hin x26 id id;have a26:=k26.at (a:=⟨b,2,none⟩) hM (hB.at (j:=2) rfl) rfl;refine ⟨_,(c26.1.at (j:=0) rfl).cell,adr ab,rfl,x.name,k26.nd hM2 hB2 (j:=0) rfl rfl,adr b,rfl,d.name,k26.nd hM hB (j:=0) rfl rfl,adr b,rfl,pos,a26.cell,trivial,?_⟩;refine tell c26 a26 hne ((Ext.refl w26).alloc _) rfl fun w' x' c'=>key12 w' ((x26.toM _).trans x' fun _ _ e=>e) (InK.told c' (by omega) ?_);exact (ex_take' h0 hxs).2 (.inr (hiff.1 hq25))
    ·have hle:=odf hge;rw [tl_ (by omega)] at hin;refine ⟨rfl,hx,InK.stop hin (by omega) ?_⟩;rw [hB1];constructor
     ·intro h;exact ⟨f,hfd,h⟩
     ·rintro ⟨f',hf',h⟩;rw [hfd] at hf';cases hf';exact h
 | _=>cases hk
end
end Go.VC
namespace Go.VC
open Go Go.Proofs
set_option maxRecDepth 100000
set_option maxRecDepth 100000
set_option maxRecDepth 100000
variable [DB]
end Go.VC
namespace Go.VC
open Go Go.Proofs
set_option maxRecDepth 100000
theorem g_x (a:OA)(b:OA)(c d:Nat)(e:OA)(f g:Nat)(w:World)(R:EW)(h:
 True/\(let i:=w.alloc (.cells #[.pointer a] 33);
 True/\(let j:=i.alloc (.cells #[.slice b c d,.slice e f g] 30);
 True/\(let k:=j.alloc (.cells #[.bool false] 4);
 Off k (adr j.heap.size) 1 [30]/\True/\(let l:=(k.setCell (adr j.heap.size) (.bool false));
 Lp l (adr w.heap.size) fun m=>C0 51 #[.pointer m,(.agg #[.slice b c d,.slice e f g]),(.func (.func 52) #[] #[(.pointer (some (adr w.heap.size))),(.pointer (some (adr j.heap.size)))])] l (fun n=>(KeepT 30 l n/\True)/\Lb n (adr j.heap.size) fun o=>R (.returned (.bool o)) n)))))):CP 16 #[.pointer a,(.agg #[.slice b c d,.slice e f g])] w R:=
 vcq Tryz.func16 [3] [] [.l (.optr a),.agg [.slice b c d,.slice e f g]] h
theorem e_5 (a:Int)(b:BA)(c:BA)(d:BA)(e:OA)(f g:Nat)(i:OA)(j k:Nat)(l:OA)(m n:Nat)(o:BA)(p:Addr)(q:Addr)(w:World)(R:EW)(h:
 True/\(let r:=w.alloc (.cells #[.int .i64 a,.string b,.string c,.string d,.slice e f g,.slice i j k,.slice l m n] 67);
 Lp r p fun s=>CP 53 #[.pointer s,.string o,.string c] r (fun t u=>∃ v,∃ x,∃ y z A,∃ B C D,∃ E,∃ F G H,∃ I,∃ J K L,∃ M,t=.returned (.tuple #[(.agg #[.string v,.string x,.slice y z A,.slice B C D,.string E,.slice F G H,.bool I,.slice J K L]),.bool M])/\(KeepT 67 r u/\True)/\True/\True/\(let O:=u.alloc (.cells #[.string v,.string x,.slice y z A,.slice B C D,.string E,.slice F G H,.bool I,.slice J K L] 70);
 ∀ P:World->Prop,(∀ Q:World,
 (Lb Q q fun S=>(Nr S ((Br (a==0) ((Br (c.toList==(⟨#[95,95,116,121,112,101,110,97,109,101]⟩:BA).toList) (Off Q q 1 [67,70]/\True/\(let U:=(Q.setCell q (.bool (decide ((m:Int)>0))));
 R (.returned (.tuple #[])) U)) (Off Q q 1 [67,70]/\True/\(let V:=(Q.setCell q (.bool false));
 R (.returned (.tuple #[])) V)))) (Off Q q 1 [67,70]/\True/\(let W:=(Q.setCell q (.bool false));
 R (.returned (.tuple #[])) W)))) (Off Q q 1 [67,70]/\True/\(let X:=(Q.setCell q (.bool true));
 R (.returned (.tuple #[])) X))))->
 P Q)->
 ∀ Y:Bool->World->Prop,(∀ Z:Bool,∀ aa:World,
 ((Br Z (∀ ab,ab=aa.drew->Lb ab q fun ac=>(Br ac (Off ab q 1 [67,70]/\True/\(let ad:=(ab.setCell q (.bool true));
 True/\P ad)) (Lp ab p fun ae=>Cs 55 #[.pointer ae,(.agg #[.string E,.slice F G H,.bool I])] ab (fun af ag=>(KeepT 67 ab ag/\KeepT 70 ab ag/\True)/\((0=0)/\True)/\Cb 54 #[.string af] ag (fun ah ai=>(KeepT 67 ag ai/\KeepT 70 ag ai/\True)/\((0=0)/\True)/\Off ai q 1 [67,70]/\True/\(let aj:=(ai.setCell q (.bool (!(ah==(decide ((m:Int)>0))))));
 True/\P aj)))))) (P aa)))->
 Y Z aa)->
 (Br (a==0) (Y M O) (Y false O)))))):CP 52 #[(.agg #[.int .i64 a,.string b,.string c,.string d,.slice e f g,.slice i j k,.slice l m n]),.string o,(.pointer (some p)),(.pointer (some q))] w R:=
 vcq Tryz.func52 [4,6] [(4,⟨[],[]⟩),(5,⟨[(21,.bool)],[]⟩)] [.agg [.int .i64 a,.str b,.str c,.str d,.slice e f g,.slice i j k,.slice l m n],.l (.str o),.l (.ptr p),.l (.ptr q)] h
variable [DB]
theorem SSt.bool {w w':World}{ob:Nat}{v:Value}(hB:Blk w ob 4 [v])(hDB:DB.B<=ob)(hx:Ext (fun b=>b=ob) w w'):SSt (fun b=>b=ob) w w':=by
 refine ⟨hx,fun T T' a v' ht ho ha=>?_,fun T hT b cs fr hb=>?_⟩
 ·by_cases he:a.block=ob
  ·obtain ⟨cs,fr,h1,-⟩:=ha;rw [he,show objAt w ob=_ from hB] at h1;simp only [Option.some.injEq,Obj.cells.injEq] at h1;obtain ⟨-, rfl,-⟩:=h1;rcases ho with rfl|ho
   ·exact absurd ht (by decide)
   ·omega
  ·exact hx.at he ha
 ·refine hx.old b _ (fun e=>?_) hb;have e:b=ob:=e;subst e;rw [show objAt w b=_ from hB] at hb;simp only [Option.some.injEq,Obj.cells.injEq] at hb;obtain ⟨-, rfl,-⟩:=hb;exact absurd hT (by decide)
abbrev compK (k:BA):Prop:=k=a_V∨k=b_i∨k=d_n
def bad1 (types:List Def)(k:Int)(n:BA)(m:Nat)(u:BA):Prop:=k=0/\(b_K types u n).2=true/\¬ (compK (findD types (a_n (b_K types u n).1.t)).1.kind↔0<m)
def badLf (types:List Def)(x:Sel × BA):Prop:=match x.1 with
 | .mk k _ n _ _ _ kids=>bad1 types k n kids.length x.2∨(k=0/\n=bTn/\0<kids.length)
section
variable {k:Nat} {A4:OA} {L4 C4:Nat} {A:OA} {L C:Nat} {A3:OA} {L3 C3:Nat} {types:List Def}
def PLf (k:Nat)(A4:OA)(L4 C4:Nat)(A:OA)(L C:Nat)(A3:OA)(L3 C3:Nat)(types:List Def)(wb ob:Nat)(l:List (Sel × BA))(w:World):Prop:=
 Blk w wb 33 [.pointer (some (adr k))]/\Blk w k 79 [.slice A4 L4 C4,.slice A L C,.slice A3 L3 C3]/\RDefs w A4 L4 C4 types/\∃ b:Bool,Blk w ob 4 [.bool b]/\(b=true↔∃ x∈l,badLf types x)
theorem o_Y {wb ob:Nat}(hDB:DB.B<=ob)(h1:wb≠ob)(h2:k≠ob):Clo 52 [.pointer (some (adr wb)),.pointer (some (adr ob))] (fun b=>b=ob) (PLf k A4 L4 C4 A L C A3 L3 C3 types wb ob):=by
 refine ⟨⟨_,Tryz.func52,by kernel_rfl⟩,fun l w w' ⟨p1,p2,p3,b,p4,p5⟩ hx=>⟨p1.ext hx id,p2.ext hx id,p3.keep hx.keep,b,p4.ext hx id,p5⟩,?_⟩;rintro l w ⟨k',al,n,on,args,dirs,kids⟩ u cs ⟨p1,p2,p3,b0,p4,p5⟩ hv hsm hok hu -;obtain ⟨a1,l1,c1,a2,l2,c2,a3,l3,c3,rfl,hv1,hv2,hv3⟩:=c_w.1 hv;have hl3:=hv3.len.1;have hn:n.size<=4194304:=hsm (.string n) (by simp);have x11:EF w (w.alloc (.cells #[.int .i64 k',.string al,.string n,.string on,.slice a1 l1 c1,.slice a2 l2 c2,.slice a3 l3 c3] 67)):=(Ext.refl w).alloc _;refine e_5 k' al n on a1 l1 c1 a2 l2 c2 a3 l3 c3 u (adr wb) (adr ob) w _ ⟨trivial,some (adr k),((p1.ext x11 id).at (j:=0) rfl).cell,?_⟩;refine (e_p (types:=types) hu hn (p2.ext x11 id) (p3.keep x11.keep)).mono ?_;rintro _ w14 ⟨cs14,rfl,⟨f0,fl0,fc0,f1,fl1,fc1,tn,f2,fl2,fc2,nn,f3,fl3,fc3,rfl,-, -, hty,-⟩,hsm14,x14⟩;refine ⟨_,_,_,_,_,_,_,_,_,_,_,_,_,_,_,_,_,rfl,⟨x14.keepT _,trivial⟩,trivial,trivial,fun K26 hK26=>?_⟩;have x25:=(x11.then x14).alloc (.cells #[.string (b_K types u n).1.doc,.string (b_K types u n).1.name,.slice f0 fl0 fc0,.slice f1 fl1 fc1,.string tn,.slice f2 fl2 fc2,.bool nn,.slice f3 fl3 fc3] 70);have z25:=(Ext.refl (X:=fun _=>False) w14).alloc (.cells #[.string (b_K types u n).1.doc,.string (b_K types u n).1.name,.slice f0 fl0 fc0,.slice f1 fl1 fc1,.string tn,.slice f2 fl2 fc2,.bool nn,.slice f3 fl3 fc3] 70);have set:∀ {w':World} {b v:Bool},SSt (fun b=>b=ob) w w'->Blk w' ob 4 [.bool b]->SSt (fun b=>b=ob) w (w'.setCell (adr ob) (.bool v))/\Blk (w'.setCell (adr ob) (.bool v)) ob 4 [.bool v]:=fun {w' b v} s hb=>
  ⟨s.trans (SSt.bool hb hDB (Ext.setCell (X:=fun b=>b=ob) (Ext.refl _) (a:=⟨ob,0,none⟩) (.inl rfl) _)),hb.set 0 _⟩
 have off:∀ {w':World} {b:Bool},Blk w' ob 4 [.bool b]->∃ (cs:Array Value) (T:TypeId),objAt w' ob=some (.cells cs T (0,0))/\(none:Option Nat)=none/\0+1<=cs.size/\(Nat.beq 67 T||(Nat.beq 70 T||false))=false:=fun {w' b} hb=>hb.off (j:=0) (n:=1) (q:=fun T=>(Nat.beq 67 T||(Nat.beq 70 T||false))) (by simp) rfl;have fin:∀ (w':World) (b:Bool),SSt (fun b=>b=ob) w w'->Blk w' ob 4 [.bool b]->(b=true↔(∃ x∈l,badLf types x)∨badLf types (.mk k' al n on args dirs kids,u))->
   (.returned (.tuple #[]):Ending)=.returned (.tuple #[])/\SSt (fun b=>b=ob) w w'/\PLf k A4 L4 C4 A L C A3 L3 C3 types wb ob (l++[(.mk k' al n on args dirs kids,u)]) w':=fun w' b s hb hi=>
  ⟨rfl,s,p1.ext s.ext h1,p2.ext s.ext h2,p3.keep s.keep,b,hb,hi.trans ⟨fun h=>h.elim (fun ⟨x,hx,hb⟩=>⟨x,by simp [hx],hb⟩) fun h=>⟨_,by simp,h⟩,fun ⟨x,hx,hb⟩=>by
   rcases ma_.1 hx with hx|hx
   ·exact .inl ⟨x,hx,hb⟩
   ·rw [List.mem_singleton.1 hx] at hb;exact .inr hb⟩⟩
 have key26:∀ (w':World) (b:Bool),SSt (fun b=>b=ob) w w'->Blk w' ob 4 [.bool b]->(b=true↔(∃ x∈l,badLf types x)∨bad1 types k' n kids.length u)->K26 w':=by
  intro w' b s hb hi;refine hK26 w' ⟨b,(hb.at (j:=0) rfl).cell,fun h0=>⟨fun hk=>⟨fun he=>⟨off hb,trivial,fin _ _ (set s hb).1 (set s hb).2 ?_⟩,fun he=>⟨off hb,trivial,fin _ _ (set s hb).1 (set s hb).2 ?_⟩⟩,fun hk=>⟨off hb,trivial,fin _ _ (set s hb).1 (set s hb).2 ?_⟩⟩,fun hb1=>⟨off hb,trivial,fin _ _ (set s hb).1 (set s hb).2 ?_⟩⟩
  ·have hnot:¬ ((∃ x∈l,badLf types x)∨bad1 types k' n kids.length u):=fun h=>by rw [hi.2 h] at h0;cases h0
   have hk:k'=0:=by simpa using hk
   have hnn:=a_b.1 he;rw [decide_eq_true_iff];constructor
   ·intro h;exact .inr (.inr ⟨hk,hnn,by omega⟩)
   ·rintro (h|h|⟨-, -, h⟩)
    ·exact (hnot (.inl h)).elim
    ·exact (hnot (.inr h)).elim
    ·omega
  ·have hnot:¬ ((∃ x∈l,badLf types x)∨bad1 types k' n kids.length u):=fun h=>by rw [hi.2 h] at h0;cases h0
   refine ⟨nofun,?_⟩;rintro (h|h|⟨-, h,-⟩)
   ·exact (hnot (.inl h)).elim
   ·exact (hnot (.inr h)).elim
   ·exact absurd h (a_f.1 he)
  ·have hnot:¬ ((∃ x∈l,badLf types x)∨bad1 types k' n kids.length u):=fun h=>by rw [hi.2 h] at h0;cases h0
   have hk:k'≠0:=fun e=>by simp [e] at hk
   refine ⟨nofun,?_⟩;rintro (h|h|⟨h,-⟩)
   ·exact (hnot (.inl h)).elim
   ·exact (hnot (.inr h)).elim
   ·exact absurd h hk
  ·refine ⟨fun _=>(hi.1 hb1).imp id .inl,fun _=>rfl⟩
 intro K33 hK33;have key33:∀ (b:Bool),(b=true↔k'=0/\(b_K types u n).2=true)->K33 b (w14.alloc (.cells #[.string (b_K types u n).1.doc,.string (b_K types u n).1.name,.slice f0 fl0 fc0,.slice f1 fl1 fc1,.string tn,.slice f2 fl2 fc2,.bool nn,.slice f3 fl3 fc3] 70)):=by
  intro b hb;have p25:=p4.ext x25 id;refine hK33 b _ ⟨fun h w36 e36=>?_,fun h=>key26 _ b0 (SSt.of0 x25) p25 (p5.trans ⟨.inl,fun k=>k.elim id fun k=>?_⟩)⟩
  ·obtain ⟨hk0,hG⟩:=hb.1 h;have x36:EF w w36:=by rw [e36];exact x25.drew
   have z36:EF w14 w36:=by rw [e36];exact z25.drew
   have p36:=p4.ext x36 id;refine ⟨b0,(p36.at (j:=0) rfl).cell,fun h0=>⟨off p36,trivial,trivial,key26 _ _ (set (SSt.of0 x36) p36).1 (set (SSt.of0 x36) p36).2 ⟨fun _=>.inl (p5.1 h0),fun _=>rfl⟩⟩,fun h0=>?_⟩;refine ⟨some (adr k),((p1.ext x36 id).at (j:=0) rfl).cell,?_⟩;refine (c_8 (hsm14 (.string tn) (by simp)) (hty.keep z36.keep) ((p2.ext x36 id).at (j:=0) rfl) (p3.keep x36.keep)).mono ?_;rintro _ w41 ⟨rfl,x41⟩;refine ⟨_,rfl,⟨x41.keepT _,x41.keepT _,trivial⟩,⟨rfl,trivial⟩,?_⟩;refine (b_5 _ _).mono ?_;rintro _ w44 ⟨b45,rfl,x44,hb45⟩;have x3644:=(x36.then x41).then x44;have p44:=p4.ext x3644 id;refine ⟨b45,rfl,⟨x44.keepT _,x44.keepT _,trivial⟩,⟨rfl,trivial⟩,off p44,trivial,trivial,key26 _ _ (set (SSt.of0 x3644) p44).1 (set (SSt.of0 x3644) p44).2 ?_⟩;have hnot:¬ ∃ x∈l,badLf types x:=fun h=>by rw [p5.2 h] at h0;cases h0
   have hm:decide ((l3:Int)>0)=true↔0<kids.length:=by rw [decide_eq_true_iff];omega
   have hcmp:(!(b45==decide ((l3:Int)>0)))=true↔¬ (compK (findD types (a_n (b_K types u n).1.t)).1.kind↔0<kids.length):=by
    have hb45':b45=true↔compK (findD types (a_n (b_K types u n).1.t)).1.kind:=hb45;rw [<- hb45',<- hm];cases b45<;>cases decide ((l3:Int)>0)<;>simp
   rw [hcmp];exact ⟨fun h=>.inr ⟨hk0,hG,h⟩,fun h=>h.elim (fun h=>(hnot h).elim) fun h=>h.2.2⟩
  ·have:b=true:=hb.2 ⟨k.1,k.2.1⟩;rw [this] at h;cases h
 exact ⟨fun h=>key33 _ ⟨fun k=>⟨by simpa using h,k⟩,fun k=>k.2⟩,fun h=>key33 false ⟨nofun,fun k=>by simp [k.1] at h⟩⟩
theorem f_W {roots:List RootD}{a:OA}{l c:Nat}{a':OA}{l' c':Nat}{ops:List OpD}{frags:List Frag}{w:World}(hDB:DB.B<=w.heap.size)(hB:Blk w k 79 [.slice A4 L4 C4,.slice A L C,.slice A3 L3 C3])(hT:RDefs w A4 L4 C4 types)(hR:b_w w A L C roots)(hl:ROps w a l c ops)(hl':a_X w a' l' c' frags)(ok1:∀ x∈ops,okOp x)(ok2:∀ x∈frags,b_j x):
  CP 16 #[.pointer (some (adr k)),.agg #[.slice a l c,.slice a' l' c']] w (RetB w fun b=>b=true↔∃ x∈atAll types roots ops frags,badLf types x):=by
 have x4:EF w (w.alloc (.cells #[.pointer (some (adr k))] 33)):=(Ext.refl w).alloc _;have B4:Blk (w.alloc (.cells #[.pointer (some (adr k))] 33)) w.heap.size 33 [.pointer (some (adr k))]:=Blk.made w 33 [.pointer (some (adr k))];refine g_x (some (adr k)) a l c a' l' c' w _ ⟨trivial,?_⟩;generalize w.alloc (.cells #[.pointer (some (adr k))] 33)=w4 at *;have x5:EF w4 (w4.alloc (.cells #[.slice a l c,.slice a' l' c'] 30)):=(Ext.refl w4).alloc _;refine ⟨trivial,?_⟩;show True/\_;generalize w4.alloc (.cells #[.slice a l c,.slice a' l' c'] 30)=w5 at *;have B6:Blk (w5.alloc (.cells #[.bool false] 4)) w5.heap.size 4 [.bool false]:=Blk.made w5 4 [.bool false];have x6:EF w5 (w5.alloc (.cells #[.bool false] 4)):=(Ext.refl w5).alloc _;refine ⟨trivial,?_⟩;show (∃ _,_)/\_;generalize w5.alloc (.cells #[.bool false] 4)=w6 at *;refine ⟨B6.off (j:=0) (n:=1) (q:=fun T=>(Nat.beq 30 T||false)) (by simp) rfl,trivial,?_⟩;have B7:Blk (w6.setCell (adr w5.heap.size) (.bool false)) w5.heap.size 4 [.bool false]:=B6.set 0 (.bool false);have x7:EF w5 (w6.setCell (adr w5.heap.size) (.bool false)):=Ext.setCell x6 (a:=⟨w5.heap.size,0,none⟩) (.inr (Nat.le_refl _)) _;generalize w6.setCell (adr w5.heap.size) (.bool false)=w7 at *;have y7:=(x4.then x5).then x7;have hz4:=B4.lt;have hz5:=x5.size;have hk:=hB.lt;have hx5:=x4.size;have B47:Blk w7 w.heap.size 33 [.pointer (some (adr k))]:=(B4.ext x5 id).ext x7 id;refine ⟨some (adr k),(B47.at (j:=0) rfl).cell,?_⟩;refine (j_4 (X:=fun b=>b=w5.heap.size) (P:=PLf k A4 L4 C4 A L C A3 L3 C3 types w.heap.size w5.heap.size) (by show ¬ k=w5.heap.size;omega) (o_Y (by omega) (by omega) (by omega)) (hB.ext y7 id) (hT.keep y7.keep) (hR.keep y7.keep) (hl.keep y7.keep) (hl'.keep y7.keep) ok1 ok2 ⟨B47,hB.ext y7 id,hT.keep y7.keep,false,B7,by simp⟩).mono ?_;rintro _ w10 ⟨rfl,s10,-, -, -, b,B10,hb⟩;refine ⟨rfl,⟨s10.kt _ (by decide),trivial⟩,b,(B10.at (j:=0) rfl).cell,b,rfl,y7.trans s10.ext fun k' hk' e=>?_,hb⟩;have e:k'=w5.heap.size:=e;omega
end
theorem Base.look {c:WCtx}{cx:Option OpD}{co:OA}{vm:Nat}{evs:List Value}{w w':World}(hb:Base c)(hw:Wst c cx co vm evs w)(hx:EF w w'):w'.cell? ⟨c.wb,1,none⟩=some (.pointer (some (adr c.sb)))/\w'.cell? ⟨c.sb,4,none⟩=some (.map (some c.m1))/\
  ∀ u,∃ q,(Instr.lookup 214 (.map (some c.m1)) (.string u) false).run Tryz.prog w'=.ok (.pointer q) w'/\OptQ (PDef c.M c.w0) (lastN Def.name c.types u) q:=by
 obtain ⟨q1,q2,q3,s,hS,-⟩:=hb.sch;have hwk:=hw.wk.trans (Wk.ofExt hx fun _ _=>id);exact ⟨((hw.walker.ext hx id).at (j:=1) rfl).cell,hwk.nd hb.sb hS (j:=4) rfl rfl,fun u=>VC.tlook (hwk.smap hb.m1.1 hb.m1.2.1) hb.m1.2.2 u⟩
abbrev leafK (k:BA):Prop:=k=kEnum∨k=d_m
def g_n (c:WCtx)(pd:Option Def)(n:BA)(m:Nat):Prop:=∃ f d,fldD pd n=some f/\lastN Def.name c.types (a_w f.t)=some d/\((leafK d.kind/\0<m)∨(¬ leafK d.kind/\m=0))
def k_O (c:WCtx):Ev->Prop
 | .fld (.mk _ _ n _ _ _ kids) pd=>g_n c pd n kids.length
 | _=>False
def StL (bad:Ev->Prop)(ae cnt sg:Nat)(l:List Ev)(w:World):Prop:=StB bad ae cnt l w/\Blk w sg 4 [.bool false]
section
variable {c:WCtx} {ae cnt sg:Nat} {bad:Ev->Prop} {l:List Ev} {w:World} {cx:Option OpD} {co:OA} {vm:Nat} {evs:List Value} {node:Value} {ev:Ev}
end
mutual
def flS (tys:List Def):Option Def->Sel->List (Sel × Option Def)
 | pd,.mk k al n on args dirs kids=>if k=0 then (.mk k al n on args dirs kids,pd)::flL tys (nextD tys pd n) kids else if k=1 then [] else flL tys (inlD tys pd on) kids
def flL (tys:List Def):Option Def->List Sel->List (Sel × Option Def)
 | _,[]=>[]
 | pd,s::l=>flS tys pd s++flL tys pd l
end
section
variable {tys:List Def} {fs:List Frag} {cx:Option OpD}
theorem m_i {s:Sel}{pd':Option Def}:∀ (ks:List Sel) (pd:Option Def),Ev.fld s pd'∈evL tys fs cx pd ks↔(s,pd')∈flL tys pd ks
 | [],pd=>by simp [evL,flL]
 | .mk k al n on args dirs kids::l,pd=>by
  have ihl:=m_i (s:=s) (pd':=pd') l pd;have hA:Ev.fld s pd'∉b_B cx args:=fun h=>by have:=d_8 _ h;cases this
  have hD:∀ loc,Ev.fld s pd'∉evDs cx loc dirs:=fun loc h=>by have:=b_C _ h;simp [slot] at this
  have key:Ev.fld s pd'∈evS tys fs cx pd (.mk k al n on args dirs kids)↔(s,pd')∈flS tys pd (.mk k al n on args dirs kids):=by
   simp only [evS,flS];by_cases hk0:k=0
   ·have ih:=m_i (s:=s) (pd':=pd') kids (nextD tys pd n);rw [if_pos hk0,if_pos hk0,ma_,ma_,ma_,ih];simp [hA,hD,or_comm]
   ·by_cases hk1:k=1
    ·rw [if_neg hk0,if_pos hk1,if_neg hk0,if_pos hk1,ma_];simp [hD]
    ·have ih:=m_i (s:=s) (pd':=pd') kids (inlD tys pd on);rw [if_neg hk0,if_neg hk1,if_neg hk0,if_neg hk1,ma_,ma_,ih];simp [hD]
  simp only [evL,flL,ma_];rw [key,ihl]
theorem n_s {s:Sel}{pd':Option Def}{f:Frag}:Ev.fld s pd'∈evFr tys fs cx f↔(s,pd')∈flL tys (lastN Def.name tys f.on) f.kids:=by
 have hD:Ev.fld s pd'∉evDs cx d_z f.dirs:=fun h=>by have:=b_C _ h;simp [slot] at this
 unfold evFr;rw [ma_,m_i];simp [hD]
end
theorem o_T {c:WCtx}{x:OpD}{s:Sel}{pd':Option Def}:Ev.fld s pd'∈evOp c x↔(s,pd')∈flL c.types (rootT c x.kind) x.kids:=by
 have hV:Ev.fld s pd'∉f_j (some x) x.vars:=fun h=>by have:=g_e _ h;simp [slot] at this
 have hD:Ev.fld s pd'∉evDs (some x) (opLoc x.kind) x.dirs:=fun h=>by have:=b_C _ h;simp [slot] at this
 unfold evOp;rw [ma_,ma_,ma_,m_i];simp [hV,hD]
theorem k_j {c:WCtx}{s:Sel}{pd:Option Def}:DocEv c (.fld s pd)↔(∃ x∈c.ops,(s,pd)∈flL c.types (rootT c x.kind) x.kids)∨∃ f∈c.frags,(s,pd)∈flL c.types (lastN Def.name c.types f.on) f.kids:=by
 constructor
 ·rintro (⟨x,hx,h|⟨n,f,-, h1,h2⟩⟩|⟨f,hf,(h|⟨n,g,-, h1,h2⟩)|h⟩)
  ·exact .inl ⟨x,hx,o_T.1 h⟩
  ·exact .inr ⟨f,(a_U h1).1,n_s.1 h2⟩
  ·exact .inr ⟨f,hf,n_s.1 h⟩
  ·exact .inr ⟨g,(a_U h1).1,n_s.1 h2⟩
  ·cases h
 ·rintro (⟨x,hx,h⟩|⟨f,hf,h⟩)
  ·exact .inl ⟨x,hx,.inl (o_T.2 h)⟩
  ·exact .inr ⟨f,hf,.inl (.inl (n_s.2 h))⟩
theorem e_z {types:List Def}{u:BA}(h:(findD types u).2=false):(findD types u).1=noDef:=by
 unfold findD at h ⊢;split
 ·rename_i d hd;simp [hd] at h
 ·split
  ·rename_i h1 h2;simp [h1,h2] at h
  ·rfl
theorem k_Y {types:List Def}{u:BA}(h:(findD types u).2=true):(findD types u).1∈a_P++types:=by
 unfold findD at h ⊢;split
 ·rename_i d hd;exact ma_.2 (.inr (List.mem_of_find?_eq_some hd))
 ·split
  ·rename_i h2;exact ma_.2 (.inl (mm_.2 ⟨u,d_x.1 h2,rfl⟩))
  ·rename_i h1 h2;simp [h1,h2] at h
theorem baseName_eq':∀ t:Typ,a_n t=a_w t
 | .mk n [] nn=>rfl
 | .mk n (t::l) nn=>baseName_eq' t
def Rel (types:List Def)(u:BA)(pd:Option Def):Prop:=∀ n,n≠bTn->fldD pd n=b_e types u n/\∀ f,b_e types u n=some f->(findD types (a_n f.t)).1.kind≠E0/\(findD types (a_n f.t)).1.kind≠b_f
theorem o_U {pd:Option Def}{n:BA}(hn:n≠bTn):fldD pd n=pd.bind fun d=>a_h Fld.name d.fields n:=by rw [fldD,if_neg hn]
theorem o_I {types:List Def}{u:BA}{pd:Option Def}(h1:∀ d,pd=some d->d.fields=[])(h2:(findD types u).1=noDef):Rel types u pd:=fun n hn=>by
 have hS:b_e types u n=none:=by
  rw [b_e,if_neg fun k=>hn k.1,h2,if_neg];rintro (h|h)<;>exact absurd h (by decide)
 refine ⟨?_,fun f h=>by rw [hS] at h;cases h⟩;rw [hS,o_U hn];cases pd with
 | none=>rfl
 | some d=>
  show a_h Fld.name d.fields n=none;rw [h1 d rfl];rfl
section
variable {types:List Def} {dirs:List DirDef} {defs:List SchemaDef}
theorem j_O (hO:OkSchema types dirs defs){u:BA}(h:(findD types u).1.kind≠b_f):Rel types u (lastN Def.name (a_P++types) u):=by
 rw [c_N hO];cases hf:(findD types u).2 with
 | false=>exact o_I (fun d hd=>by simp at hd) (e_z hf)
 | true=>
  intro n hn;have hd:b_e types u n=if (findD types u).1.kind=a_V∨(findD types u).1.kind=b_i then a_h Fld.name (findD types u).1.fields n else none:=by rw [b_e,if_neg fun k=>hn k.1]
  rw [if_pos rfl,o_U hn];have hm:=k_Y hf;generalize (findD types u).1=d at *;show a_h Fld.name d.fields n=_/\_;by_cases hk:d.kind=a_V∨d.kind=b_i
  ·rw [if_pos hk] at hd;refine ⟨hd.symm,fun f hf=>?_⟩;rw [hd] at hf;have hfm:=(a_U hf).1;rcases ma_.1 hm with hm|hm
   ·obtain ⟨s,-, rfl⟩:=mm_.1 hm;simp [a_A] at hfm
   ·exact ((hO.simple d hm).2.1 f hfm).2.2.2.2.2 h
  ·rw [if_neg hk] at hd;have hfl:d.fields=[]:=by
    rcases ((k_I (roots:=[]) hO).2.1 d hm).2.2.2.2 with k|k|k|k
    ·exact k
    ·exact (hk (.inl k)).elim
    ·exact (hk (.inr k)).elim
    ·exact absurd k h
   refine ⟨by rw [hd,hfl];rfl,fun f hf=>by rw [hd] at hf;cases hf⟩
theorem p_i {tys:List Def}{pd:Option Def}{al n on:BA}{args:List Argm}{ds:List Dir}{kids:List Sel}:flS tys pd (.mk 0 al n on args ds kids)=(.mk 0 al n on args ds kids,pd)::flL tys (nextD tys pd n) kids:=by
 rw [flS,if_pos rfl]
theorem p_j {tys:List Def}{pd:Option Def}{k:Int}{al n on:BA}{args:List Argm}{ds:List Dir}{kids:List Sel}(h:k=1):flS tys pd (.mk k al n on args ds kids)=[]:=by
 rw [flS,if_neg (by omega),if_pos h]
theorem p_k {tys:List Def}{pd:Option Def}{k:Int}{al n on:BA}{args:List Argm}{ds:List Dir}{kids:List Sel}(h:k≠0)(h1:k≠1):flS tys pd (.mk k al n on args ds kids)=flL tys (inlD tys pd on) kids:=by
 rw [flS,if_neg h,if_neg h1]
theorem o_N {types:List Def}{u:BA}{k:Int}{al n on:BA}{args:List Argm}{ds:List Dir}{kids:List Sel}:atS types u (.mk k al n on args ds kids)=(.mk k al n on args ds kids,u)::atL types (downS types u k n on) kids:=by rw [atS]
def walkB (c:WCtx)(x:Sel × Option Def):Prop:=k_O c (.fld x.1 x.2)
end
abbrev leafD (types:List Def)(roots:List RootD)(ops:List OpD)(frags:List Frag):Prop:=∃ x∈atAll types roots ops frags,badLf types x
end Go.VC
namespace Go.VC
open Go Go.Proofs
set_option maxRecDepth 100000
variable [DB]
def badNf (types:List Def)(x:Sel × BA):Prop:=match x.1 with
 | .mk k _ n _ _ _ kids=>k=0/\compK (findD types x.2).1.kind/\(b_K types x.2 n).2=false
section
variable {k:Nat} {A4:OA} {L4 C4:Nat} {A:OA} {L C:Nat} {A3:OA} {L3 C3:Nat} {types:List Def}
def PNf (k:Nat)(A4:OA)(L4 C4:Nat)(A:OA)(L C:Nat)(A3:OA)(L3 C3:Nat)(types:List Def)(wb ob:Nat)(l:List (Sel × BA))(w:World):Prop:=
 Blk w wb 33 [.pointer (some (adr k))]/\Blk w k 79 [.slice A4 L4 C4,.slice A L C,.slice A3 L3 C3]/\RDefs w A4 L4 C4 types/\∃ b:Bool,Blk w ob 4 [.bool b]/\(b=true↔∃ x∈l,badNf types x)
end
def p_y (pd:Option Def)(n:BA):Prop:=pd≠none/\fldD pd n=none
def p_E:Ev->Prop
 | .fld s pd=>p_y pd (o_J s)
 | _=>False
section
variable {c:WCtx} {ae cnt:Nat} {bad:Ev->Prop} {l:List Ev} {w:World} {cx:Option OpD} {co:OA} {vm:Nat} {evs:List Value} {node:Value} {ev:Ev}
end
section
variable {types:List Def} {dirs:List DirDef} {defs:List SchemaDef}
def CompR (types:List Def)(u:BA)(pd:Option Def):Prop:=pd≠none↔compK (findD types u).1.kind
theorem p_B (hO:OkSchema types dirs defs){u:BA}(h:compK (findD types u).1.kind):CompR types u (lastN Def.name (a_P++types) u):=by
 refine ⟨fun _=>h,fun _=>?_⟩;rw [c_N hO];cases hf:(findD types u).2 with
 | true=>simp
 | false=>
  rw [e_z hf] at h;rcases h with h|h|h<;>exact absurd h (by decide)
theorem p_D {k:BA}(h:compK k):k≠b_f:=fun e=>by
 rcases h with h|h|h<;>rw [e] at h<;>exact absurd h (by decide)
def walkN (x:Sel × Option Def):Prop:=p_E (.fld x.1 x.2)
end
abbrev p_J (types:List Def)(roots:List RootD)(ops:List OpD)(frags:List Frag):Prop:=∃ x∈atAll types roots ops frags,badNf types x
end Go.VC
namespace Go.VC
open Go Go.Proofs
set_option maxRecDepth 100000
theorem q_g (a:OA)(b:OA)(c d:Nat)(e:OA)(f g:Nat)(i:Value)(w:World)(R:EW)(h:
 True/\(let j:=w.alloc (.cells #[.pointer a] 33);
 True/\(let k:=j.alloc (.cells #[.slice b c d,.slice e f g] 30);
 (i.oneCell'=true/\True)/\(let l:=k.alloc (.cells #[i] 97);
 Lp l (adr w.heap.size) fun m=>C0 51 #[.pointer m,(.agg #[.slice b c d,.slice e f g]),(.func (.func 113) #[] #[(.pointer (some (adr w.heap.size))),(.pointer (some (adr k.heap.size)))])] l (fun n=>(KeepT 30 l n/\True)/\Cl 66 #[(.agg #[.slice b c d,.slice e f g])] n (fun o p q r=>(KeepT 30 n r/\True)/\∃ (s:Int->World->Prop) (t:Int->World->Nat),s 0 r/\
 (∀ u:Int,∀ v:World,s u v->
 (Br (decide (u<(p:Int))) (Ix o u p fun x=>Ll v (x.add (u.toNat*2)) fun y z A=>Ls v ((x.add (u.toNat*2)).add 1) fun B=>True/\True/\(let D:=v.alloc (.cells #[.slice y z A,.string B] 101);
 ∃ (E:Int->World->Prop) (F:Int->World->Nat),E 0 D/\
 (∀ G:Int,∀ H:World,E G H->
 (Br (decide (G<(z:Int))) (∀ I:World->Prop,(∀ J:World,
 ((E (wr (G+1)) J/\F (wr (G+1)) J<F G H))->
 I J)->
 Ix y G z fun K=>L_sl H (K.add (G.toNat*2)) fun L M N O=>True/\True/\(let Q:=H.alloc (.cells #[.string L,.slice M N O] 103);
 Lp Q (adr w.heap.size) fun S=>CP 67 #[.pointer S,.string L] Q (fun U V=>∃ W,∃ X,∃ Y Z aa,∃ ab ac ad,∃ ae,∃ af,U=.returned (.tuple #[(.agg #[.string W,.string X,.slice Y Z aa,.slice ab ac ad,.bool ae]),.bool af])/\(KeepT 30 Q V/\KeepT 101 Q V/\KeepT 103 Q V/\True)/\True/\True/\(let ah:=V.alloc (.cells #[.string W,.string X,.slice Y Z aa,.slice ab ac ad,.bool ae] 105);
 (Br af (Lv ah (adr k.heap.size) fun ai=>∃ aj ak,ai=.func (.func aj) #[] ak.toArray/\∃ al,Tryz.prog.funcs[aj]? =some al/\(al.name== "runtime.NumGoroutine" ||al.body.isNone)=false/\CP aj ([.slice M N O,.slice Y Z aa]++ak).toArray ah (fun am an=>am=.returned (.tuple #[])/\(KeepT 30 ah an/\KeepT 101 ah an/\KeepT 103 ah an/\KeepT 105 ah an/\True)/\I an)) (I ah)))))) ((s (wr (u+1)) H/\t (wr (u+1)) H<t u v)))))) (R (.returned (.tuple #[])) v))))))))):CP 62 #[.pointer a,(.agg #[.slice b c d,.slice e f g]),i] w R:=
 vcq Tryz.func62 [4,7,9,10] [(7,⟨[(19,.int .i64)],[]⟩),(21,⟨[(26,.int .i64)],[]⟩),(28,⟨[],[]⟩)] [.l (.optr a),.agg [.slice b c d,.slice e f g],.l (.val i)] h
theorem p_9 (a:Int)(b:BA)(c:BA)(d:BA)(e:OA)(f g:Nat)(i:OA)(j k:Nat)(l:OA)(m n:Nat)(o:BA)(p:Addr)(q:Addr)(w:World)(R:EW)(h:
 True/\(let r:=w.alloc (.cells #[.int .i64 a,.string b,.string c,.string d,.slice e f g,.slice i j k,.slice l m n] 67);
 Lp r p fun s=>CP 53 #[.pointer s,.string o,.string c] r (fun t u=>∃ v,∃ x,∃ y z A,∃ B C D,∃ E,∃ F G H,∃ I,∃ J K L,∃ M,t=.returned (.tuple #[(.agg #[.string v,.string x,.slice y z A,.slice B C D,.string E,.slice F G H,.bool I,.slice J K L]),.bool M])/\(KeepT 67 r u/\True)/\True/\True/\(let O:=u.alloc (.cells #[.string v,.string x,.slice y z A,.slice B C D,.string E,.slice F G H,.bool I,.slice J K L] 70);
 ∀ P:Bool->World->Prop,(∀ Q:Bool,∀ S:World,
 ((Br Q (Lv S q fun U=>∃ V W,U=.func (.func V) #[] W.toArray/\∃ X,Tryz.prog.funcs[V]? =some X/\(X.name== "runtime.NumGoroutine" ||X.body.isNone)=false/\CP V ([.slice e f g,.slice y z A]++W).toArray S (fun Y Z=>Y=.returned (.tuple #[])/\(KeepT 67 S Z/\KeepT 70 S Z/\True)/\R (.returned (.tuple #[])) Z)) (R (.returned (.tuple #[])) S)))->
 P Q S)->
 (Br (a==0) (P M O) (P false O)))))):CP 113 #[(.agg #[.int .i64 a,.string b,.string c,.string d,.slice e f g,.slice i j k,.slice l m n]),.string o,(.pointer (some p)),(.pointer (some q))] w R:=
 vcq Tryz.func113 [4,6] [(4,⟨[(21,.bool)],[]⟩)] [.agg [.int .i64 a,.str b,.str c,.str d,.slice e f g,.slice i j k,.slice l m n],.l (.str o),.l (.ptr p),.l (.ptr q)] h
theorem q_I (a:OA)(b c:Nat)(d:OA)(e f:Nat)(w:World)(R:EW)(h:
 ∃ (g:OA->Nat->Nat->Int->World->Prop) (i:OA->Nat->Nat->Int->World->Nat),g none 0 0 0 w/\
 (∀ (j:OA) (k l:Nat),∀ m:Int,∀ n:World,g j k l m n->
 (Br (decide (m<(b:Int))) (Ix a m b fun o=>L_sisl n (o.add (m.toNat*4)) fun p q r s t u=>True/\True/\(let x:=n.alloc (.cells #[.string p,.int .i64 q,.string r,.slice s t u] 167);
 True/\True/\(let y:=x.alloc (.cells #[.int .i64 0,(.string (⟨#[]⟩:BA)),.slice none 0 0,(.string (⟨#[]⟩:BA)),.slice none 0 0,.bool false,.bool false] 96);
 Off y (adr x.heap.size) 7 [167]/\True/\(let z:=(((((((y.setCell (adr x.heap.size) (.int .i64 q)).setCell ((adr x.heap.size).add 1) (.string r)).setCell ((adr x.heap.size).add 2) (.slice s t u)).setCell ((adr x.heap.size).add 3) (.string (⟨#[]⟩:BA))).setCell ((adr x.heap.size).add 4) (.slice none 0 0)).setCell ((adr x.heap.size).add 5) (.bool false)).setCell ((adr x.heap.size).add 6) (.bool false));
 ∃ (A:Int->World->Prop) (B:Int->World->Nat),A 0 z/\
 (∀ C:Int,∀ D:World,A C D->
 (Br (decide (C<(e:Int))) (∀ E:World->Prop,(∀ F:World,
 ((A (wr (C+1)) F/\B (wr (C+1)) F<B C D))->
 E F)->
 Ix d C e fun G=>L_ssslbll D (G.add (C.toNat*7)) fun H I J K L M N O P Q S U V=>True/\True/\(let X:=D.alloc (.cells #[.string H,.string I,.string J,.slice K L M,.bool N,.slice O P Q,.slice S U V] 125);
 (Br (I.toList==p.toList) (Off X ((adr x.heap.size).add 3) 3 [167,125]/\True/\(let Y:=(((X.setCell ((adr x.heap.size).add 3) (.string J)).setCell (((adr x.heap.size).add 3).add 1) (.slice K L M)).setCell (((adr x.heap.size).add 3).add 2) (.bool N));
 Off Y ((adr x.heap.size).add 6) 1 [167,125]/\True/\(let Z:=(Y.setCell ((adr x.heap.size).add 6) (.bool true));
 E Z))) (E X)))) (Li D (adr x.heap.size) fun aa=>Ls D ((adr x.heap.size).add 1) fun ab=>Ll D ((adr x.heap.size).add 2) fun ac ad ae=>Ls D ((adr x.heap.size).add 3) fun af=>Ll D ((adr x.heap.size).add 4) fun ag ah ai=>Lb D ((adr x.heap.size).add 5) fun aj=>Lb D ((adr x.heap.size).add 6) fun ak=>True/\(let al:=D.alloc (.cells #[.int .i64 aa,.string ab,.slice ac ad ae,.string af,.slice ag ah ai,.bool aj,.bool ak] 96);
 Ap 90 (.slice j k l) (.slice (some (adr D.heap.size)) 1 1) al fun am an ao ap=>(KeepT 167 al ap/\True)/\(g am an ao (wr (m+1)) ap/\i am an ao (wr (m+1)) ap<i j k l m n))))))))) (R (.returned (.slice j k l)) n)))):CP 64 #[.slice a b c,.slice d e f] w R:=
 vcq Tryz.func64 [7,10] [(8,⟨[(5,.slice),(13,.int .i64)],[]⟩),(25,⟨[(22,.int .i64)],[]⟩),(32,⟨[],[]⟩)] [.l (.slice a b c),.l (.slice d e f)] h
theorem q_f (a:OA)(b:OA)(c d:Nat)(e:OA)(f g:Nat)(w:World)(R:EW)(h:
 True/\(let i:=w.alloc (.cells #[.slice b c d,.slice e f g] 30);
 True/\(let j:=i.alloc (.cells #[.bool false] 4);
 Off j (adr i.heap.size) 1 [30]/\True/\(let k:=(j.setCell (adr i.heap.size) (.bool false));
 C0 62 #[.pointer a,(.agg #[.slice b c d,.slice e f g]),(.func (.func 63) #[] #[(.pointer (some (adr i.heap.size)))])] k (fun l=>(KeepT 30 k l/\True)/\Lb l (adr i.heap.size) fun m=>R (.returned (.bool m)) l))))):CP 20 #[.pointer a,(.agg #[.slice b c d,.slice e f g])] w R:=
 vcq Tryz.func20 [3] [] [.l (.optr a),.agg [.slice b c d,.slice e f g]] h
theorem p_8 (a:OA)(b c:Nat)(d:OA)(e f:Nat)(g:Addr)(w:World)(R:EW)(h:
 Cl 64 #[.slice a b c,.slice d e f] w (fun i j k l=>True/\∃ (m:Int->World->Prop) (n:Int->World->Nat),m 0 l/\
 (∀ o:Int,∀ p:World,m o p->
 (Br (decide (o<(j:Int))) (∀ q:World->Prop,(∀ r:World,
 ((m (wr (o+1)) r/\n (wr (o+1)) r<n o p))->
 q r)->
 Ix i o j fun s=>Li p (s.add (o.toNat*7)) fun t=>Ls p ((s.add (o.toNat*7)).add 1) fun u=>Ll p ((s.add (o.toNat*7)).add 2) fun v x y=>Ls p ((s.add (o.toNat*7)).add 3) fun z=>Ll p ((s.add (o.toNat*7)).add 4) fun A B C=>Lb p ((s.add (o.toNat*7)).add 5) fun D=>Lb p ((s.add (o.toNat*7)).add 6) fun E=>True/\True/\(let G:=p.alloc (.cells #[.int .i64 t,.string u,.slice v x y,.string z,.slice A B C,.bool D,.bool E] 96);
 Lb G g fun H=>(Nr H (Off G g 1 [96]/\True/\(let I:=(G.setCell g (.bool (!E)));
 q I)) (Off G g 1 [96]/\True/\(let J:=(G.setCell g (.bool true));
 q J))))) (R (.returned (.tuple #[])) p))))):CP 63 #[.slice a b c,.slice d e f,(.pointer (some g))] w R:=
 vcq Tryz.func63 [6] [(3,⟨[(11,.int .i64)],[]⟩),(10,⟨[],[]⟩)] [.l (.slice a b c),.l (.slice d e f),.l (.ptr g)] h
theorem p_V (a:OA)(b c:Nat)(d:OA)(e f:Nat)(g:OA)(i j:Nat)(k:OA)(l m:Nat)(n:OA)(o p:Nat)(q:OA)(r s:Nat)(t:OA)(u v:Nat)(w:World)(R:EW)(h:
 True/\(let x:=w.alloc (.cells #[.slice a b c,.slice d e f,.slice g i j,.slice k l m,.slice n o p] 26);
 True/\(let y:=x.alloc (.cells #[.slice q r s,.slice t u v] 30);
 ∀ z:Bool->World->Prop,(∀ A:Bool,∀ B:World,
 ((Br A (R (.returned (.bool true)) B) (CP 13 #[(.agg #[.slice a b c,.slice d e f,.slice g i j,.slice k l m,.slice n o p])] B (fun C D=>∃ E,∃ F,C=.returned (.tuple #[.pointer E,.bool F])/\(KeepT 26 B D/\KeepT 30 B D/\True)/\∀ G:Bool->World->Prop,(∀ H:Bool,∀ I:World,
 ((Br H (R (.returned (.bool true)) I) (∀ J,J=I.drew->CP 18 #[.pointer E] J (fun K L=>∃ M N O,∃ P Q S,∃ U,∃ V,∃ W,∃ X Y Z,∃ aa ab ac,K=.returned (.agg #[.slice M N O,.slice P Q S,.string U,.string V,.string W,.slice X Y Z,.slice aa ab ac])/\(KeepT 26 J L/\KeepT 30 J L/\True)/\((0=0)/\True)/\CP 17 #[(.agg #[.slice M N O,.slice P Q S,.string U,.string V,.string W,.slice X Y Z,.slice aa ab ac]),(.agg #[.slice q r s,.slice t u v])] L (fun ad ae=>∃ af,∃ ag,ad=.returned (.tuple #[.int .i64 af,.bool ag])/\(KeepT 26 L ae/\KeepT 30 L ae/\True)/\True/\True/\True/\Cb 20 #[.pointer E,(.agg #[.slice q r s,.slice t u v])] ae (fun ah ai=>(KeepT 26 ae ai/\KeepT 30 ae ai/\True)/\Cb 19 #[.int .i64 af,.bool ag,.bool ah] ai (fun aj ak=>(KeepT 26 ai ak/\KeepT 30 ai ak/\True)/\R (.returned (.bool aj)) ak)))))))->
 G H I)->
 (Nr (!F) (Cb 14 #[(.agg #[.slice q r s,.slice t u v])] D (fun al am=>(KeepT 26 D am/\KeepT 30 D am/\True)/\(Nr (!al) (Cb 15 #[.pointer E,(.agg #[.slice q r s,.slice t u v])] am (fun an ao=>(KeepT 26 am ao/\KeepT 30 am ao/\True)/\(Nr (!an) (Cb 16 #[.pointer E,(.agg #[.slice q r s,.slice t u v])] ao (fun ap aq=>(KeepT 26 ao aq/\KeepT 30 ao aq/\True)/\G ap aq)) (G true ao)))) (G true am)))) (G true D))))))->
 z A B)->
 Cb 11 #[(.agg #[.slice a b c,.slice d e f,.slice g i j,.slice k l m,.slice n o p])] y (fun ar au=>(KeepT 26 y au/\KeepT 30 y au/\True)/\(Nr (!ar) (Cb 12 #[(.agg #[.slice q r s,.slice t u v])] au (fun av ax=>(KeepT 26 au ax/\KeepT 30 au ax/\True)/\z (!av) ax)) (z true au)))))):CP 3 #[(.agg #[.slice a b c,.slice d e f,.slice g i j,.slice k l m,.slice n o p]),(.agg #[.slice q r s,.slice t u v])] w R:=
 vcq Tryz.func3 [2,3] [(3,⟨[(16,.bool)],[]⟩),(13,⟨[(39,.bool)],[]⟩)] [.agg [.slice a b c,.slice d e f,.slice g i j,.slice k l m,.slice n o p],.agg [.slice q r s,.slice t u v]] h
set_option maxRecDepth 100000
theorem q_s (a:OA)(b:BA)(w:World)(R:EW)(h:
 True/\(let c:=w.alloc (.cells #[(.string (⟨#[]⟩:BA)),(.string (⟨#[]⟩:BA)),.slice none 0 0,.slice none 0 0,.bool false] 105);
 ∀ d,d=c.drew->Pt a fun e=>Ll d (e.add 2) fun f g i=>CP 58 #[] d (fun j k=>∃ l m n,∃ o p q,∃ r s t,∃ u v x,∃ y z A,j=.returned (.agg #[.slice l m n,.slice o p q,.slice r s t,.slice u v x,.slice y z A])/\(KeepT 105 d k/\True)/\((k.cell? (e.add 2)=d.cell? (e.add 2))/\True)/\Ap 23 (.slice r s t) (.slice f g i) k fun B C D E=>(KeepT 105 k E/\True)/\True/\∃ (F:Int->BA->BA->OA->Nat->Nat->OA->Nat->Nat->Bool->World->Prop) (G:Int->BA->BA->OA->Nat->Nat->OA->Nat->Nat->Bool->World->Nat),F 0 (⟨#[]⟩:BA) (⟨#[]⟩:BA) none 0 0 none 0 0 false E/\
 (∀ H:Int,∀ I:BA,∀ J:BA,∀ (K:OA) (L M:Nat),∀ (N:OA) (O P:Nat),∀ Q:Bool,∀ S:World,F H I J K L M N O P Q S->
 (Br (decide (H<(C:Int))) (Ix B H C fun U=>L_ssllb S (U.add (H.toNat*5)) fun V W X Y Z aa ab ac ad=>True/\True/\(let af:=S.alloc (.cells #[.string V,.string W,.slice X Y Z,.slice aa ab ac,.bool ad] 105);
 (Br (W.toList==b.toList) (True/\(let ag:=setB af (w.heap.size) [.string V,.string W,.slice X Y Z,.slice aa ab ac,.bool ad] 105;
 R (.returned (.tuple #[(.agg #[.string V,.string W,.slice X Y Z,.slice aa ab ac,.bool ad]),.bool true])) ag)) ((F (wr (H+1)) I J K L M N O P Q af/\G (wr (H+1)) I J K L M N O P Q af<G H I J K L M N O P Q S))))) (True/\True/\(let ah:=setB S (w.heap.size) [(.string (⟨#[]⟩:BA)),(.string (⟨#[]⟩:BA)),.slice none 0 0,.slice none 0 0,.bool false] 105;
 R (.returned (.tuple #[(.agg #[(.string (⟨#[]⟩:BA)),(.string (⟨#[]⟩:BA)),.slice none 0 0,.slice none 0 0,.bool false]),.bool false])) ah))))))):CP 67 #[.pointer a,.string b] w R:=
 vcq Tryz.func67 [4,7] [(6,⟨[(16,.int .i64)],[(0,[.str,.str,.slice,.slice,.bool])]⟩)] [.l (.optr a),.l (.str b)] h
set_option maxRecDepth 100000
theorem q_1 (a:OA)(b c:Nat)(d:OA)(e f:Nat)(w:World)(R:EW)(h:
 True/\(let g:=w.alloc (.cells #[.slice a b c,.slice d e f] 30);
 ∃ (i:OA->Nat->Nat->Int->World->Prop) (j:OA->Nat->Nat->Int->World->Nat),i none 0 0 0 g/\
 (∀ (k:OA) (l m:Nat),∀ n:Int,∀ o:World,i k l m n o->
 (Br (decide (n<(b:Int))) (Ix a n b fun p=>L_sslll o (p.add (n.toNat*5)) fun q r s t u v x y z A B=>True/\True/\(let D:=o.alloc (.cells #[.string q,.string r,.slice s t u,.slice v x y,.slice z A B] 51);
 ∀ E,E=D.drew->Cs 119 #[.string q] E (fun F G=>(KeepT 30 E G/\KeepT 51 E G/\True)/\((1=1)/\True)/\True/\True/\(let H:=G.alloc (.cells #[.slice v x y,.string F] 101);
 True/\Ap 98 (.slice k l m) (.slice (some (adr G.heap.size)) 1 1) H fun I J K L=>(KeepT 30 H L/\KeepT 51 H L/\True)/\True/\True/\∃ (M:OA->Nat->Nat->Int->World->Prop) (N:OA->Nat->Nat->Int->World->Nat),M I J K 0 L/\
 (∀ (O:OA) (P Q:Nat),∀ S:Int,∀ U:World,M O P Q S U->
 (Br (decide (S<(t:Int))) (Ix s S t fun V=>Ls U (V.add (S.toNat*6)) fun W=>Ls U ((V.add (S.toNat*6)).add 1) fun X=>Ll U ((V.add (S.toNat*6)).add 2) fun Y Z aa=>Lb U ((V.add (S.toNat*6)).add 3) fun ab=>Ll U ((V.add (S.toNat*6)).add 4) fun ac ad ae=>Ll U ((V.add (S.toNat*6)).add 5) fun af ag ah=>True/\True/\(let aj:=U.alloc (.cells #[.string W,.string X,.slice Y Z aa,.bool ab,.slice ac ad ae,.slice af ag ah] 59);
 True/\True/\(let ak:=aj.alloc (.cells #[.slice af ag ah,(.string (⟨#[86,65,82,73,65,66,76,69,95,68,69,70,73,78,73,84,73,79,78]⟩:BA))] 101);
 Ap 98 (.slice O P Q) (.slice (some (adr aj.heap.size)) 1 1) ak fun al am an ao=>(KeepT 30 ak ao/\KeepT 51 ak ao/\KeepT 59 ak ao/\True)/\(M al am an (wr (S+1)) ao/\N al am an (wr (S+1)) ao<N O P Q S U)))) (Cl 120 #[.slice z A B] U (fun ap aq ar au=>(KeepT 30 U au/\KeepT 51 U au/\True)/\Ap 98 (.slice O P Q) (.slice ap aq ar) au fun av ax ay az=>(KeepT 30 au az/\KeepT 51 au az/\True)/\(i av ax ay (wr (n+1)) az/\j av ax ay (wr (n+1)) az<j k l m n o))))))))) (∃ (aA:OA->Nat->Nat->Int->World->Prop) (aB:OA->Nat->Nat->Int->World->Nat),aA k l m 0 o/\
 (∀ (aC:OA) (aD aE:Nat),∀ aF:Int,∀ aG:World,aA aC aD aE aF aG->
 (Br (decide (aF<(e:Int))) (Ix d aF e fun aH=>L_ssll aG (aH.add (aF.toNat*4)) fun aI aJ aK aL aM aN aO aP=>True/\True/\(let aS:=aG.alloc (.cells #[.string aI,.string aJ,.slice aK aL aM,.slice aN aO aP] 63);
 True/\True/\(let aU:=aS.alloc (.cells #[.slice aK aL aM,(.string (⟨#[70,82,65,71,77,69,78,84,95,68,69,70,73,78,73,84,73,79,78]⟩:BA))] 101);
 Ap 98 (.slice aC aD aE) (.slice (some (adr aS.heap.size)) 1 1) aU fun aV aW aX aY=>(KeepT 30 aU aY/\KeepT 63 aU aY/\True)/\Cl 120 #[.slice aN aO aP] aY (fun aZ ba bb bc=>(KeepT 30 aY bc/\KeepT 63 aY bc/\True)/\Ap 98 (.slice aV aW aX) (.slice aZ ba bb) bc fun bd be bf bg=>(KeepT 30 bc bg/\KeepT 63 bc bg/\True)/\(aA bd be bf (wr (aF+1)) bg/\aB bd be bf (wr (aF+1)) bg<aB aC aD aE aF aG))))) (R (.returned (.slice aC aD aE)) aG)))))))):CP 66 #[(.agg #[.slice a b c,.slice d e f])] w R:=
 vcq Tryz.func66 [1,5,7,9] [(8,⟨[(3,.slice),(13,.int .i64)],[]⟩),(25,⟨[(3,.slice),(29,.int .i64)],[]⟩),(44,⟨[(3,.slice),(49,.int .i64)],[]⟩)] [.agg [.slice a b c,.slice d e f]] h
theorem q_J (a:OA)(b c:Nat)(w:World)(R:EW)(h:
 ∃ (d:OA->Nat->Nat->Int->World->Prop) (e:OA->Nat->Nat->Int->World->Nat),d none 0 0 0 w/\
 (∀ (f:OA) (g i:Nat),∀ j:Int,∀ k:World,d f g i j k->
 (Br (decide (j<(b:Int))) (Ix a j b fun l=>L_issslll k (l.add (j.toNat*7)) fun m n o p q r s t u v x y z=>True/\True/\(let B:=k.alloc (.cells #[.int .i64 m,.string n,.string o,.string p,.slice q r s,.slice t u v,.slice x y z] 67);
 ∀ C,C=B.drew->True/\(let D:=C.alloc (.cells #[(.string (⟨#[70,73,69,76,68]⟩:BA)),(.string (⟨#[70,82,65,71,77,69,78,84,95,83,80,82,69,65,68]⟩:BA)),(.string (⟨#[73,78,76,73,78,69,95,70,82,65,71,77,69,78,84]⟩:BA))] 9);
 ((1=1)/\(1=1)/\True)/\Ix (some (adr C.heap.size)) m 3 fun E=>Ls D (E.add (m.toNat*1)) fun F=>True/\True/\(let G:=D.alloc (.cells #[.slice t u v,.string F] 101);
 True/\Ap 98 (.slice f g i) (.slice (some (adr D.heap.size)) 1 1) G fun H I J K=>(KeepT 67 G K/\True)/\True/\True/\Cl 120 #[.slice x y z] K (fun L M N O=>(KeepT 67 K O/\True)/\Ap 98 (.slice H I J) (.slice L M N) O fun P Q S U=>(KeepT 67 O U/\True)/\(d P Q S (wr (j+1)) U/\e P Q S (wr (j+1)) U<e f g i j k)))))) (R (.returned (.slice f g i)) k)))):CP 120 #[.slice a b c] w R:=
 vcq Tryz.func120 [5] [(8,⟨[(3,.slice),(8,.int .i64)],[]⟩)] [.l (.slice a b c)] h
theorem q_C (a:BA)(w:World)(R:EW)(h:
 (Br (a.toList==(⟨#[109,117,116,97,116,105,111,110]⟩:BA).toList) (R (.returned (.string (⟨#[77,85,84,65,84,73,79,78]⟩:BA))) w) ((Br (a.toList==(⟨#[115,117,98,115,99,114,105,112,116,105,111,110]⟩:BA).toList) (R (.returned (.string (⟨#[83,85,66,83,67,82,73,80,84,73,79,78]⟩:BA))) w) (R (.returned (.string (⟨#[81,85,69,82,89]⟩:BA))) w))))):CP 119 #[.string a] w R:=
 vcq Tryz.func119 [] [] [.l (.str a)] h
variable [DB]
def AppT (t T n:Nat):Prop:=∃ (i:TypeInfo) (z:Value) (bytes:Nat),Tryz.prog.underlying t=some (.slice T)/\Tryz.prog.info? T=some i/\i.zero=some z/\i.size=n/\i.bytes=bytes/\z.cells.size=n/\0<n/\bytes<=4096
def Acc {α:Type}(wb w:World)(T n:Nat)(R:α->List Value->Prop)(A:OA)(L C:Nat)(xs:List α):Prop:=
 EF wb w/\L=xs.length/\∃ cells,Own wb.heap.size w T n A L C cells/\Flat n R xs cells
section
variable {α:Type} {wb w w':World} {t T n:Nat} {R:α->List Value->Prop} {A:OA} {L C:Nat} {xs ys:List α} {x:α}
theorem Acc.nil (h:EF wb w):Acc wb w T n R none 0 0 ([]:List α):=⟨h,rfl,[],Own.nil ..,.nil⟩
theorem Acc.step (h:Acc wb w T n R A L C xs)(hx:EF w w'):Acc wb w' T n R A L C xs:=by
 obtain ⟨h1,h2,cells,h3,h4⟩:=h;exact ⟨h1.then hx,h2,cells,h3.keep hx fun _ _=>id,h4⟩
theorem Acc.sl (h:Acc wb w T n R A L C xs)(hn:0<n)(hl:xs.length<=4194304):SlL w T n R A L C xs:=by
 obtain ⟨h1,h2,cells,h3,h4⟩:=h;exact h3.sl h4 hn (by omega)
theorem Acc.one (ha:AppT t T n)(hlen:∀ x cs,R x cs->cs.length=n)(h:Acc wb w T n R A L C xs){cs:List Value}(hr:R x cs)(hsm:∀ v∈cs,a_v v)(h2:xs.length<16777216):
  ∃ (A':OA) (C':Nat) (w':World),(Go.builtin .append #[t,t] t #[false,false] #[.slice A L C,.slice (some (adr w.heap.size)) 1 1]).run Tryz.prog (w.alloc (.cells cs.toArray T))=.ok (.value (.slice A' (L+1) C')) w'/\
   Acc wb w' T n R A' (L+1) C' (xs++[x])/\∀ T',T'≠T->KeepT T' (w.alloc (.cells cs.toArray T)) w':=by
 obtain ⟨i,z,bytes,a1,a2,a3,a4,a5,a6,a7,a8⟩:=ha;obtain ⟨h1,hL,cells,h3,h4⟩:=h;obtain ⟨A',C',w',r,⟨cells',o',f'⟩,hx,hk⟩:=d_y t T i z n bytes a1 a2 a3 a4 a5 a6 a7 a8 h3 h1.size h4 (hlen _ _ hr) hsm hr hlen (by omega) t #[false,false];refine ⟨A',C',w',r,⟨h1.trans hx fun b hb hbl=>?_,by rw [la_,hL];rfl,cells',o',f'⟩,hk⟩;have:=(h3.base b hbl).1;omega
theorem Acc.more (ha:AppT t T n)(hlen:∀ x cs,R x cs->cs.length=n)(h:Acc wb w T n R A L C xs){a:OA}{l c:Nat}(hr:SlL w T n R a l c ys)(h2:xs.length+ys.length<=16777216):
  ∃ (A':OA) (C':Nat) (w':World),(Go.builtin .append #[t,t] t #[false,false] #[.slice A L C,.slice a l c]).run Tryz.prog w=.ok (.value (.slice A' (L+l) C')) w'/\
   Acc wb w' T n R A' (L+l) C' (xs++ys)/\∀ T',T'≠T->KeepT T' w w':=by
 obtain ⟨i,z,bytes,a1,a2,a3,a4,a5,a6,a7,a8⟩:=ha;obtain ⟨h1,hL,cells,h3,h4⟩:=h;have hl:=hr.len.1;obtain ⟨A',C',w',r,⟨cells',o',f'⟩,hx,-⟩:=c_7 t T i z n bytes a1 a2 a3 a4 a5 a6 a7 a8 h3 h1.size h4 hr hlen (by omega) t #[false,false];refine ⟨A',C',w',r,⟨h1.trans hx fun b hb hbl=>?_,by rw [la_,hL,hl],cells',o',f'⟩,fun T' hT=>h3.keepT hx hT⟩;have:=(h3.base b hbl).1;omega
theorem Acc.get (h:Acc wb w T n R A L C xs){i:Int}(h0:0<=i)(hi:i<(L:Int)):∃ (p:Addr) (x:α) (cs:List Value),A=some p/\xs[i.toNat]? =some x/\R x cs/\∀ k u,cs[k]? =some u->At w T ((p.add (i.toNat*n)).add k) u:=by
 obtain ⟨h1,h2,cells,h3,h4⟩:=h;obtain ⟨x,hx⟩:∃ x,xs[i.toNat]? =some x:=⟨_,List.getElem?_eq_getElem (by omega)⟩;obtain ⟨cs,g1,g2,g3,g4⟩:=h4.get _ x hx;have hp:∃ p,A=some p:=by
  obtain ⟨-, h|⟨g,cap,cur,e1,-⟩⟩:=h3
  ·obtain ⟨h,-⟩:=h;simp only [Value.slice.injEq] at h;omega
  ·simp only [Value.slice.injEq] at e1;exact ⟨_,e1.1⟩
 obtain ⟨p,rfl⟩:=hp;refine ⟨p,x,cs,rfl,hx,g3,fun k u hu=>?_⟩;obtain ⟨p',hp',ha⟩:=h3.at (g4 k u hu);obtain rfl:p=p':=Option.some.inj hp';rw [add_add'];exact ha
theorem KeepT.at {w w':World}{T:TypeId}(h:KeepT T w w'){a:Addr}{v:Value}(ha:At w T a v):At w' T a v:=by
 obtain ⟨cs,fr,h1,h2⟩:=ha;exact ⟨cs,fr,h _ _ _ h1,h2⟩
theorem KeepT.then {w w' w'':World}{T:TypeId}(h:KeepT T w w')(h':KeepT T w' w''):KeepT T w w'':=fun b c fr hb=>h' b c fr (h b c fr hb)
end
def RUse (w0:World)(x:List Dir × BA)(cs:List Value):Prop:=∃ (a:OA) (l c:Nat),cs=[.slice a l c,.string x.2]/\RDirs w0 a l c x.1
theorem appU:AppT 98 101 2:=⟨Tryz.t101,_,_,by kernel_rfl,by kernel_rfl,rfl,by kernel_rfl,rfl,by kernel_rfl,by omega,by decide⟩
theorem RUse.len {w0:World}(x:List Dir × BA)(cs:List Value):RUse w0 x cs->cs.length=2:=fun ⟨_,_,_,h,_⟩=>by rw [h];rfl
def p_W (k:Int):BA:=if k=0 then l_1 else if k=1 then h_9 else j_0
def spLoc (k:BA):BA:=if k=bMut then bMLoc else if k=bSub then bSLoc else bQLoc
mutual
def usS:Sel->List (List Dir × BA)
 | .mk k _ _ _ _ dirs kids=>(dirs,p_W k)::usL kids
def usL:List Sel->List (List Dir × BA)
 | []=>[]
 | s::l=>usS s++usL l
end
theorem p_3:∀ l:List Sel,usL l=l.flatMap usS
 | []=>rfl
 | s::l=>by simp [usL,p_3 l]
theorem p_N:∀ l:List Sel,(usL l).length=selL l
 | []=>rfl
 | .mk k al n on args dirs kids::l=>by
  simp only [usL,usS,selL,selS,la_,List.length_cons,p_N kids,p_N l];omega
theorem take_snoc' {α:Type}{xs:List α}{i:Int}{x:α}(h0:0<=i)(hx:xs[i.toNat]? =some x):xs.take (i+1).toNat=xs.take i.toNat++[x]:=by
 rw [show (i+1).toNat=i.toNat+1 by omega,List.take_add_one,hx];rfl
theorem q_p {α β:Type}(f:α->List β){xs:List α}{i:Int}{x:α}(h0:0<=i)(hx:xs[i.toNat]? =some x):(xs.take (i+1).toNat).flatMap f=(xs.take i.toNat).flatMap f++f x:=by
 rw [take_snoc' h0 hx,List.flatMap_append];simp
theorem q_q {α β:Type}(f:α->List β)(xs:List α)(j:Nat):((xs.take j).flatMap f).length<=(xs.flatMap f).length:=by
 have:xs.flatMap f=(xs.take j).flatMap f++(xs.drop j).flatMap f:=by rw [<- List.flatMap_append,List.take_append_drop]
 rw [this,la_];omega
theorem q_E {s:Sel}:∀ {l:List Sel},s∈l->selS s<=selL l
 | t::l,h=>by
  simp only [selL];rcases mc_.1 h with rfl|h
  ·omega
  ·have:=q_E h;omega
abbrev USof (w0:World)(xs:List Sel):Prop:=∀ (a:OA) (l c:Nat) (w:World),EF w0 w->RSels w0 a l c xs->a_z xs->selL xs<=2097152->
 CP 120 #[.slice a l c] w fun e w'=>∃ A L C,e=.returned (.slice A L C)/\Acc w w' 101 2 (RUse w0) A L C (usL xs)
theorem p_Y {a:OA}{l c:Nat}{s:BA}(h:s.size<=4194304):∀ v∈[Value.slice a l c,.string s],a_v v:=fun v hv=>by
 simp only [mc_,nn_,or_false] at hv;rcases hv with rfl|rfl
 ·rfl
 ·exact h
theorem q_n {w0:World}{xs:List Sel}(IH:∀ k al n on args dirs kids,Sel.mk k al n on args dirs kids∈xs->USof w0 kids):USof w0 xs:=by
 intro a l c w hw0 hl hok hfew;obtain ⟨e1,e3⟩:=hl.len;rw [<- p_N,p_3] at hfew;rw [p_3];refine q_J a l c w _ ⟨fun A L C i w1=>0<=i/\i<=l/\Acc w w1 101 2 (RUse w0) A L C ((xs.take i.toNat).flatMap usS),fun _ _ _ i _=>((l:Int)-i).toNat,⟨by omega,by omega,Acc.nil (Ext.refl w)⟩,?_⟩;rintro A L C i w1 ⟨h0,hi,ac⟩;refine ⟨fun hlt=>?_,fun hge=>?_⟩
 ·have hlt:=odt hlt;have x1:=hw0.then ac.1;obtain ⟨p,x,hp,hxs,cs,hc,hv⟩:=hl.get h0 hlt;have hmem:=mg_ hxs;have hokx:=b_9.1 hok x hmem;have hsn:=q_p usS h0 hxs;have hle:=q_q usS xs (i+1).toNat;have hsel:=q_E hmem;rw [<- p_N xs,p_3] at hsel;obtain ⟨k,al,n,on,args,dirs,kids⟩:=x;have IHk:=IH k al n on args dirs kids hmem;obtain ⟨a1,l1,c1,a2,l2,c2,a3,l3,c3,rfl,hv1,hv2,hv3⟩:=c_w.1 hv;obtain ⟨⟨_,_,hc0⟩,hs0,⟨_,_,hc1⟩,hs1,⟨_,_,hc2⟩,hs2,⟨_,_,hc3⟩,hs3,⟨_,_,hc4⟩,hs4,⟨_,_,hc5⟩,hs5,⟨_,_,hc6⟩,-⟩:=hc;simp only [okSel] at hokx;obtain ⟨hk,-, -, hkids,-⟩:=hokx;simp only [selS] at hsel;rw [hsn,show usS (.mk k al n on args dirs kids)=(dirs,p_W k)::usL kids by simp only [usS],la_,List.length_cons,p_N] at hle;refine ⟨p,hp,⟨h0,hlt⟩,_,x1.cell hc0 id,_,x1.cell hc1 id,_,x1.cell hc2 id,_,x1.cell hc3 id,_,_,_,x1.cell hc4 id,_,_,_,x1.cell hc5 id,_,_,_,x1.cell hc6 id,trivial,trivial,fun w17 e17=>⟨trivial,?_⟩⟩;have hx17:EF w1 w17:=by rw [e17];exact ((Ext.refl w1).alloc _).drew
  have B18:=Blk.made w17 9 [.string l_1,.string h_9,.string j_0];have hx18:EF w17 (w17.alloc (.cells #[.string l_1,.string h_9,.string j_0] 9)):=(Ext.refl w17).alloc _;have hs:(p_W k).size<=4194304:=by rcases hk with rfl|rfl|rfl<;>exact Nat.le_of_ble_eq_true rfl
  have hsc:(w17.alloc (.cells #[.string l_1,.string h_9,.string j_0] 9)).cell? ((adr w17.heap.size).add (k.toNat*1))=some (.string (p_W k)):=by
   rcases hk with rfl|rfl|rfl
   ·exact (B18.at (j:=0) rfl).cell
   ·exact (B18.at (j:=1) rfl).cell
   ·exact (B18.at (j:=2) rfl).cell
  refine ⟨⟨rfl,rfl,trivial⟩,_,rfl,⟨by omega,by omega⟩,p_W k,hsc,trivial,trivial,trivial,?_⟩;obtain ⟨A2,C2,w23,r23,ac23,k23⟩:=((ac.step hx17).step hx18).one appU RUse.len (x:=(dirs,p_W k)) (cs:=[.slice a2 l2 c2,.string (p_W k)]) ⟨a2,l2,c2,rfl,hv2⟩ (p_Y hs) (by omega);refine ⟨A2,L+1,C2,w23,r23,⟨k23 _ (by decide),trivial⟩,trivial,trivial,?_⟩;refine (IHk a3 l3 c3 w23 (hw0.then ac23.1) hv3 hkids (by omega)).mono ?_;rintro _ w25 ⟨A3,L3,C3,rfl,ac25⟩;have hlk:=p_N kids;obtain ⟨A4,C4,w28,r28,ac28,k28⟩:=(ac23.step ac25.1).more appU RUse.len (ac25.sl (by omega) (by omega)) (by rw [la_,List.length_cons,List.length_nil];omega);refine ⟨A3,L3,C3,rfl,⟨ac25.1.keepT _,trivial⟩,A4,L+1+L3,C4,w28,r28,⟨k28 _ (by decide),trivial⟩,?_⟩;rw [a_a h0 (by omega)];refine next h0 hlt ?_
  rw [hsn,show usS (.mk k al n on args dirs kids)=[(dirs,p_W k)]++usL kids by simp only [usS];rfl,<- List.append_assoc];exact ac28
 ·have hle:=odf hge;rw [tl_ (by omega)] at ac;exact ⟨A,L,C,rfl,ac⟩
theorem p_1 {w0:World}:∀ (d:Nat) (xs:List Sel),SizeOf.sizeOf xs<d->USof w0 xs
 | 0,_,h=>by omega
 | d+1,xs,h=>q_n fun k al n on args dirs kids hm=>p_1 d kids (by
   have:=List.sizeOf_lt_of_mem hm;simp only [Sel.mk.sizeOf_spec] at this;omega)
theorem q_v (w0:World)(xs:List Sel):USof w0 xs:=p_1 _ xs (Nat.lt_succ_self _)
theorem q_A (s:BA)(w:World):CP 119 #[.string s] w fun e w'=>e=.returned (.string (spLoc s))/\w'=w:=by
 refine q_C s w _ ⟨fun h=>⟨?_,rfl⟩,fun h=>⟨fun h'=>⟨?_,rfl⟩,fun h'=>⟨?_,rfl⟩⟩⟩
 ·rw [spLoc,if_pos (a_b.1 h)]
 ·rw [spLoc,if_neg (a_f.1 h),if_pos (a_b.1 h')]
 ·rw [spLoc,if_neg (a_f.1 h),if_neg (a_f.1 h')]
theorem q_t (s:BA):(spLoc s).size<=4194304:=by
 unfold spLoc;split
 ·exact Nat.le_of_ble_eq_true rfl
 ·split<;>exact Nat.le_of_ble_eq_true rfl
def usO (x:OpD):List (List Dir × BA):=[(x.dirs,spLoc x.kind)]++(x.vars.map fun v=>(v.dirs,d_Y))++usL x.kids
def usF (x:Frag):List (List Dir × BA):=[(x.dirs,d_z)]++usL x.kids
def usesD (ops:List OpD)(frags:List Frag):List (List Dir × BA):=ops.flatMap usO++frags.flatMap usF
theorem q_O {α β:Type}{f:α->List β}{g:α->Nat}:∀ {l:List α},(∀ x∈l,(f x).length<=g x)->(l.flatMap f).length<=(l.map g).sum
 | [],_=>by simp
 | x::l,h=>by
  have h1:=h x (by simp);have h2:=q_O (l:=l) (f:=f) (g:=g) fun y hy=>h y (by simp [hy]);simp only [List.flatMap_cons,la_,List.map_cons,List.sum_cons];omega
theorem q_R (x:OpD):(usO x).length<=opW x:=by
 have h1:=l_h x.kids;have h2:x.vars.length<=varsW x.vars:=f_I fun y _=>by simp only [varW];omega
 simp only [usO,opW,la_,List.length_cons,List.length_nil,List.length_map,p_N];omega
theorem q_Q (x:Frag):(usF x).length<=fragW x:=by
 have h1:=l_h x.kids;simp only [usF,fragW,la_,List.length_cons,List.length_nil,p_N];omega
theorem q_z (ops:List OpD)(frags:List Frag):(usesD ops frags).length<=docW ops frags:=by
 have h1:=q_O (l:=ops) fun x _=>q_R x;have h2:=q_O (l:=frags) fun x _=>q_Q x;simp only [usesD,docW,la_];omega
theorem q_Z {w0 w:World}{a:OA}{l c:Nat}{a':OA}{l' c':Nat}{ops:List OpD}{frags:List Frag}(hw0:EF w0 w)(hl:ROps w0 a l c ops)(hl':a_X w0 a' l' c' frags)(ok1:∀ x∈ops,okOp x)(ok2:∀ x∈frags,b_j x)(hs:docW ops frags<=2097152):
  CP 66 #[.agg #[.slice a l c,.slice a' l' c']] w fun e w'=>∃ A L C,e=.returned (.slice A L C)/\Acc w w' 101 2 (RUse w0) A L C (usesD ops frags):=by
 obtain ⟨e1,e3⟩:=hl.len;obtain ⟨e1',e3'⟩:=hl'.len;have hul:=lt_ (q_z ops frags) hs;have hsel:=lt_ (q_K ops frags) hs;unfold e_O at hsel;have hs1:∀ x∈ops,selL x.kids<=2097152:=fun x hx=>by
  have:=q_e (fun x:OpD=>selL x.kids) hx;omega
 have hs2:∀ x∈frags,selL x.kids<=2097152:=fun x hx=>by
  have:=q_e (fun x:Frag=>selL x.kids) hx;omega
 simp only [usesD,la_] at hul;have hx0:=(Ext.refl (X:=fun _=>False) w).alloc (.cells #[.slice a l c,.slice a' l' c'] 30);refine q_1 a l c a' l' c' w _ ⟨trivial,?_⟩;refine ⟨fun A L C i w1=>0<=i/\i<=l/\Acc w w1 101 2 (RUse w0) A L C ((ops.take i.toNat).flatMap usO),fun _ _ _ i _=>((l:Int)-i).toNat,⟨by omega,by omega,Acc.nil hx0⟩,?_⟩;rintro A L C i w1 ⟨h0,hi,ac⟩;refine ⟨fun hlt=>?_,fun hge=>?_⟩
 ·have hlt:=odt hlt;have x1:=hw0.then ac.1;obtain ⟨p,x,hp,hxs,cs,hc,a1,l1,c1,a2,l2,c2,a3,l3,c3,rfl,hv1,hv2,hv3⟩:=hl.get h0 hlt;obtain ⟨⟨_,_,hc0⟩,hs0,⟨_,_,hc1⟩,hs1',⟨_,_,hc2⟩,hs2',⟨_,_,hc3⟩,hs3,⟨_,_,hc4⟩,-⟩:=hc;have hmem:=mg_ hxs;have hsn:=q_p usO h0 hxs;have hle:=q_q usO ops (i+1).toNat;have hkl:=hs1 x hmem;obtain ⟨d1,d3⟩:=hv1.len;rw [hsn] at hle;simp only [usO,la_,List.length_cons,List.length_nil,List.length_map,p_N] at hle;refine ⟨p,hp,⟨h0,hlt⟩,_,x1.cell hc0 id,_,x1.cell hc1 id,_,_,_,x1.cell hc2 id,_,_,_,x1.cell hc3 id,_,_,_,x1.cell hc4 id,trivial,trivial,fun w17 e17=>?_⟩;have hx17:EF w1 w17:=by rw [e17];exact ((Ext.refl w1).alloc _).drew
  refine (q_A x.kind w17).mono ?_;rintro _ w19 ⟨rfl,rfl⟩;obtain ⟨A2,C2,w23,r23,ac23,k23⟩:=(ac.step hx17).one appU RUse.len (x:=(x.dirs,spLoc x.kind)) (cs:=[.slice a2 l2 c2,.string (spLoc x.kind)]) ⟨a2,l2,c2,rfl,hv2⟩ (p_Y (q_t _)) (by omega);refine ⟨_,rfl,⟨(Ext.refl _).keepT _,(Ext.refl _).keepT _,trivial⟩,⟨rfl,trivial⟩,trivial,trivial,trivial,A2,L+1,C2,w23,r23,⟨k23 _ (by decide),k23 _ (by decide),trivial⟩,trivial,trivial,?_⟩;refine ⟨fun A L C j w2=>0<=j/\j<=l1/\Acc w w2 101 2 (RUse w0) A L C ((ops.take i.toNat).flatMap usO++[(x.dirs,spLoc x.kind)]++(x.vars.take j.toNat).map fun v=>(v.dirs,d_Y)),fun _ _ _ j _=>((l1:Int)-j).toNat,⟨by omega,by omega,by simpa using ac23⟩,?_⟩;rintro A3 L3 C3 j w2 ⟨j0,hj,ac2⟩;refine ⟨fun hjl=>?_,fun hjg=>?_⟩
  ·have hjl:=odt hjl;have x2:=hw0.then ac2.1;obtain ⟨p2,y,hp2,hys,cs2,hc',n,b1,m1,g1,nn,b2,m2,g2,b3,m3,g3,rfl,hw1,hw2,hw3⟩:=hv1.get j0 hjl;obtain ⟨⟨_,_,hd0⟩,hz0,⟨_,_,hd1⟩,hz1,⟨_,_,hd2⟩,hz2,⟨_,_,hd3⟩,hz3,⟨_,_,hd4⟩,hz4,⟨_,_,hd5⟩,-⟩:=hc';have hy37:EF w2 (w2.alloc (.cells #[.string y.name,.string n,.slice b1 m1 g1,.bool nn,.slice b2 m2 g2,.slice b3 m3 g3] 59)):=(Ext.refl w2).alloc _;obtain ⟨A4,C4,w40,r40,ac40,k40⟩:=(ac2.step hy37).one appU RUse.len (x:=(y.dirs,d_Y)) (cs:=[.slice b3 m3 g3,.string d_Y]) ⟨b3,m3,g3,rfl,hw3⟩ (p_Y (by decide)) (by
    simp only [la_,List.length_cons,List.length_nil,List.length_map,List.length_take];omega)
   refine ⟨p2,hp2,⟨j0,hjl⟩,_,x2.cell hd0 id,_,x2.cell hd1 id,_,_,_,x2.cell hd2 id,_,x2.cell hd3 id,_,_,_,x2.cell hd4 id,_,_,_,x2.cell hd5 id,trivial,trivial,trivial,trivial,A4,L3+1,C4,w40,r40,⟨k40 _ (by decide),k40 _ (by decide),k40 _ (by decide),trivial⟩,?_⟩;rw [a_a j0 (by omega)];refine next j0 hjl ?_
   rw [take_snoc' j0 hys,List.map_append,<- List.append_assoc];exact ac40
  ·have hje:=odf hjg;rw [tl_ (l:=x.vars) (by omega)] at ac2;refine (q_v w0 x.kids a3 l3 c3 w2 (hw0.then ac2.1) hv3 (ok1 x hmem).2.2.2 hkl).mono ?_;rintro _ w42 ⟨A5,L5,C5,rfl,ac42⟩;have hlk:=p_N x.kids;obtain ⟨A6,C6,w45,r45,ac45,k45⟩:=(ac2.step ac42.1).more appU RUse.len (ac42.sl (by omega) (by omega)) (by
    simp only [la_,List.length_cons,List.length_nil,List.length_map,p_N];omega)
   refine ⟨A5,L5,C5,rfl,⟨ac42.1.keepT _,ac42.1.keepT _,trivial⟩,A6,L3+L5,C6,w45,r45,⟨k45 _ (by decide),k45 _ (by decide),trivial⟩,?_⟩;rw [a_a h0 (by omega)];refine next h0 hlt ?_
   rw [hsn];simpa only [usO,List.append_assoc] using ac45
 ·have hle:=odf hge;rw [tl_ (by omega)] at ac;refine ⟨fun A L C i w1=>0<=i/\i<=l'/\Acc w w1 101 2 (RUse w0) A L C (ops.flatMap usO++(frags.take i.toNat).flatMap usF),fun _ _ _ i _=>((l':Int)-i).toNat,⟨by omega,by omega,by simpa using ac⟩,?_⟩;clear ac hle hge h0 hi;rintro A L C i w1 ⟨h0,hi,ac⟩;refine ⟨fun hlt=>?_,fun hge=>?_⟩
  ·have hlt:=odt hlt;have x1:=hw0.then ac.1;obtain ⟨p,x,hp,hxs,cs,hc,a2,l2,c2,a3,l3,c3,rfl,hv2,hv3⟩:=hl'.get h0 hlt;obtain ⟨⟨_,_,hc0⟩,hs0,⟨_,_,hc1⟩,hs1',⟨_,_,hc2⟩,hs2',⟨_,_,hc3⟩,-⟩:=hc;have hmem:=mg_ hxs;have hsn:=q_p usF h0 hxs;have hle:=q_q usF frags (i+1).toNat;have hkl:=hs2 x hmem;rw [hsn] at hle;simp only [usF,la_,List.length_cons,List.length_nil,p_N] at hle;have hx57:EF w1 (w1.alloc (.cells #[.string x.name,.string x.on,.slice a2 l2 c2,.slice a3 l3 c3] 63)):=(Ext.refl w1).alloc _;obtain ⟨A2,C2,w60,r60,ac60,k60⟩:=(ac.step hx57).one appU RUse.len (x:=(x.dirs,d_z)) (cs:=[.slice a2 l2 c2,.string d_z]) ⟨a2,l2,c2,rfl,hv2⟩ (p_Y (by decide)) (by
    simp only [la_,usF];omega)
   refine ⟨p,hp,⟨h0,hlt⟩,_,x1.cell hc0 id,_,x1.cell hc1 id,_,_,_,x1.cell hc2 id,_,_,_,x1.cell hc3 id,trivial,trivial,trivial,trivial,A2,L+1,C2,w60,r60,⟨k60 _ (by decide),k60 _ (by decide),trivial⟩,?_⟩;refine (q_v w0 x.kids a3 l3 c3 w60 (hw0.then ac60.1) hv3 (ok2 x hmem).2.1 hkl).mono ?_;rintro _ w62 ⟨A5,L5,C5,rfl,ac62⟩;have hlk:=p_N x.kids;obtain ⟨A6,C6,w65,r65,ac65,k65⟩:=(ac60.step ac62.1).more appU RUse.len (ac62.sl (by omega) (by omega)) (by
    simp only [la_,List.length_cons,List.length_nil,p_N,usF];omega)
   refine ⟨A5,L5,C5,rfl,⟨ac62.1.keepT _,ac62.1.keepT _,trivial⟩,A6,L+1+L5,C6,w65,r65,⟨k65 _ (by decide),k65 _ (by decide),trivial⟩,?_⟩;rw [a_a h0 (by omega)];refine next h0 hlt ?_
   rw [hsn];simpa only [usF,List.append_assoc] using ac65
  ·have hle:=odf hge;rw [tl_ (by omega)] at ac;exact ⟨A,L,C,rfl,ac⟩
theorem Own.le {b2 b:Nat}{w:World}{T n:Nat}{a:OA}{l c:Nat}{xs:List Value}(h:Own b2 w T n a l c xs)(hb:b<=b2):Own b w T n a l c xs:=
 ⟨h.1,h.2.imp id fun ⟨g,cap,cur,e1,e2,e⟩=>⟨g,cap,cur,e1,lt_ hb e2,e⟩⟩
theorem q_F {α:Type}(t T:TypeId)(i:TypeInfo)(z:Value)(n bytes:Nat)(ht:Tryz.prog.underlying t=some (.slice T))(hi:Tryz.prog.info? T=some i)(hz:i.zero=some z)
  (hsize:i.size=n) (hby:i.bytes=bytes) (hzs:z.cells.size=n) (hn:0<n) (h3:bytes<=4096) {base:Nat} {w:World} {A:OA} {l:Nat} {cells:List Value} {R:α->List Value->Prop} {xs ys:List α}
  (hown:Own base w T n A l l cells) (hb:base<=w.heap.size) (h0:0<l) (hf:Flat n R xs cells) {a':OA} {l' c':Nat} (hl:SlL w T n R a' l' c' ys) (hlen:∀ x cs,R x cs->cs.length=n) (h2:l+l'<=16777216) (ty:TypeId) (fs:Array Bool):
  ∃ (A':OA) (C':Nat) (w':World),(Go.builtin .append #[t,t] ty fs #[.slice A l l,.slice a' l' c']).run Tryz.prog w=.ok (.value (.slice A' (l+l') C')) w'/\
   (∃ cells',Own base w' T n A' (l+l') C' cells'/\Flat n R (xs++ys) cells')/\EF w w':=by
 have hown0:=hown;obtain ⟨news,hfn,hnews⟩:=hl.flat hlen;have e:=hl.len.1;obtain ⟨hc,⟨h1,-⟩|⟨g,cap,cur,e1,e2,e3,e4,e5,e6,e7⟩⟩:=hown
 ·simp only [Value.slice.injEq] at h1;omega
 simp only [Value.slice.injEq] at e1;obtain ⟨rfl,-, rfl⟩:=e1;rcases Nat.eq_zero_or_pos l' with h|h
 ·subst h;have hys:ys=[]:=List.length_eq_zero_iff.1 e.symm;subst hys;cases a' with
  | none=>
   exact ⟨_,_,_,d_u t T i ht hi (Nat.le_refl _) ty fs,⟨cells,hown0,by simpa using hf⟩,Ext.refl w⟩
  | some p=>
   have r:=run_append_room_cells (P:=Tryz.prog) w t ty T i ht hi g 0 l l p 0 c' [] (by simp) (by simp) (by simp) (Nat.le_refl _) (fun j hj=>by simp at hj) (fun j hj=>by simp at hj);refine ⟨some ⟨g,0,none⟩,l,w,?_,⟨cells,hown0,by simpa using hf⟩,Ext.refl w⟩;have r':(Builtin.append_ #[t,t] ty #[.slice (some ⟨g,0,none⟩) l l,.slice (some p) 0 c']).run Tryz.prog w=.ok (.slice (some ⟨g,0,none⟩) (l+0) l) w:=r;simp only [Go.builtin,Sem.run_bind,r',Result.andThen_ok,Sem.run_pure]
 ·cases a' with
  | none=>
   cases ys with
   | nil=>simp at e;omega
   | cons y ys=>
    obtain ⟨p,hp,_⟩:=hl.2.2.2 0 y rfl;cases hp
  | some p=>
   obtain ⟨v',w',r,o,gr⟩:=run_append_arg_grows (P:=Tryz.prog) w t ty T i z n bytes ht hi hz hsize hby hzs hn ⟨g,0,none⟩ l l cells hc (fun j u hu=>by
    obtain ⟨q,hq,ha⟩:=Own.at hown0 hu;cases hq;exact ha.cell) p l' c' news (by rw [hfn.len,e]) (fun j u hu=>by
    obtain ⟨p',hp',_,ha⟩:=hnews j u hu;cases hp';exact ha.cell) (by omega) (by simp only [maxLen];omega) (by
     have:(l+l')*bytes<=16777216*4096:=Nat.mul_le_mul h2 h3;omega)
   have hv:∃ A C,v'=.slice A (l+l') C:=by
    obtain ⟨_,h|⟨g,cap,cur,h,_⟩⟩:=o
    ·exact ⟨none,0,by rw [h.1,h.2]⟩
    ·exact ⟨_,_,h⟩
   obtain ⟨A',C',rfl⟩:=hv;refine ⟨A',C',w',?_,⟨_,Own.le o hb,hf.append hfn⟩,Ext.of_grown gr fun k hk=>by cases hk⟩;simp only [Go.builtin,Sem.run_bind,r,Result.andThen_ok,Sem.run_pure]
def q_y:DirDef:=⟨E0,E0,[],[],false⟩
def dirS (dirs:List DirDef)(n:BA):Option DirDef:=a_h DirDef.name (d_s++dirs) n
def dirG (dirs:List DirDef)(n:BA):DirDef × Bool:=match dirS dirs n with
 | some d=>(d,true)
 | none=>(q_y,false)
theorem q_k {dirs:List DirDef}{n:BA}{f:DirDef}(h:dirS dirs n=some f):dirG dirs n=(f,true):=by rw [dirG,h]
theorem q_j {dirs:List DirDef}{n:BA}(h:dirS dirs n=none):dirG dirs n=(q_y,false):=by rw [dirG,h]
theorem RPre.shape {w:World}{k1 k2 k3 k4 k5 k6 k7 k8:Nat}{x:DirDef}{cs:List Value}(h:RPre w (a_y k1 k2 k3 k4 k5 k6 k7 k8) x cs):∃ a l c a' l' c',cs=[.string x.doc,.string x.name,.slice a l c,.slice a' l' c',.bool x.rep]:=by
 rcases h with ⟨a,l,c,a',l',c',rfl,-⟩|h
 ·exact ⟨_,_,_,_,_,_,rfl⟩
 ·simp only [a_y,mc_,nn_,or_false,Prod.mk.injEq] at h;rcases h with ⟨rfl,rfl⟩|⟨rfl,rfl⟩|⟨rfl,rfl⟩|⟨rfl,rfl⟩<;>exact ⟨_,_,_,_,_,_,rfl⟩
section
variable {k:Nat} {A4:OA} {L4 C4:Nat} {A:OA} {L C:Nat} {A3:OA} {L3 C3:Nat} {dirs:List DirDef}
theorem q_m {n:BA}{w:World}(hDB:DB.B<=w.heap.size)(hB:Blk w k 79 [.slice A4 L4 C4,.slice A L C,.slice A3 L3 C3])(hD:a_Y w A3 L3 C3 dirs)(few:dirs.length<=12):
  CP 67 #[.pointer (some (adr k)),.string n] w fun e w'=>∃ cs,e=.returned (.tuple #[.agg cs.toArray,.bool (dirG dirs n).2])/\c_v w' (dirG dirs n).1 cs/\EF w w':=by
 have x3:EF w (w.alloc (.cells #[.string ⟨#[]⟩,.string ⟨#[]⟩,.slice none 0 0,.slice none 0 0,.bool false] 105)):=(Ext.refl w).alloc _;have hz3:=(Blk.made w 105 [.string ⟨#[]⟩,.string ⟨#[]⟩,.slice none 0 0,.slice none 0 0,.bool false]).lt;refine q_s (some (adr k)) n w _ ⟨trivial,fun w4 e4=>?_⟩;have x4:EF w w4:=by rw [e4];exact x3.drew
 have hz4:w.heap.size<w4.heap.size:=Nat.lt_of_lt_of_le hz3 (by rw [e4];exact ((Ext.refl _).drew (X:=fun _=>False)).size);have a4:=(hB.ext x4 id).at (j:=2) rfl;refine ⟨adr k,rfl,_,_,_,a4.cell,?_⟩;refine (l_5 w w4 (lt_ hDB x4.size)).mono ?_;rintro _ w8 ⟨D,T,L0,C0,k1,k2,k3,k4,k5,k6,k7,k8,rfl,x8,-, ⟨cells,oD,fD⟩,hbl,hge⟩;have y8:=x4.then x8;obtain ⟨A14,C14,w15,r15,⟨cells',o15,f15⟩,x15⟩:=q_F 23 105 Tryz.t105 _ 5 _ (by kernel_rfl) (by kernel_rfl) rfl (by kernel_rfl) rfl (by kernel_rfl) (by omega) (by decide) oD x8.size (by omega) fD (R:=RPre w (a_y k1 k2 k3 k4 k5 k6 k7 k8)) (SlL.keep y8.keep (by decide) hD fun _ _ _ h=>.inl h) (fun x cs h=>by
  obtain ⟨a,l,c,a',l',c',rfl⟩:=RPre.shape h;rfl) (by have:=hD.len;omega) 23 #[false,false]
 have y15:=y8.then x15;have bl15:=hbl.keep x15 fun _ _=>id;have hlen:=hD.len;have acc:Acc w4 w15 105 5 (RPre w (a_y k1 k2 k3 k4 k5 k6 k7 k8)) A14 (4+L3) C14 (d_s++dirs):=⟨x8.then x15,by rw [la_];simp [d_s];omega,cells',o15,f15⟩;refine ⟨_,_,_,_,_,_,_,_,_,_,_,_,_,_,_,rfl,⟨x8.keepT _,trivial⟩,⟨x8.cell_eq id a4.cell,trivial⟩,A14,4+L3,C14,w15,r15,⟨x15.keepT _,trivial⟩,trivial,fun i _ _ _ _ _ _ _ _ _ w1=>0<=i/\i<=((4+L3:Nat):Int)/\EF w15 w1/\a_h DirDef.name ((d_s++dirs).take i.toNat) n=none,fun i _ _ _ _ _ _ _ _ _ _=>(((4+L3:Nat):Int)-i).toNat,⟨by omega,by omega,Ext.refl w15,by simp [a_h]⟩,?_⟩;rintro i s19 s20 a21 l21 c21 a22 l22 c22 b23 w1 ⟨h0,hi,hx,hf1⟩;have y1:=y15.then hx;refine ⟨fun hlt=>?_,fun hge'=>?_⟩
 ·have hlt:=odt hlt;obtain ⟨p,x,cs,hp,hxs,hr,hat⟩:=(acc.step hx).get h0 hlt;obtain ⟨a,l,c,a',l',c',rfl⟩:=RPre.shape hr;have y32:=y1.alloc (.cells #[.string x.doc,.string x.name,.slice a l c,.slice a' l' c',.bool x.rep] 105);have h32:=hx.alloc (.cells #[.string x.doc,.string x.name,.slice a l c,.slice a' l' c',.bool x.rep] 105);refine ⟨p,hp,⟨h0,hlt⟩,_,(hat 0 _ rfl).cell,_,(hat 1 _ rfl).cell,_,_,_,(hat 2 _ rfl).cell,_,_,_,(hat 3 _ rfl).cell,_,(hat 4 _ rfl).cell,trivial,trivial,fun he=>?_,fun hne=>?_⟩
  ·rw [q_k (show dirS dirs n=some x from c_J hf1 hxs (a_b.1 he))];have yE:=y32.setB (b:=w.heap.size) (.inr (Nat.le_refl _)) [.string x.doc,.string x.name,.slice a l c,.slice a' l' c',.bool x.rep] 105;refine ⟨trivial,_,rfl,?_,yE⟩;rcases hr with hr|hr
   ·exact hr.keep yE.keep
   ·refine m_E (fun y hy=>?_) _ hr;have hs:Ext (fun b=>b=w.heap.size) _ (setB (w1.alloc (.cells #[.string x.doc,.string x.name,.slice a l c,.slice a' l' c',.bool x.rep] 105)) w.heap.size [.string x.doc,.string x.name,.slice a l c,.slice a' l' c',.bool x.rep] 105):=Ext.setB (X:=fun b=>b=w.heap.size) (Ext.refl _) (.inl rfl) _ _;exact ((bl15 y hy).ext h32 id).ext hs fun e=>by
     have:=hge y hy;have e':y.1=w.heap.size:=e;omega
  ·rw [a_a h0 (by omega)];exact next h0 hlt ⟨h32,c_h h0 hf1 hxs (a_f.1 hne)⟩
 ·have hle:=odf hge';have hl4:(d_s++dirs).length=4+L3:=by rw [la_];simp [d_s];omega
  rw [tl_ (by omega)] at hf1;rw [q_j (show dirS dirs n=none from hf1)];have yE:=y1.setB (b:=w.heap.size) (.inr (Nat.le_refl _)) [.string ⟨#[]⟩,.string ⟨#[]⟩,.slice none 0 0,.slice none 0 0,.bool false] 105;exact ⟨trivial,trivial,_,rfl,⟨none,0,0,none,0,0,rfl,SlL.nil ..,SlL.nil ..⟩,yE⟩
variable {a:OA} {l c:Nat} {a':OA} {l' c':Nat} {ops:List OpD} {frags:List Frag} {w:World}
def onceN (dirs:List DirDef)(ds:List Dir):List BA:=(ds.filter fun d=>(dirG dirs d.name).2&& !(dirG dirs d.name).1.rep).map Dir.name
end
def askF (types:List Def)(x:Sel × BA):List (List Argm × List ArgDef):=match x.1 with
 | .mk k _ n _ args _ _=>if k=0/\(b_K types x.2 n).2=true then [(args,(b_K types x.2 n).1.args)] else []
def askD (dirs:List DirDef)(d:Dir):List (List Argm × List ArgDef):=if (dirG dirs d.name).2=true then [(d.args,(dirG dirs d.name).1.args)] else []
def asks (types:List Def)(dirs:List DirDef)(roots:List RootD)(ops:List OpD)(frags:List Frag):List (List Argm × List ArgDef):=(atAll types roots ops frags).flatMap (askF types)++(usesD ops frags).flatMap fun u=>u.1.flatMap (askD dirs)
structure CloA (g:FuncId) (cap:List Value) (X:Nat->Prop) (P:List (List Argm × List ArgDef)->World->Prop):Prop where
 fn:∃ fn,Tryz.prog.funcs[g]? =some fn/\(fn.name== "runtime.NumGoroutine" ||fn.body.isNone)=false
 st:∀ l w w',P l w->EF w w'->P l w'
 call:∀ (l:List (List Argm × List ArgDef)) (w:World) (args:List Argm) (defs:List ArgDef) (a:OA) (m c:Nat) (a':OA) (m' c':Nat),P l w->c_1 w a m c args->a_R w a' m' c' defs->CP g ([Value.slice a m c,Value.slice a' m' c']++cap).toArray w fun e w'=>e=.returned (.tuple #[])/\SSt X w w'/\P (l++[(args,defs)]) w'
section
variable {k:Nat} {A4:OA} {L4 C4:Nat} {A:OA} {L C:Nat} {A3:OA} {L3 C3:Nat} {types:List Def} {g:FuncId} {cap:List Value} {X:Nat->Prop} {P:List (List Argm × List ArgDef)->World->Prop}
def PAs (k:Nat)(A4:OA)(L4 C4:Nat)(A:OA)(L C:Nat)(A3:OA)(L3 C3:Nat)(types:List Def)(g:FuncId)(cap:List Value)(P:List (List Argm × List ArgDef)->World->Prop)(wb fb:Nat)(l:List (Sel × BA))(w:World):Prop:=
 Blk w wb 33 [.pointer (some (adr k))]/\Blk w k 79 [.slice A4 L4 C4,.slice A L C,.slice A3 L3 C3]/\RDefs w A4 L4 C4 types/\Blk w fb 97 [.func (.func g) #[] cap.toArray]/\P (l.flatMap (askF types)) w
theorem q_W {wb fb:Nat}(hw:¬ X wb)(hk:¬ X k)(hf:¬ X fb)(hg:CloA g cap X P):Clo 113 [.pointer (some (adr wb)),.pointer (some (adr fb))] X (PAs k A4 L4 C4 A L C A3 L3 C3 types g cap P wb fb):=by
 obtain ⟨fn,hfn,hfb⟩:=hg.fn;refine ⟨⟨_,Tryz.func113,by kernel_rfl⟩,fun l w w' ⟨p1,p2,p3,p4,p5⟩ hx=>⟨p1.ext hx id,p2.ext hx id,p3.keep hx.keep,p4.ext hx id,hg.st _ _ _ p5 hx⟩,?_⟩;rintro l w ⟨k',al,n,on,args,dirs,kids⟩ u cs ⟨p1,p2,p3,p4,p5⟩ hv hsm hok hu -;obtain ⟨a1,l1,c1,a2,l2,c2,a3,l3,c3,rfl,hv1,hv2,hv3⟩:=c_w.1 hv;have hn:n.size<=4194304:=hsm (.string n) (by simp);have x11:EF w (w.alloc (.cells #[.int .i64 k',.string al,.string n,.string on,.slice a1 l1 c1,.slice a2 l2 c2,.slice a3 l3 c3] 67)):=(Ext.refl w).alloc _;refine p_9 k' al n on a1 l1 c1 a2 l2 c2 a3 l3 c3 u (adr wb) (adr fb) w _ ⟨trivial,some (adr k),((p1.ext x11 id).at (j:=0) rfl).cell,?_⟩;refine (e_p (types:=types) hu hn (p2.ext x11 id) (p3.keep x11.keep)).mono ?_;rintro _ w14 ⟨cs14,rfl,⟨f0,fl0,fc0,f1,fl1,fc1,tn,f2,fl2,fc2,nn,f3,fl3,fc3,rfl,hdefs,-⟩,-, x14⟩;have z25:EF w14 (w14.alloc (.cells #[.string (b_K types u n).1.doc,.string (b_K types u n).1.name,.slice f0 fl0 fc0,.slice f1 fl1 fc1,.string tn,.slice f2 fl2 fc2,.bool nn,.slice f3 fl3 fc3] 70)):=(Ext.refl w14).alloc _;have x25:=(x11.then x14).then z25;refine ⟨_,_,_,_,_,_,_,_,_,_,_,_,_,_,_,_,_,rfl,⟨x14.keepT _,trivial⟩,trivial,trivial,fun K26 hK26=>?_⟩;have hlist:∀ z:Bool,(z=true↔k'=0/\(b_K types u n).2=true)->askF types (.mk k' al n on args dirs kids,u)=if z=true then [(args,(b_K types u n).1.args)] else []:=fun z hz=>by
  show (if k'=0/\(b_K types u n).2=true then _ else _)=_;by_cases h:z=true
  ·rw [if_pos h,if_pos (hz.1 h)]
  ·rw [if_neg h,if_neg fun k=>h (hz.2 k)]
 have key:∀ z:Bool,(z=true↔k'=0/\(b_K types u n).2=true)->K26 z (w14.alloc (.cells #[.string (b_K types u n).1.doc,.string (b_K types u n).1.name,.slice f0 fl0 fc0,.slice f1 fl1 fc1,.string tn,.slice f2 fl2 fc2,.bool nn,.slice f3 fl3 fc3] 70)):=by
  intro z hz;have hl:=hlist z hz;refine hK26 z _ ⟨fun h=>?_,fun h=>⟨rfl,SSt.of0 x25,p1.ext x25 id,p2.ext x25 id,p3.keep x25.keep,p4.ext x25 id,?_⟩⟩
  ·refine ⟨_,((p4.ext x25 id).at (j:=0) rfl).cell,g,cap,rfl,fn,hfn,hfb,?_⟩;refine (hg.call _ _ args (b_K types u n).1.args a1 l1 c1 f0 fl0 fc0 (hg.st _ _ _ p5 x25) (hv1.keep x25.keep) (hdefs.keep z25.keep)).mono ?_;rintro _ w34 ⟨rfl,s34,P34⟩;have t34:=(SSt.of0 (X:=X) x25).trans s34;refine ⟨rfl,⟨s34.kt _ (by decide),s34.kt _ (by decide),trivial⟩,rfl,t34,p1.ext t34.ext hw,p2.ext t34.ext hk,p3.keep t34.keep,p4.ext t34.ext hf,?_⟩;rw [List.flatMap_append,List.flatMap_cons,List.flatMap_nil,List.append_nil,hl,if_pos h];exact P34
  ·rw [List.flatMap_append,List.flatMap_cons,List.flatMap_nil,List.append_nil,hl,if_neg (by rw [h];simp),List.append_nil];exact hg.st _ _ _ p5 x25
 exact ⟨fun h=>key _ ⟨fun k=>⟨by simpa using h,k⟩,fun k=>k.2⟩,fun h=>key false ⟨nofun,fun k=>by simp [k.1] at h⟩⟩
theorem q_d {roots:List RootD}{dirs:List DirDef}{a:OA}{l c:Nat}{a':OA}{l' c':Nat}{ops:List OpD}{frags:List Frag}{w:World}(hDB:DB.B<=w.heap.size)(hX:∀ b,X b->b<w.heap.size)(hk:¬ X k)(hg:CloA g cap X P)(hB:Blk w k 79 [.slice A4 L4 C4,.slice A L C,.slice A3 L3 C3])(hT:RDefs w A4 L4 C4 types)(hR:b_w w A L C roots)(hD:a_Y w A3 L3 C3 dirs)(few:dirs.length<=12)(hl:ROps w a l c ops)(hl':a_X w a' l' c' frags)(ok1:∀ x∈ops,okOp x)(ok2:∀ x∈frags,b_j x)(hs:docW ops frags<=2097152)(hP:P [] w):
  CP 62 #[.pointer (some (adr k)),.agg #[.slice a l c,.slice a' l' c'],.func (.func g) #[] cap.toArray] w fun e w'=>e=.returned (.tuple #[])/\SSt X w w'/\P (asks types dirs roots ops frags) w':=by
 obtain ⟨fn,hfn,hfb⟩:=hg.fn;have hul:=lt_ (q_z ops frags) hs;have x5:EF w (w.alloc (.cells #[.pointer (some (adr k))] 33)):=(Ext.refl w).alloc _;have B5:Blk (w.alloc (.cells #[.pointer (some (adr k))] 33)) w.heap.size 33 [.pointer (some (adr k))]:=Blk.made w 33 [.pointer (some (adr k))];refine q_g (some (adr k)) a l c a' l' c' (.func (.func g) #[] cap.toArray) w _ ⟨trivial,?_⟩;generalize w.alloc (.cells #[.pointer (some (adr k))] 33)=w5 at *;have x6:EF w5 (w5.alloc (.cells #[.slice a l c,.slice a' l' c'] 30)):=(Ext.refl w5).alloc _;refine ⟨trivial,?_⟩;show (_/\True)/\_;generalize w5.alloc (.cells #[.slice a l c,.slice a' l' c'] 30)=w6 at *;have B7:Blk (w6.alloc (.cells #[.func (.func g) #[] cap.toArray] 97)) w6.heap.size 97 [.func (.func g) #[] cap.toArray]:=Blk.made w6 97 [.func (.func g) #[] cap.toArray];have x7:EF w6 (w6.alloc (.cells #[.func (.func g) #[] cap.toArray] 97)):=(Ext.refl w6).alloc _;refine ⟨⟨rfl,trivial⟩,?_⟩;show ∃ _,_;generalize w6.alloc (.cells #[.func (.func g) #[] cap.toArray] 97)=w7 at *;have y7:=(x5.then x6).then x7;have B57:=(B5.ext x6 id).ext x7 id;have hz5:=x5.size;have hz6:=x6.size;have hwX:¬ X w.heap.size:=fun h=>by have:=hX _ h;omega
 have hfX:¬ X w6.heap.size:=fun h=>by have:=hX _ h;omega
 refine ⟨some (adr k),(B57.at (j:=0) rfl).cell,?_⟩;refine (j_4 (X:=X) (P:=PAs k A4 L4 C4 A L C A3 L3 C3 types g cap P w.heap.size w6.heap.size) hk (q_W hwX hk hfX hg) (hB.ext y7 id) (hT.keep y7.keep) (hR.keep y7.keep) (hl.keep y7.keep) (hl'.keep y7.keep) ok1 ok2 ⟨B57,hB.ext y7 id,hT.keep y7.keep,B7,hg.st _ _ _ hP y7⟩).mono ?_;rintro _ w10 ⟨rfl,s10,p1,p2,-, p4,P10⟩;have v10:SSt X w w10:=(SSt.of0 y7).trans s10;have hz10:=v10.ext.size;refine ⟨rfl,⟨s10.kt _ (by decide),trivial⟩,?_⟩;refine (q_Z (w0:=w10) (Ext.refl w10) (hl.keep v10.keep) (hl'.keep v10.keep) ok1 ok2 hs).mono ?_;rintro _ w12 ⟨A13,L13,C13,rfl,ac⟩;have hL13:=ac.2.1;have hown:∀ p:Addr,A13=some p->¬ X p.block:=fun p hp h=>by
  obtain ⟨-, -, cells,ho,-⟩:=ac;have:=(ho.base p.block ⟨p,hp,rfl⟩).1;have:=hX _ h;omega
 refine ⟨A13,L13,C13,rfl,⟨ac.1.keepT _,trivial⟩,fun i w1=>0<=i/\i<=L13/\SSt X w12 w1/\P ((atAll types roots ops frags).flatMap (askF types)++((usesD ops frags).take i.toNat).flatMap fun u=>u.1.flatMap (askD dirs)) w1,fun i _=>((L13:Int)-i).toNat,⟨by omega,by omega,SSt.refl w12,by simpa using hg.st _ _ _ P10 ac.1⟩,?_⟩;rintro i w1 ⟨h0,hi,hx,hP1⟩;refine ⟨fun hlt=>?_,fun hge=>?_⟩
 ·have hlt:=odt hlt;obtain ⟨p,⟨ds,loc⟩,cs,hp,hus,hr,hat⟩:=ac.get h0 hlt;obtain ⟨b1,m1,d1,rfl,hds⟩:=hr;obtain ⟨e1,e3⟩:=hds.len;replace e1:m1=ds.length:=e1;have hat':∀ k u,[Value.slice b1 m1 d1,.string loc][k]? =some u->At w1 101 ((p.add (i.toNat*2)).add k) u:=fun k u hu=>hx.ext.at (by rw [b_x,b_x];exact hown p hp) (hat k u hu);have v1:SSt X w10 w1:=(SSt.of0 ac.1).trans hx;have x22:EF w1 (w1.alloc (.cells #[.slice b1 m1 d1,.string loc] 101)):=(Ext.refl w1).alloc _;refine ⟨p,hp,⟨h0,hlt⟩,_,_,_,(hat' 0 _ rfl).cell,_,(hat' 1 _ rfl).cell,trivial,trivial,fun j w2=>0<=j/\j<=m1/\SSt X w1 w2/\P (((atAll types roots ops frags).flatMap (askF types)++((usesD ops frags).take i.toNat).flatMap fun u=>u.1.flatMap (askD dirs))++(ds.take j.toNat).flatMap (askD dirs)) w2,fun j _=>((m1:Int)-j).toNat,⟨by omega,by omega,SSt.of0 x22,by simpa using hg.st _ _ _ hP1 x22⟩,?_⟩;rintro j w2 ⟨j0,hj,hy,hP2⟩;have v2:=v1.trans hy;have u2:=v10.trans v2;refine ⟨fun hjl=>fun K27 hK27=>?_,fun hjg=>?_⟩
  ·have hjl:=odt hjl;obtain ⟨p2',d,hp2,hd,cs2,hc,b2,m2,d2,rfl,hargs⟩:=(RDirs.keep v2.keep hds).get j0 hjl;obtain ⟨⟨_,_,hc0⟩,hs0,⟨_,_,hc1⟩,-⟩:=hc;have x33:EF w2 (w2.alloc (.cells #[.string d.name,.slice b2 m2 d2] 103)):=(Ext.refl w2).alloc _;have u33:=u2.trans (SSt.of0 x33);have key:∀ w',SSt X w2 w'->P (((atAll types roots ops frags).flatMap (askF types)++((usesD ops frags).take i.toNat).flatMap fun u=>u.1.flatMap (askD dirs))++(ds.take (j+1).toNat).flatMap (askD dirs)) w'->K27 w':=by
    intro w' s' P';refine hK27 w' ?_;rw [a_a j0 (by omega)];exact next j0 hjl ⟨hy.trans s',P'⟩
   have hsn:=h_M (askD dirs) j0 hd;refine ⟨p2',hp2,⟨j0,hjl⟩,_,hc0.cell,_,_,_,hc1.cell,trivial,trivial,some (adr k),(((p1.ext v2.ext hwX).ext x33 id).at (j:=0) rfl).cell,?_⟩;refine (q_m (n:=d.name) (lt_ hDB u33.ext.size) (hB.ext u33.ext hk) (hD.keep u33.keep) few).mono ?_;rintro _ w36 ⟨cs36,rfl,⟨a0,l0,c0,a1,l1,c1,rfl,hdefs,-⟩,x36⟩;have z44:EF w36 (w36.alloc (.cells #[.string (dirG dirs d.name).1.doc,.string (dirG dirs d.name).1.name,.slice a0 l0 c0,.slice a1 l1 c1,.bool (dirG dirs d.name).1.rep] 105)):=(Ext.refl w36).alloc _;have x44:=(x33.then x36).then z44;refine ⟨_,_,_,_,_,_,_,_,_,_,rfl,⟨x36.keepT _,x36.keepT _,x36.keepT _,trivial⟩,trivial,trivial,fun h=>?_,fun h=>key _ (SSt.of0 x44) ?_⟩
   ·refine ⟨_,((p4.ext (v2.trans (SSt.of0 x44)).ext hfX).at (j:=0) rfl).cell,g,cap,rfl,fn,hfn,hfb,?_⟩;refine (hg.call _ _ d.args (dirG dirs d.name).1.args b2 m2 d2 a0 l0 c0 (hg.st _ _ _ hP2 x44) (hargs.keep x44.keep) (hdefs.keep z44.keep)).mono ?_;rintro _ w50 ⟨rfl,s50,P50⟩;refine ⟨rfl,⟨s50.kt _ (by decide),s50.kt _ (by decide),s50.kt _ (by decide),s50.kt _ (by decide),trivial⟩,key w50 ((SSt.of0 x44).trans s50) ?_⟩;rw [hsn,askD,if_pos h,<- List.append_assoc];exact P50
   ·rw [hsn,askD,if_neg (by rw [h];simp),List.append_nil];exact hg.st _ _ _ hP2 x44
  ·have hje:=odf hjg;rw [tl_ (l:=ds) (by omega)] at hP2;rw [a_a h0 (by omega)];refine next h0 hlt ⟨hx.trans hy,?_⟩
   rw [h_M (fun u:List Dir × BA=>u.1.flatMap (askD dirs)) h0 hus,<- List.append_assoc];exact hP2
 ·have hle:=odf hge;rw [tl_ (by omega)] at hP1;exact ⟨rfl,v10.trans ((SSt.of0 ac.1).trans hx),hP1⟩
end
def p_P (x:List Argm × List ArgDef):Prop:=∃ a∈x.1,a_h ArgDef.name x.2 a.name=none
theorem appGv:AppT 90 96 7:=⟨Tryz.t96,_,_,by kernel_rfl,by kernel_rfl,rfl,by kernel_rfl,rfl,by kernel_rfl,by omega,by decide⟩
abbrev gv (q:Int)(r:BA)(s:OA)(t u:Nat)(y:BA)(v:OA)(m n:Nat)(h b:Bool):List Value:=[.int .i64 q,.string r,.slice s t u,.string y,.slice v m n,.bool h,.bool b]
def RGv (x:Bool)(cs:List Value):Prop:=∃ q r s t u y v m n h,cs=gv q r s t u y v m n h x
theorem RGv.len:∀ x cs,RGv x cs->cs.length=7:=by
 rintro x _ ⟨q,r,s,t,u,y,v,m,n,h,rfl⟩;rfl
def q_b (defs:List ArgDef)(a:Argm):Bool:=(a_h ArgDef.name defs a.name).isSome
theorem p_7 {α:Type}{nm:α->BA}{xs:List α}{i:Int}{x:α}(h0:0<=i)(hx:xs[i.toNat]? =some x)(k:BA):a_h nm (xs.take (i+1).toNat) k=(a_h nm (xs.take i.toNat) k).or (if nm x=k then some x else none):=by
 rw [show (i+1).toNat=i.toNat+1 by omega,List.take_succ,hx];unfold a_h;rw [List.find?_append];by_cases h:nm x=k<;>simp [h]
theorem q_G {args:List Argm}{defs:List ArgDef}{a:OA}{l c:Nat}{a':OA}{l' c':Nat}{w:World}(hl:c_1 w a l c args)(hl':a_R w a' l' c' defs):
  CP 64 #[.slice a l c,.slice a' l' c'] w fun e w'=>∃ A L C,e=.returned (.slice A L C)/\Acc w w' 96 7 RGv A L C (args.map (q_b defs)):=by
 obtain ⟨e1,e3⟩:=hl.len;obtain ⟨e1',e3'⟩:=hl'.len;refine q_I a l c a' l' c' w _ ⟨fun A L C i w1=>0<=i/\i<=l/\Acc w w1 96 7 RGv A L C ((args.take i.toNat).map (q_b defs)),fun _ _ _ i _=>((l:Int)-i).toNat,⟨by omega,by omega,Acc.nil (Ext.refl w)⟩,?_⟩;rintro A L C i w1 ⟨h0,hi,ac⟩;refine ⟨fun hlt=>?_,fun hge=>?_⟩
 ·have hlt:=odt hlt;obtain ⟨p,x,hp,hxs,cs,hc,k,r,s,t,u,rfl,-⟩:=hl.get h0 hlt;obtain ⟨⟨_,_,hc0⟩,hs0,⟨_,_,hc1⟩,hs1,⟨_,_,hc2⟩,hs2,⟨_,_,hc3⟩,hs3,-⟩:=hc;have x6:EF w1 (w1.alloc (.cells #[.string x.name,.int .i64 k,.string r,.slice s t u] 167)):=(Ext.refl w1).alloc _;refine ⟨p,hp,⟨h0,hlt⟩,_,ac.1.cell hc0 id,_,ac.1.cell hc1 id,_,ac.1.cell hc2 id,_,_,_,ac.1.cell hc3 id,trivial,trivial,?_⟩;show True/\True/\_;generalize w1.alloc (.cells #[.string x.name,.int .i64 k,.string r,.slice s t u] 167)=w6 at *;have B0:=Blk.made w6 96 [.int .i64 0,.string ⟨#[]⟩,.slice none 0 0,.string ⟨#[]⟩,.slice none 0 0,.bool false,.bool false];have x7:EF w6 (w6.alloc (.cells #[.int .i64 0,.string ⟨#[]⟩,.slice none 0 0,.string ⟨#[]⟩,.slice none 0 0,.bool false,.bool false] 96)):=(Ext.refl w6).alloc _;have hg:=Nat.le_refl w6.heap.size;refine ⟨trivial,trivial,?_⟩;refine ⟨B0.off (j:=0) (n:=7) (q:=fun T=>Nat.beq 167 T||false) (by simp) rfl,trivial,?_⟩;refine ⟨fun j w2=>0<=j/\j<=l'/\EF w6 w2/\∃ y v m n h b,Blk w2 w6.heap.size 96 (gv k r s t u y v m n h b)/\a_v (.string y)/\b=(a_h ArgDef.name (defs.take j.toNat) x.name).isSome,fun j _=>((l':Int)-j).toNat,⟨by omega,by omega,((((((x7.setCell (.inr hg) _).setCell (.inr hg) _).setCell (.inr hg) _).setCell (.inr hg) _).setCell (.inr hg) _).setCell (.inr hg) _).setCell (.inr hg) _,_,_,_,_,_,_,((((((B0.set 0 (.int .i64 k)).set 1 (.string r)).set 2 (.slice s t u)).set 3 (.string ⟨#[]⟩)).set 4 (.slice none 0 0)).set 5 (.bool false)).set 6 (.bool false),Nat.le_of_ble_eq_true rfl,rfl⟩,?_⟩;rintro j w2 ⟨j0,hj,hy,y,v,m,n,h,b,B2,hsy,hb⟩;have v2:EF w w2:=(ac.1.then x6).then hy;refine ⟨fun hjl=>fun K hK=>?_,fun hjg=>?_⟩
  ·have hjl:=odt hjl;obtain ⟨p',d,hp',hd,cs',hc',n5,a5,l5,c5,nn5,a6,l6,c6,a7,l7,c7,rfl,-⟩:=(a_R.keep v2.keep hl').get j0 hjl;obtain ⟨⟨_,_,g0⟩,t0,⟨_,_,g1⟩,t1,⟨_,_,g2⟩,t2,⟨_,_,g3⟩,t3,⟨_,_,g4⟩,t4,⟨_,_,g5⟩,t5,⟨_,_,g6⟩,-⟩:=hc';have x20:EF w2 (w2.alloc (.cells #[.string d.doc,.string d.name,.string n5,.slice a5 l5 c5,.bool nn5,.slice a6 l6 c6,.slice a7 l7 c7] 125)):=(Ext.refl w2).alloc _;have B20:=B2.ext x20 id;have y20:=hy.then x20;have key:∀ w' y v m n h b,EF w6 w'->Blk w' w6.heap.size 96 (gv k r s t u y v m n h b)->a_v (.string y)->b=(a_h ArgDef.name (defs.take (j+1).toNat) x.name).isSome->K w':=by
    intro w' y v m n h b e B sy hb;refine hK w' ?_;rw [a_a j0 (by omega)];exact next j0 hjl ⟨e,y,v,m,n,h,b,B,sy,hb⟩
   refine ⟨p',hp',⟨j0,hjl⟩,_,g0.cell,_,g1.cell,_,g2.cell,_,_,_,g3.cell,_,g4.cell,_,_,_,g5.cell,_,_,_,g6.cell,trivial,trivial,fun he=>⟨B20.off (j:=3) (n:=3) (q:=fun T=>Nat.beq 167 T||(Nat.beq 125 T||false)) (by simp) rfl,trivial,(((B20.set 3 (.string n5)).set 4 (.slice a5 l5 c5)).set 5 (.bool nn5)).off (j:=6) (n:=1) (q:=fun T=>Nat.beq 167 T||(Nat.beq 125 T||false)) (by simp) rfl,trivial,?_⟩,fun he=>?_⟩
   ·refine key _ n5 a5 l5 c5 nn5 true ((((y20.setCell (.inr hg) _).setCell (.inr hg) _).setCell (.inr hg) _).setCell (.inr hg) _) ((((B20.set 3 (.string n5)).set 4 (.slice a5 l5 c5)).set 5 (.bool nn5)).set 6 (.bool true)) t2 ?_;rw [p_7 j0 hd,if_pos (a_b.1 he)];cases a_h ArgDef.name (defs.take j.toNat) x.name<;>rfl
   ·refine key _ y v m n h b y20 B20 hsy ?_;rw [p_7 j0 hd,if_neg (a_f.1 he),Option.or_none];exact hb
  ·have hje:=odf hjg;rw [tl_ (l:=defs) (by omega)] at hb;obtain ⟨A2,C2,w23,r23,ac23,k23⟩:=(ac.step (x6.then hy)).one appGv RGv.len (x:=q_b defs x) (cs:=gv k r s t u y v m n h b) ⟨k,r,s,t,u,y,v,m,n,h,by rw [hb];rfl⟩ (fun z hz=>by
    simp only [gv,mc_,nn_,or_false] at hz;rcases hz with rfl|rfl|rfl|rfl|rfl|rfl|rfl<;>first|assumption|rfl) (by simp only [List.length_map,List.length_take];omega)
   refine ⟨_,(B2.at (j:=0) rfl).cell,_,(B2.at (j:=1) rfl).cell,_,_,_,(B2.at (j:=2) rfl).cell,_,(B2.at (j:=3) rfl).cell,_,_,_,(B2.at (j:=4) rfl).cell,_,(B2.at (j:=5) rfl).cell,_,(B2.at (j:=6) rfl).cell,trivial,A2,L+1,C2,w23,r23,⟨k23 _ (by decide),trivial⟩,?_⟩;rw [a_a h0 (by omega)];refine next h0 hlt ?_
   rw [take_snoc' h0 hxs,List.map_append];exact ac23
 ·have hle:=odf hge;rw [tl_ (by omega)] at ac;exact ⟨A,L,C,rfl,ac⟩
theorem q_B (args:List Argm)(defs:List ArgDef):p_P (args,defs)↔∃ z∈args.map (q_b defs),z=false:=by
 simp [p_P,q_b]
def PAr (ob:Nat)(l:List (List Argm × List ArgDef))(w:World):Prop:=∃ b:Bool,Blk w ob 4 [.bool b]/\(b=true↔∃ x∈l,p_P x)
theorem q_V {ob:Nat}(hDB:DB.B<=ob):CloA 63 [.pointer (some (adr ob))] (fun b=>b=ob) (PAr ob):=by
 refine ⟨⟨_,Tryz.func63,by kernel_rfl⟩,fun l w w' ⟨b,p4,p5⟩ hx=>⟨b,p4.ext hx id,p5⟩,?_⟩;rintro l w args defs a m c a' m' c' ⟨b0,p4,p5⟩ h1 h2;have hob:=p4.lt;refine p_8 a m c a' m' c' (adr ob) w _ ?_;refine (q_G h1 h2).mono ?_;rintro _ w4 ⟨A,L,C,rfl,ac⟩;have hL:=ac.2.1;rw [List.length_map] at hL;have hlm:=h1.len;have hown:∀ p:Addr,A=some p->¬ p.block=ob:=fun p hp h=>by
  obtain ⟨-, -, cells,ho,-⟩:=ac;have:=(ho.base p.block ⟨p,hp,rfl⟩).1;omega
 refine ⟨A,L,C,rfl,trivial,fun i w1=>0<=i/\i<=L/\SSt (fun b=>b=ob) w4 w1/\∃ b:Bool,Blk w1 ob 4 [.bool b]/\(b=true↔(∃ x∈l,p_P x)∨∃ z∈(args.map (q_b defs)).take i.toNat,z=false),fun i _=>((L:Int)-i).toNat,⟨by omega,by omega,SSt.refl w4,b0,p4.ext ac.1 id,by simpa using p5⟩,?_⟩;rintro i w1 ⟨i0,hi,hx,b,B1,hb⟩;refine ⟨fun hlt=>fun K hK=>?_,fun hge=>?_⟩
 ·have hlt:=odt hlt;obtain ⟨p,z,cs,hp,hz,⟨q,r,s,t,u,y,v,m5,n5,h5,rfl⟩,hat⟩:=ac.get i0 hlt;have hat':∀ k u',(gv q r s t u y v m5 n5 h5 z)[k]? =some u'->At w1 96 ((p.add (i.toNat*7)).add k) u':=fun k u' hu=>hx.ext.at (by rw [b_x,b_x];exact hown p hp) (hat k u' hu);have x22:EF w1 (w1.alloc (.cells #[.int .i64 q,.string r,.slice s t u,.string y,.slice v m5 n5,.bool h5,.bool z] 96)):=(Ext.refl w1).alloc _;have B22:=B1.ext x22 id;have s22:=hx.trans (SSt.of0 x22);have key:∀ (w':World) (b':Bool),SSt (fun b=>b=ob) w4 w'->Blk w' ob 4 [.bool b']->(b'=true↔b=true∨z=false)->K w':=by
   intro w' b' s B hb';refine hK w' ?_;rw [a_a i0 (by omega)];refine next i0 hlt ⟨s,b',B,hb'.trans ?_⟩
   rw [hb,take_snoc' i0 hz,or_assoc];refine or_congr_right ?_;simp only [ma_,List.mem_singleton];constructor
   ·rintro (⟨x,hx,h⟩|h)
    ·exact ⟨x,.inl hx,h⟩
    ·exact ⟨z,.inr rfl,h⟩
   ·rintro ⟨x,hx|rfl,h⟩
    ·exact .inl ⟨x,hx,h⟩
    ·exact .inr h
  have off:∃ (cs:Array Value) (T:TypeId),objAt (w1.alloc (.cells #[.int .i64 q,.string r,.slice s t u,.string y,.slice v m5 n5,.bool h5,.bool z] 96)) ob=some (.cells cs T (0,0))/\(none:Option Nat)=none/\0+1<=cs.size/\(Nat.beq 96 T||false)=false:=B22.off (j:=0) (n:=1) (q:=fun T=>(Nat.beq 96 T||false)) (by simp) rfl;refine ⟨p,hp,⟨i0,hlt⟩,_,(hat' 0 _ rfl).cell,_,(hat' 1 _ rfl).cell,_,_,_,(hat' 2 _ rfl).cell,_,(hat' 3 _ rfl).cell,_,_,_,(hat' 4 _ rfl).cell,_,(hat' 5 _ rfl).cell,_,(hat' 6 _ rfl).cell,trivial,trivial,b,(B22.at (j:=0) rfl).cell,fun hb0=>⟨off,trivial,?_⟩,fun hb1=>⟨off,trivial,?_⟩⟩
  ·refine key _ (!z) (s22.trans (SSt.bool B22 hDB (Ext.setCell (X:=fun b=>b=ob) (Ext.refl _) (a:=⟨ob,0,none⟩) (.inl rfl) _))) (B22.set 0 _) ?_;rw [hb0];simp
  ·refine key _ true (s22.trans (SSt.bool B22 hDB (Ext.setCell (X:=fun b=>b=ob) (Ext.refl _) (a:=⟨ob,0,none⟩) (.inl rfl) _))) (B22.set 0 _) ?_;simp [hb1]
 ·have hle:=odf hge;rw [tl_ (by rw [List.length_map];omega),<- q_B] at hb;refine ⟨rfl,(SSt.of0 ac.1).trans hx,b,B1,hb.trans ?_⟩;simp only [ma_,List.mem_singleton];constructor
  ·rintro (⟨x,hx,h⟩|h)
   ·exact ⟨x,.inl hx,h⟩
   ·exact ⟨_,.inr rfl,h⟩
  ·rintro ⟨x,hx|rfl,h⟩
   ·exact .inl ⟨x,hx,h⟩
   ·exact .inr h
section
variable {k:Nat} {A4:OA} {L4 C4:Nat} {A:OA} {L C:Nat} {A3:OA} {L3 C3:Nat} {types:List Def}
theorem q_c {roots:List RootD}{dirs:List DirDef}{a:OA}{l c:Nat}{a':OA}{l' c':Nat}{ops:List OpD}{frags:List Frag}{w:World}(hDB:DB.B<=w.heap.size)(hB:Blk w k 79 [.slice A4 L4 C4,.slice A L C,.slice A3 L3 C3])(hT:RDefs w A4 L4 C4 types)(hR:b_w w A L C roots)(hD:a_Y w A3 L3 C3 dirs)(few:dirs.length<=12)(hl:ROps w a l c ops)(hl':a_X w a' l' c' frags)(ok1:∀ x∈ops,okOp x)(ok2:∀ x∈frags,b_j x)(hs:docW ops frags<=2097152):
  CP 20 #[.pointer (some (adr k)),.agg #[.slice a l c,.slice a' l' c']] w (RetB w fun b=>b=true↔∃ x∈asks types dirs roots ops frags,p_P x):=by
 have x5:EF w (w.alloc (.cells #[.slice a l c,.slice a' l' c'] 30)):=(Ext.refl w).alloc _;refine q_f (some (adr k)) a l c a' l' c' w _ ⟨trivial,?_⟩;show True/\_;generalize w.alloc (.cells #[.slice a l c,.slice a' l' c'] 30)=w5 at *;have B6:Blk (w5.alloc (.cells #[.bool false] 4)) w5.heap.size 4 [.bool false]:=Blk.made w5 4 [.bool false];have x6:EF w5 (w5.alloc (.cells #[.bool false] 4)):=(Ext.refl w5).alloc _;refine ⟨trivial,?_⟩;show (∃ _,_)/\_;generalize w5.alloc (.cells #[.bool false] 4)=w6 at *;refine ⟨B6.off (j:=0) (n:=1) (q:=fun T=>(Nat.beq 30 T||false)) (by simp) rfl,trivial,?_⟩;have B7:Blk (w6.setCell (adr w5.heap.size) (.bool false)) w5.heap.size 4 [.bool false]:=B6.set 0 (.bool false);have x7:EF w5 (w6.setCell (adr w5.heap.size) (.bool false)):=Ext.setCell x6 (a:=⟨w5.heap.size,0,none⟩) (.inr (Nat.le_refl _)) _;generalize w6.setCell (adr w5.heap.size) (.bool false)=w7 at *;have y7:=x5.then x7;have hz5:=x5.size;have hz7:=y7.size;have hlt7:=B7.lt;have hk:=hB.lt;refine (q_d (X:=fun b=>b=w5.heap.size) (P:=PAr w5.heap.size) (lt_ hDB hz7) (fun b (hb:b=w5.heap.size)=>by omega) (by show ¬ k=w5.heap.size;omega) (q_V (by omega)) (hB.ext y7 id) (hT.keep y7.keep) (hR.keep y7.keep) (hD.keep y7.keep) few (hl.keep y7.keep) (hl'.keep y7.keep) ok1 ok2 hs ⟨false,B7,by simp⟩).mono ?_;rintro _ w10 ⟨rfl,s10,b,B10,hb⟩;refine ⟨rfl,⟨s10.kt _ (by decide),trivial⟩,b,(B10.at (j:=0) rfl).cell,b,rfl,y7.trans s10.ext fun k' hk' e=>?_,hb⟩;have e:k'=w5.heap.size:=e;omega
end
end Go.VC
namespace Go.VC
open Go Go.Proofs
set_option maxRecDepth 100000
set_option maxRecDepth 100000
variable [DB]
def dirE (u:List Dir × BA)(e:Ev):Prop:=e=.dirs u.1∨∃ d∈u.1,e=.dir d u.2
section
variable {tys:List Def} {fs:List Frag} {cx:Option OpD} {e:Ev}
theorem p_6 {loc:BA}{ds:List Dir}(he:slot e=5∨slot e=6):e∈evDs cx loc ds↔dirE (ds,loc) e:=by
 unfold evDs dirE;rw [ma_,mf_];constructor
 ·rintro (⟨d,hd,h⟩|h)
  ·rcases ma_.1 h with h|h
   ·have:=d_8 e h;omega
   ·exact .inr ⟨d,hd,by simpa using h⟩
  ·exact .inl (by simpa using h)
 ·rintro (rfl|⟨d,hd,rfl⟩)
  ·exact .inr (by simp)
  ·exact .inl ⟨d,hd,ma_.2 (.inr (by simp))⟩
theorem q_i (he:slot e=5∨slot e=6):∀ (ks:List Sel) (pd:Option Def),a_z ks->(e∈evL tys fs cx pd ks↔∃ u∈usL ks,dirE u e)
 | [],pd,_=>by simp [evL,usL]
 | .mk k al n on args dirs kids::l,pd,ok=>by
  simp only [a_z,okSel] at ok;have ihl:=q_i he l pd ok.2;have hA:e∉b_B cx args:=fun h=>by have:=d_8 e h;omega
  have hD:∀ loc,e∈evDs cx loc dirs↔dirE (dirs,loc) e:=fun loc=>p_6 he;have hF:∀ s pd',e≠ .fld s pd':=fun s pd' h=>by subst h;simp [slot] at he
  have hI:∀ s pd',e≠ .inl s pd':=fun s pd' h=>by subst h;simp [slot] at he
  have hS:∀ n b pd',e≠ .spread n b pd':=fun n b pd' h=>by subst h;simp [slot] at he
  have key:e∈evS tys fs cx pd (.mk k al n on args dirs kids)↔∃ u∈usS (.mk k al n on args dirs kids),dirE u e:=by
   simp only [evS,usS,mc_,exists_eq_or_imp];by_cases hk0:k=0
   ·have ih:=q_i he kids (nextD tys pd n) ok.1.2.2.2.1;rw [if_pos hk0,p_W,if_pos hk0,ma_,ma_,ma_,hD,ih];simp [hA,hF]
   ·by_cases hk1:k=1
    ·have hkk:=(ok.1.2.2.2.2.1 hk1).2;subst hkk;rw [if_neg hk0,if_pos hk1,p_W,if_neg hk0,if_pos hk1,ma_,hD];simp [hS,usL]
    ·have ih:=q_i he kids (inlD tys pd on) ok.1.2.2.2.1;rw [if_neg hk0,if_neg hk1,p_W,if_neg hk0,if_neg hk1,ma_,ma_,hD,ih];simp [hI]
  simp only [evL,usL,ma_];rw [key,ihl];constructor
  ·rintro (⟨u,hu,h⟩|⟨u,hu,h⟩)
   ·exact ⟨u,.inl hu,h⟩
   ·exact ⟨u,.inr hu,h⟩
  ·rintro ⟨u,hu|hu,h⟩
   ·exact .inl ⟨u,hu,h⟩
   ·exact .inr ⟨u,hu,h⟩
theorem q_o (he:slot e=5∨slot e=6){f:Frag}(ok:b_j f):e∈evFr tys fs cx f↔∃ u∈usF f,dirE u e:=by
 unfold evFr usF;rw [ma_,p_6 he,q_i he _ _ ok.2.1];simp
end
theorem q_L {k:BA}(h:n_X k):spLoc k=opLoc k:=by
 rcases h with rfl|rfl|rfl<;>decide
theorem q_D {c:WCtx}{x:OpD}{e:Ev}(he:slot e=5∨slot e=6)(ok:okOp x):e∈evOp c x↔∃ u∈usO x,dirE u e:=by
 have hV:e∈f_j (some x) x.vars↔∃ v∈x.vars,dirE (v.dirs,d_Y) e:=by
  unfold f_j;rw [ma_,mf_];constructor
  ·rintro (h|⟨v,hv,h⟩)
   ·obtain ⟨v,-, rfl⟩:=mm_.1 h;simp [slot] at he
   ·rcases ma_.1 h with h|h
    ·have:=l_C e h;omega
    ·exact ⟨v,hv,(p_6 he).1 h⟩
  ·rintro ⟨v,hv,h⟩;exact .inr ⟨v,hv,ma_.2 (.inr ((p_6 he).2 h))⟩
 have hO:e∉[Ev.op x]:=fun h=>by
  obtain rfl:e=.op x:=by simpa using h
  simp [slot] at he
 unfold evOp usO;rw [ma_,ma_,ma_,hV,p_6 he,q_i he _ _ ok.2.2.2,q_L ok.1];constructor
 ·rintro (⟨v,hv,h⟩|h|⟨u,hu,h⟩|h)
  ·exact ⟨_,by simp only [ma_,mm_];exact .inl (.inr ⟨v,hv,rfl⟩),h⟩
  ·exact ⟨_,by simp,h⟩
  ·exact ⟨u,by simp [hu],h⟩
  ·exact absurd h hO
 ·rintro ⟨u,hu,h⟩;simp only [ma_,mm_,List.mem_singleton] at hu;rcases hu with (rfl|⟨v,hv,rfl⟩)|hu
  ·exact .inr (.inl h)
  ·exact .inl ⟨v,hv,h⟩
  ·exact .inr (.inr (.inl ⟨u,hu,h⟩))
theorem q_w {c:WCtx}{e:Ev}(he:slot e=5∨slot e=6)(ok1:∀ x∈c.ops,okOp x)(ok2:∀ x∈c.frags,b_j x):DocEv c e↔∃ u∈usesD c.ops c.frags,dirE u e:=by
 have hf:∀ n f,a_h Frag.name c.frags n=some f->∀ cx,e∈evFr c.types c.frags cx f->∃ u∈usesD c.ops c.frags,dirE u e:=fun n f h cx k=>by
  have hm:=(a_U h).1;obtain ⟨u,hu,hd⟩:=(q_o he (ok2 f hm)).1 k;exact ⟨u,ma_.2 (.inr (mf_.2 ⟨f,hm,hu⟩)),hd⟩
 constructor
 ·rintro (⟨x,hx,h|⟨n,f,-, h1,h2⟩⟩|⟨f,hfm,(h|⟨n,g,-, h1,h2⟩)|rfl⟩)
  ·obtain ⟨u,hu,hd⟩:=(q_D he (ok1 x hx)).1 h;exact ⟨u,ma_.2 (.inl (mf_.2 ⟨x,hx,hu⟩)),hd⟩
  ·exact hf n f h1 _ h2
  ·obtain ⟨u,hu,hd⟩:=(q_o he (ok2 f hfm)).1 h;exact ⟨u,ma_.2 (.inr (mf_.2 ⟨f,hfm,hu⟩)),hd⟩
  ·exact hf n g h1 _ h2
  ·simp [slot] at he
 ·rintro ⟨u,hu,hd⟩;rcases ma_.1 hu with hu|hu
  ·obtain ⟨x,hx,hu⟩:=mf_.1 hu;exact .inl ⟨x,hx,.inl ((q_D he (ok1 x hx)).2 ⟨u,hu,hd⟩)⟩
  ·obtain ⟨f,hfm,hu⟩:=mf_.1 hu;exact .inr ⟨f,hfm,.inl (.inl ((q_o he (ok2 f hfm)).2 ⟨u,hu,hd⟩))⟩
theorem q_r {α:Type}{nm:α->BA}{l:List α}(h:(l.map nm).Nodup)(k:BA):lastN nm l k=a_h nm l k:=by
 cases hf:a_h nm l k with
 | none=>
  unfold lastN;have:(l.filter fun d=>decide (nm d=k))=[]:=by
   rw [List.filter_eq_nil_iff];intro x hx he;have:=List.find?_eq_none.1 hf x hx;exact this he
  rw [this];rfl
 | some x=>
  obtain ⟨hx,hk⟩:=a_U hf;cases hl:lastN nm l k with
  | none=>
   unfold lastN at hl;have:x∈(l.filter fun d=>decide (nm d=k)):=List.mem_filter.2 ⟨hx,by simpa using hk⟩;rw [List.getLast?_eq_none_iff.1 hl] at this;simp at this
  | some y=>
   have hy:=List.mem_of_getLast? hl;obtain ⟨hy1,hy2⟩:=List.mem_filter.1 hy;rw [p_X h hy1 hx (by rw [hk];simpa using hy2)]
theorem q_M {types:List Def}{dirs:List DirDef}{defs:List SchemaDef}(h:OkSchema types dirs defs)(n:BA):lastN DirDef.name (d_s++dirs) n=dirS dirs n:=by
 refine q_r ?_ n;rw [List.map_append,List.nodup_append];refine ⟨by decide,h.marks.1,fun a ha b hb e=>?_⟩;subst e;obtain ⟨d,hd,rfl⟩:=mm_.1 hb;refine (h.okdirs d hd).1 ?_;simp only [d_s,List.map_cons,List.map_nil,mc_,nn_,or_false] at ha;rcases ha with e|e|e|e
 ·rw [e];exact .tail _ (.head _)
 ·rw [e];exact .head _
 ·rw [e];exact .tail _ (.tail _ (.head _))
 ·rw [e];exact .tail _ (.tail _ (.tail _ (.head _)))
def twD (c:WCtx)(l:List Dir)(j:Nat):Prop:=∃ x,l[j]? =some x/\(∀ f,lastN DirDef.name c.dirs x.name=some f->f.rep=false)/\x.name∈(l.take j).map Dir.name
def badDt (c:WCtx):Ev->Prop
 | .dirs l=>∃ j,twD c l j
 | _=>False
section
variable {c:WCtx} {ae cnt:Nat} {bad:Ev->Prop} {l:List Ev} {w:World} {cx:Option OpD} {co:OA} {vm:Nat} {evs:List Value} {node:Value} {ev:Ev}
end
abbrev unkD (dirs:List DirDef)(ops:List OpD)(frags:List Frag):Prop:=∃ u∈usesD ops frags,∃ d∈u.1,dirS dirs d.name=none
abbrev q_2 (dirs:List DirDef)(ops:List OpD)(frags:List Frag):Prop:=∃ u∈usesD ops frags,¬ (nz (onceN dirs u.1)).Nodup
section
variable {types:List Def} {dirs:List DirDef} {defs:List SchemaDef}
def p_0 (types:List Def)(x:Sel × BA):Prop:=match x.1 with
 | .mk k _ n _ args _ _=>k=0/\(b_K types x.2 n).2=true/\p_P (args,(b_K types x.2 n).1.args)
theorem q_u (x:Sel × BA):(∃ y∈askF types x,p_P y)↔p_0 types x:=by
 obtain ⟨⟨k,al,n,on,args,ds,kids⟩,u⟩:=x;show (∃ y∈(if k=0/\(b_K types u n).2=true then [(args,(b_K types u n).1.args)] else []),p_P y)↔k=0/\(b_K types u n).2=true/\p_P (args,(b_K types u n).1.args);by_cases h:k=0/\(b_K types u n).2=true
 ·rw [if_pos h];simp [h.1,h.2]
 ·rw [if_neg h];exact ⟨fun ⟨_,h,_⟩=>by simp at h,fun k=>(h ⟨k.1,k.2.1⟩).elim⟩
def q_l (c:WCtx)(x:Sel × Option Def):Prop:=badAk c (.fld x.1 x.2)
theorem q_U {u:BA}{pd:Option Def}(hR:Rel types u pd)(hC:CompR types u pd)(n:BA)(args:List Argm):(pd≠none/\∃ f,fldD pd n=some f/\∃ a∈args,p_U f.args a)↔(b_K types u n).2=true/\p_P (args,(b_K types u n).1.args):=by
 by_cases hn:n=bTn
 ·subst hn;rw [show (pd≠none↔compK (findD types u).1.kind) from hC];constructor
  ·rintro ⟨hc,f,h,a,ha,hno⟩;rw [fldD,if_pos rfl] at h;cases h;rw [b_P (show b_e types u bTn=some (tnFld bTn) by rw [b_e,if_pos ⟨rfl,hc⟩])];exact ⟨rfl,a,ha,rfl⟩
  ·rintro ⟨h,a,ha,hno⟩;by_cases hc:compK (findD types u).1.kind
   ·exact ⟨hc,⟨E0,bTn,[],[],.mk bStr [] false,[]⟩,by rw [fldD,if_pos rfl],a,ha,rfl⟩
   ·rw [c_f (show b_e types u bTn=none by
     rw [b_e,if_neg fun k=>hc k.2,if_neg fun k=>hc (k.imp id .inl)])] at h
    cases h
 ·have hE:=(hR n hn).1;constructor
  ·rintro ⟨-, f,h,a,ha,hno⟩;rw [b_P (hE.symm.trans h)];exact ⟨rfl,a,ha,hno⟩
  ·rintro ⟨h,a,ha,hno⟩;cases hS:b_e types u n with
   | none=>rw [c_f hS] at h;cases h
   | some f=>
    rw [b_P hS] at hno;refine ⟨fun e=>?_,f,hE.trans hS,a,ha,hno⟩;rw [hS,e,o_U hn] at hE;cases hE
theorem q_h (hO:OkSchema types dirs defs){c:WCtx}(ht:c.types=a_P++types):∀ (ks:List Sel) (u:BA) (pd:Option Def),a_z ks->Rel types u pd->CompR types u pd->(∀ n∈condL ks,compK (findD types n).1.kind)->(∀ x∈atL types u ks,¬ badLf types x)->((∃ x∈flL c.types pd ks,q_l c x)↔∃ x∈atL types u ks,p_0 types x)
 | [],u,pd,_,_,_,_,_=>by simp [flL,atL]
 | .mk k al n on args dirs' kids::l,u,pd,ok,hR,hCo,hC,hL=>by
  simp only [a_z,okSel] at ok;have hCl:∀ n∈condL l,compK (findD types n).1.kind:=fun m hm=>hC m (by simp only [condL,ma_];exact .inr hm);have hLl:∀ x∈atL types u l,¬ badLf types x:=fun x hx=>hL x (by simp only [atL,ma_];exact .inr hx);have ihl:=q_h hO ht l u pd ok.2 hR hCo hCl hLl;have hCk:∀ n∈condL kids,compK (findD types n).1.kind:=fun m hm=>hC m (by
   simp only [condL,condS,ma_];exact .inl (.inr hm))
  have hLk:∀ x∈atL types (downS types u k n on) kids,¬ badLf types x:=fun x hx=>hL x (by
   simp only [atL,ma_];rw [o_N];exact .inl (List.mem_cons_of_mem _ hx))
  have hown:¬ badLf types (.mk k al n on args dirs' kids,u):=hL _ (by
   simp only [atL,ma_];rw [o_N];exact .inl (by simp))
  have key:(∃ x∈flS c.types pd (.mk k al n on args dirs' kids),q_l c x)↔∃ x∈atS types u (.mk k al n on args dirs' kids),p_0 types x:=by
   rw [o_N];by_cases hk0:k=0
   ·subst hk0;have hkids:(∃ x∈flL c.types (nextD c.types pd n) kids,q_l c x)↔∃ x∈atL types (downS types u 0 n on) kids,p_0 types x:=by
     cases hkk:kids with
     | nil=>simp [flL,atL]
     | cons s0 r0=>
      rw [<- hkk];have hm:0<kids.length:=by rw [hkk];simp
      have hn:n≠bTn:=fun e=>hown (.inr ⟨rfl,e,hm⟩);obtain ⟨hE,hK⟩:=hR n hn;have hd:downS types u 0 n on=a_n (b_K types u n).1.t:=by rw [downS,if_pos rfl]
      have hx:nextD c.types pd n=(b_e types u n).bind fun f=>lastN Def.name c.types (a_w f.t):=by rw [nextD,hE]
      have hRC:Rel types (downS types u 0 n on) (nextD c.types pd n)/\CompR types (downS types u 0 n on) (nextD c.types pd n):=by
       rw [hd,hx];cases hS:b_e types u n with
       | none=>
        rw [c_f hS];have he:=e_z (m_h hO);refine ⟨o_I (fun d hd=>by cases hd) he,fun h=>absurd rfl h,fun h=>?_⟩;have h:compK (findD types E0).1.kind:=h;rw [he] at h;rcases h with h|h|h<;>exact absurd h (by decide)
       | some f=>
        have hcomp:compK (findD types (a_n f.t)).1.kind:=Classical.byContradiction fun k=>hown (.inl ⟨rfl,by rw [b_P hS],by
         rw [b_P hS];exact fun h=>k (h.2 hm)⟩)
        rw [b_P hS];show Rel types (a_n f.t) (lastN Def.name c.types (a_w f.t))/\CompR types (a_n f.t) (lastN Def.name c.types (a_w f.t));rw [ht,<- baseName_eq'];exact ⟨j_O hO (hK f hS).2,p_B hO hcomp⟩
      exact q_h hO ht kids _ _ ok.1.2.2.2.1 hRC.1 hRC.2 hCk hLk
    rw [p_i];simp only [mc_,exists_eq_or_imp];rw [hkids];refine or_congr_left ?_;exact (q_U hR hCo n args).trans ⟨fun h=>⟨rfl,h⟩,fun h=>h.2⟩
   ·have hno:¬ p_0 types (.mk k al n on args dirs' kids,u):=fun h=>hk0 h.1;simp only [mc_,exists_eq_or_imp,hno,false_or];by_cases hk1:k=1
    ·have hkk:=(ok.1.2.2.2.2.1 hk1).2;subst hkk;rw [p_j hk1];simp [atL]
    ·rw [p_k hk0 hk1];have hk2:k=2:=by omega
     have hd:downS types u k n on=if on=E0 then u else on:=by rw [downS,if_neg hk0]
     have hRC:Rel types (downS types u k n on) (inlD c.types pd on)/\CompR types (downS types u k n on) (inlD c.types pd on):=by
      rw [hd,inlD];by_cases ho:on=E0
      ·rw [if_pos ho,if_pos ho];exact ⟨hR,hCo⟩
      ·have hc:=hC on (by
        simp only [condL,condS,ma_];exact .inl (.inl (by rw [if_pos ⟨hk2,ho⟩];simp)))
       rw [if_neg ho,if_neg ho,ht];exact ⟨j_O hO (p_D hc),p_B hO hc⟩
     exact q_h hO ht kids _ _ ok.1.2.2.2.1 hRC.1 hRC.2 hCk hLk
  simp only [flL,atL,ma_];constructor
  ·rintro ⟨x,hx|hx,h⟩
   ·obtain ⟨y,hy,h⟩:=key.1 ⟨x,hx,h⟩;exact ⟨y,.inl hy,h⟩
   ·obtain ⟨y,hy,h⟩:=ihl.1 ⟨x,hx,h⟩;exact ⟨y,.inr hy,h⟩
  ·rintro ⟨x,hx|hx,h⟩
   ·obtain ⟨y,hy,h⟩:=key.2 ⟨x,hx,h⟩;exact ⟨y,.inl hy,h⟩
   ·obtain ⟨y,hy,h⟩:=ihl.2 ⟨x,hx,h⟩;exact ⟨y,.inr hy,h⟩
end
theorem q_N {types:List Def}{dirs:List DirDef}{defs:List SchemaDef}(hO:OkSchema types dirs defs){c:WCtx}(hd:c.dirs=d_s++dirs)(d:Dir)(loc:BA):badAk c (.dir d loc)↔∃ y∈askD dirs d,p_P y:=by
 show (∃ f,lastN DirDef.name c.dirs d.name=some f/\∃ a∈d.args,p_U f.args a)↔_;rw [hd,q_M hO];unfold askD;cases h:dirS dirs d.name with
 | none=>simp [q_j h]
 | some f=>simp [q_k h,p_P,p_U]
theorem q_T {types:List Def}{dirs:List DirDef}{defs:List SchemaDef}{c:WCtx}(hO:OkSchema types dirs defs)(ok1:∀ x∈c.ops,okOp x)(ok2:∀ x∈c.frags,b_j x)(hS:SoundD types (a_F types defs) c.ops c.frags)(hN:¬ leafD types (a_F types defs) c.ops c.frags)(ht:c.types=a_P++types)(hdd:c.dirs=d_s++dirs)
  (hroot:∀ x∈c.ops,rootT c x.kind=lastN Def.name (a_P++types) (rootD (a_F types defs) x.kind)):
  (∃ e,DocEv c e/\badAk c e)↔∃ x∈asks types dirs (a_F types defs) c.ops c.frags,p_P x:=by
 have hin:∀ n∈c_H c.ops c.frags,compK (findD types n).1.kind:=fun n hn=>hS.co n hn;have hrk:∀ x∈c.ops,compK (findD types (rootD (a_F types defs) x.kind)).1.kind:=fun x hx=>by
  have hne:=hS.rt x hx;unfold rootD at hne ⊢;split at hne
  ·rename_i r hr;show compK (findD types r.t).1.kind;rw [hO.roots.2.2.2 r (List.mem_of_find?_eq_some hr)];exact .inl rfl
  ·exact absurd rfl hne
 have hop:∀ x∈c.ops,((∃ y∈flL c.types (rootT c x.kind) x.kids,q_l c y)↔∃ y∈atL types (rootD (a_F types defs) x.kind) x.kids,p_0 types y):=fun x hx=>
  q_h hO ht x.kids _ _ (ok1 x hx).2.2.2 (by rw [hroot x hx];exact j_O hO (p_D (hrk x hx))) (by rw [hroot x hx];exact p_B hO (hrk x hx)) (fun n hn=>hin n (ma_.2 (.inr (mf_.2 ⟨x,hx,hn⟩)))) fun y hy hb=>hN ⟨y,ma_.2 (.inl (mf_.2 ⟨x,hx,hy⟩)),hb⟩
 have hfr:∀ f∈c.frags,((∃ y∈flL c.types (lastN Def.name c.types f.on) f.kids,q_l c y)↔∃ y∈atL types f.on f.kids,p_0 types y):=fun f hf=>
  q_h hO ht f.kids _ _ (ok2 f hf).2.1 (by rw [ht];exact j_O hO (p_D (hin f.on (ma_.2 (.inl (mf_.2 ⟨f,hf,by simp⟩)))))) (by rw [ht];exact p_B hO (hin f.on (ma_.2 (.inl (mf_.2 ⟨f,hf,by simp⟩))))) (fun n hn=>hin n (ma_.2 (.inl (mf_.2 ⟨f,hf,by simp [hn]⟩)))) fun y hy hb=>hN ⟨y,ma_.2 (.inr (mf_.2 ⟨f,hf,hy⟩)),hb⟩
 have hA:∀ y,y∈atAll types (a_F types defs) c.ops c.frags->p_0 types y->∃ x∈asks types dirs (a_F types defs) c.ops c.frags,p_P x:=fun y hy hb=>by
  obtain ⟨z,hz,h⟩:=(q_u y).2 hb;exact ⟨z,ma_.2 (.inl (mf_.2 ⟨y,hy,hz⟩)),h⟩
 constructor
 ·rintro ⟨e,hdoc,hbad⟩;cases e with
  | fld s pd=>
   rcases k_j.1 hdoc with ⟨x,hx,h⟩|⟨f,hf,h⟩
   ·obtain ⟨y,hy,hyb⟩:=(hop x hx).1 ⟨_,h,hbad⟩;exact hA y (ma_.2 (.inl (mf_.2 ⟨x,hx,hy⟩))) hyb
   ·obtain ⟨y,hy,hyb⟩:=(hfr f hf).1 ⟨_,h,hbad⟩;exact hA y (ma_.2 (.inr (mf_.2 ⟨f,hf,hy⟩))) hyb
  | dir d loc=>
   obtain ⟨u,hu,h|⟨d',hd',h⟩⟩:=(q_w (.inl rfl) ok1 ok2).1 hdoc
   ·cases h
   ·cases h;obtain ⟨y,hy,hyb⟩:=(q_N hO hdd d _).1 hbad;exact ⟨y,ma_.2 (.inr (mf_.2 ⟨u,hu,mf_.2 ⟨d,hd',hy⟩⟩)),hyb⟩
  | _=>cases hbad
 ·rintro ⟨z,hz,hno⟩;rcases ma_.1 hz with hz|hz
  ·obtain ⟨y,hy,hz⟩:=mf_.1 hz;have hyb:=(q_u y).1 ⟨z,hz,hno⟩;rcases ma_.1 hy with hy|hy
   ·obtain ⟨x,hx,hy⟩:=mf_.1 hy;obtain ⟨⟨s,pd⟩,h,hb'⟩:=(hop x hx).2 ⟨y,hy,hyb⟩;exact ⟨.fld s pd,k_j.2 (.inl ⟨x,hx,h⟩),hb'⟩
   ·obtain ⟨f,hf,hy⟩:=mf_.1 hy;obtain ⟨⟨s,pd⟩,h,hb'⟩:=(hfr f hf).2 ⟨y,hy,hyb⟩;exact ⟨.fld s pd,k_j.2 (.inr ⟨f,hf,h⟩),hb'⟩
  ·obtain ⟨u,hu,hz⟩:=mf_.1 hz;obtain ⟨d,hd',hz⟩:=mf_.1 hz;exact ⟨.dir d u.2,(q_w (.inl rfl) ok1 ok2).2 ⟨u,hu,.inr ⟨d,hd',rfl⟩⟩,(q_N hO hdd d _).2 ⟨z,hz,hno⟩⟩
abbrev q_0 (types:List Def)(dirs:List DirDef)(roots:List RootD)(ops:List OpD)(frags:List Frag):Prop:=∃ x∈asks types dirs roots ops frags,p_P x
theorem q_S (types:List Def)(dirs:List DirDef)(defs:List SchemaDef)(ops:List OpD)(frags:List Frag)(hO:OkSchema types dirs defs)(h12:ops.length<=12)(h12':frags.length<=12)(ok1:∀ x∈ops,okOp x)(ok2:∀ x∈frags,b_j x)(hs:docW ops frags<=2097152)(hS:SoundD types (a_F types defs) ops frags)(hN:¬ leafD types (a_F types defs) ops frags):
  RuleOK 57 (wideD types dirs (a_F types defs)) ops frags fun n=>0<=n/\(n>0↔q_0 types dirs (a_F types defs) ops frags):=by
 refine ⟨⟨_,Tryz.func57,by kernel_rfl⟩,?_⟩;intro c cnt hops hfrags hwd hb hB hcnt hne hMc hMe;subst hops;subst hfrags;obtain ⟨rf,hrf⟩:=l_q hS.ac;have ht:c.types=a_P++types:=hwd.1;have x3:EF c.w0 (c.w0.alloc (.cells #[.func (.func 108) #[] #[.pointer (some (adr cnt))]] 161)):=(Ext.refl c.w0).alloc _;have Bae:=Blk.made c.w0 161 [.func (.func 108) #[] #[.pointer (some (adr cnt))]];refine p_O (some (adr c.eb)) _ c.w0 _ ?_;refine p_M (some (adr c.eb)) _ false c.w0 _ ⟨⟨rfl,trivial⟩,?_⟩;have hlc:=hcnt.lt;have hle:=hB.lt;generalize hw3:c.w0.alloc (.cells #[.func (.func 108) #[] #[.pointer (some (adr cnt))]] 161)=w3;replace x3:EF c.w0 w3:=by rw [<- hw3];exact x3
 replace Bae:Blk w3 c.w0.heap.size 161 [.func (.func 108) #[] #[.pointer (some (adr cnt))]]:=by rw [<- hw3];exact Bae
 clear hw3;have hla:=Bae.lt;refine (c_9 (f:=.func (.func 174) #[] #[.pointer (some (adr c.w0.heap.size))]) rfl (hB.ext x3 id) rfl).mono ?_;rintro _ w4 ⟨rfl,p,C,B4,ap4,hpb,x4⟩;refine ⟨rfl,trivial,?_⟩;refine (p_S (f:=.func (.func 176) #[] #[.pointer (some (adr c.w0.heap.size))]) rfl B4 rfl).mono ?_;rintro _ w5 ⟨rfl,p2,C2,B5,ap2,hpb2,x5'⟩;have x5:Ext (fun b=>b=c.eb) w3 w5:=x4.trans x5' fun _ _ e=>e;have hz4:=x4.size;have ap:At w5 _ p _:=x5'.at (by show ¬ p.block=c.eb;omega) ap4;have y5:Ext (fun b=>b=c.eb) c.w0 w5:=(x3.toM _).trans x5 fun _ _ e=>e;have hz5:=x5.size;have hz3:=x3.size;have hae:c.w0.heap.size≠cnt:=by omega
 have Bae5:=Bae.ext x5 (by show ¬ c.w0.heap.size=c.eb;omega);have Bc5:=hcnt.ext y5 hne;refine ⟨rfl,trivial,rfl,trivial,rfl,y5,fun b=>b=cnt∨b=c.w0.heap.size,StK (badAk c) c.w0.heap.size cnt,obL [(1,p,C),(5,p2,C2)],rf,?_,fun b hb'=>?_,fun b hb' T cs fr ho=>?_,fun l w'' hl ht'=>?_⟩
 ·have hVM:∀ b,(b=cnt∨b=c.w0.heap.size)->¬ c.M b:=fun b hV hM=>by
   have:=hb.m b hM;rcases hV with rfl|rfl
   ·exact hMc hM
   ·omega
  refine n_H hb hrf hMe y5 (fun b hb'=>hb'.imp id fun e=>by omega) hlc hne hMc hle (fun l w w'' h hx=>Cnt.ext h hx (fun e=>e (.inr rfl)) fun e=>e (.inl rfl)) (Cnt.zero Bae5 Bc5 (by simp)) B5 fun b5 wb fm fl j=>o_M (fun x hx=>?_) j;simp only [mc_,nn_,or_false] at hx;rcases hx with rfl|rfl
  ·refine ⟨_,_,[.pointer (some (adr c.w0.heap.size))],_,ap,fun h=>?_,fun h=>?_,Tryz.func174,by kernel_rfl,fun l w1 cx co vm evs node ev hl hw hk hn=>q_X hVM (fun e=>Iff.rfl) hae hl hw hk hn⟩
   ·have:p.block<c.w0.heap.size:=hb.m _ h;omega
   ·have:p.block=cnt∨p.block=c.w0.heap.size:=h;omega
  ·refine ⟨_,_,[.pointer (some (adr c.w0.heap.size))],_,ap2,fun h=>?_,fun h=>?_,Tryz.func176,by kernel_rfl,fun l w1 cx co vm evs node ev hl hw hk hn=>q_Y hVM (fun e=>Iff.rfl) hae hl hw hk hn⟩
   ·have:p2.block<c.w0.heap.size:=hb.m _ h;omega
   ·have:p2.block=cnt∨p2.block=c.w0.heap.size:=h;omega
 ·rcases hb' with rfl|rfl
  ·exact .inr (Nat.le_refl _)
  ·exact .inr (by omega)
 ·rcases hb' with rfl|rfl
  ·rw [Bc5.type ho];decide
  ·rw [Bae5.type ho];decide
 ·obtain ⟨-, n,hn,hk⟩:=hl;have hsm:=o_K (c:={ c with V:=fun b=>b=cnt∨b=c.w0.heap.size,St:=StK (badAk c) c.w0.heap.size cnt,w0:=w5,rf:=rf}) (ob:=obL [(1,p,C),(5,p2,C2)]) h12 h12' hs;obtain ⟨k1,k2,k3⟩:=hk (lt_ (Nat.mul_le_mul_right _ (lt_ ht'.few hsm)) (by decide));refine ⟨n,hn,k1,k3.trans ((ht'.bad fun e hbad=>?_).trans ?_)⟩
  ·cases e with
   | fld s=>rfl
   | dir d loc=>rfl
   | _=>cases hbad
  ·refine q_T hO ok1 ok2 hS hN ht hwd.2.1 fun x hx=>?_;obtain ⟨-, -, e1,e2,e3⟩:=hwd;rcases (ok1 x hx).1 with h|h|h
   ·rw [m_9 (.inl h),e1,ht,h];rfl
   ·rw [m_8 (by rw [h];rintro (k|k)<;>exact absurd k (by decide)) h,e2,ht,h];rfl
   ·rw [n_a (by rw [h];rintro (k|k)<;>exact absurd k (by decide)) (by rw [h];decide) h,e3,ht,h];rfl
theorem p_Q {P:Int->Prop}{wd:WorldD}{a1:OA}{l1 c1:Nat}{a2:OA}{l2 c2:Nat}{a6:OA}{l6 c6:Nat}{a7:OA}{l7 c7:Nat}{q8:OA}{q8l q8c:Nat}{q9:OA}{q9l q9c:Nat}{ops:List OpD}{frags:List Frag}{w:World}
  (hw:c_6 w wd [.slice a1 l1 c1,.slice a2 l2 c2,.string wd.query,.string wd.mutation,.string wd.subscription,.slice a6 l6 c6,.slice a7 l7 c7]) (ok3:∀ x∈wd.dirs,∀ y∈x.args,a_s y) (ok4:∀ x∈wd.types,okDef x)
  (few6:(pushD wd.types wd.possible).length<=4194304) (few7:(pushD wd.types wd.implements).length<=4194304) (hl1:ROps w q8 q8l q8c ops) (hl2:a_X w q9 q9l q9c frags) (ok1:∀ x∈ops,okOp x) (ok2:∀ x∈frags,b_j x) (hr:RuleOK 57 wd ops frags P) (hB0:DB.B<=w.heap.size):
  CP 17 #[.agg #[.slice a1 l1 c1,.slice a2 l2 c2,.string wd.query,.string wd.mutation,.string wd.subscription,.slice a6 l6 c6,.slice a7 l7 c7],.agg #[.slice q8 q8l q8c,.slice q9 q9l q9c]] w fun e w'=>
   ∃ n,e=.returned (.tuple #[.int .i64 n,.bool true])/\P n/\EF w w':=by
 have x11:EF w (w.alloc (.cells #[.slice a1 l1 c1,.slice a2 l2 c2,.string wd.query,.string wd.mutation,.string wd.subscription,.slice a6 l6 c6,.slice a7 l7 c7] 40)):=(Ext.refl w).alloc _;have x12:=x11.alloc (.cells #[.slice q8 q8l q8c,.slice q9 q9l q9c] 30);refine p_R a1 l1 c1 a2 l2 c2 wd.query wd.mutation wd.subscription a6 l6 c6 a7 l7 c7 q8 q8l q8c q9 q9l q9c w _ ⟨trivial,trivial,?_⟩;refine (j_d (c_6.keep x12.keep hw) ok3 ok4 few6 few7 (hl1.keep x12.keep) (hl2.keep x12.keep) ok1 ok2 hr (lt_ hB0 x12.size)).mono ?_;rintro _ w' ⟨n,rfl,hp,hx⟩;exact ⟨n,true,rfl,⟨hx.keepT _,hx.keepT _,trivial⟩,n,rfl,hp,x12.then hx⟩
theorem p_2
  {d1:OA} {d1l d1c:Nat} {d2:OA} {d2l d2c:Nat} {d3:OA} {d3l d3c:Nat} {d4:OA} {d4l d4c:Nat} {d5:OA} {d5l d5c:Nat} {q6:OA} {q6l q6c:Nat} {q7:OA} {q7l q7c:Nat} {defs exts:List SchemaDef} {dirs:List DirDef} {types texts:List Def} {ops:List OpD} {frags:List Frag} {w:World}
  (h1:a_p w d1 d1l d1c defs) (h2:a_p w d2 d2l d2c exts) (h3:a_Y w d3 d3l d3c dirs) (h4:RDefs w d4 d4l d4c types) (h5:RDefs w d5 d5l d5c texts) (hs:d1l+d2l<=4194304) (hsp:docW ops frags<=2097152) (h6:ROps w q6 q6l q6c ops) (h7:a_X w q7 q7l q7c frags) (hB0:DB.B<=w.heap.size):
  CP 3 #[.agg #[.slice d1 d1l d1c,.slice d2 d2l d2c,.slice d3 d3l d3c,.slice d4 d4l d4c,.slice d5 d5l d5c],.agg #[.slice q6 q6l q6c,.slice q7 q7l q7c]] w fun e w'=>e=.returned (.bool true)/\EF w w':=by
 have x8:EF w (w.alloc (.cells #[.slice d1 d1l d1c,.slice d2 d2l d2c,.slice d3 d3l d3c,.slice d4 d4l d4c,.slice d5 d5l d5c] 26)):=(Ext.refl w).alloc _;have x9:=x8.alloc (.cells #[.slice q6 q6l q6c,.slice q7 q7l q7c] 30);refine p_V d1 d1l d1c d2 d2l d2c d3 d3l d3c d4 d4l d4c d5 d5l d5c q6 q6l q6c q7 q7l q7c w _ ⟨trivial,trivial,fun K10 hK10=>?_⟩;have key10:∀ b w',EF w w'->K10 b w':=by
  intro b w' xw;refine hK10 b w' ⟨fun _=>⟨rfl,xw⟩,fun _=>?_⟩;refine (n_5 (h1.keep xw.keep) (h2.keep xw.keep) (h3.keep xw.keep) (h4.keep xw.keep) (h5.keep xw.keep) hs (lt_ hB0 xw.size)).mono ?_;rintro _ w14 ⟨q15,b16,rfl,x14,hok⟩;refine ⟨q15,b16,rfl,⟨x14.keepT _,x14.keepT _,trivial⟩,fun K17 hK17=>?_⟩;have y14:=xw.then x14;have key17:∀ b w',EF w14 w'->(b=false->b16=true/\ops.length<=12/\frags.length<=12/\(∀ x∈ops,okOp x)/\(∀ x∈frags,b_j x)/\SoundD types (a_F types defs) ops frags/\¬ leafD types (a_F types defs) ops frags)->K17 b w':=by
   intro b w19 x19 hb;have y19:=y14.then x19;refine hK17 b w19 ⟨fun _=>⟨rfl,y19⟩,fun hbf=>?_⟩;obtain ⟨hb16,n1,n2,ok1,ok2,hS,hP⟩:=hb hbf;obtain ⟨k,rfl,A,L,C,hB,hR,hO⟩:=hok hb16;intro w20 e20;have x20:EF w19 w20:=by rw [e20];exact (Ext.refl w19).drew
   have y20:=y19.then x20;have z20:=x19.then x20;refine (i_8 (hB.ext z20 id) (h4.keep y20.keep) (hR.keep z20.keep) (h3.keep y20.keep) hO.few.1 (fun t ht=>by have:=hO.small t ht;omega) hO.few.2 (lt_ hB0 y20.size)).mono ?_;rintro _ w22 ⟨cs,rfl,hW,x22⟩;obtain ⟨ok3,ok4,few6,few7⟩:=k_I hO;have hW':=hW;obtain ⟨a1,l1,c1,a2,l2,c2,a6,l6,c6,a7,l7,c7,rfl,-⟩:=hW';have y22:=y20.then x22;refine ⟨a1,l1,c1,a2,l2,c2,_,_,_,a6,l6,c6,a7,l7,c7,rfl,⟨x22.keepT _,x22.keepT _,trivial⟩,⟨rfl,trivial⟩,?_⟩;refine (p_Q hW ok3 ok4 few6 few7 (h6.keep y22.keep) (h7.keep y22.keep) ok1 ok2 (q_S types dirs defs ops frags hO n1 n2 ok1 ok2 hsp hS hP) (lt_ hB0 y22.size)).mono ?_;rintro _ w31 ⟨n,rfl,⟨hn0,hn⟩,x31⟩;have y31:=y22.then x31;refine ⟨n,true,rfl,⟨x31.keepT _,x31.keepT _,trivial⟩,trivial,trivial,trivial,?_⟩;have z31:=(z20.then x22).then x31;refine (q_c (lt_ hB0 y31.size) (hB.ext z31 id) (h4.keep y31.keep) (hR.keep z31.keep) (h3.keep y31.keep) hO.few.2 (h6.keep y31.keep) (h7.keep y31.keep) ok1 ok2 hsp).mono ?_;rintro _ w35 ⟨b36,rfl,x35,hb36⟩;have y35:=y31.then x35;refine ⟨b36,rfl,⟨x35.keepT _,x35.keepT _,trivial⟩,?_⟩;refine (j_9 n true b36 w35).mono ?_;rintro _ w38 ⟨rfl,rfl⟩;refine ⟨_,rfl,⟨(Ext.refl _).keepT _,(Ext.refl _).keepT _,trivial⟩,?_,y35⟩;rw [n_f hn0 (hn.trans hb36.symm)]
  refine ⟨fun hb=>?_,fun hb=>key17 true w14 (Ext.refl w14) nofun⟩;refine (n_7 (h6.keep y14.keep) (h7.keep y14.keep)).mono ?_;rintro _ w41 ⟨b42,rfl,x41,hsm⟩;have y41:=y14.then x41;refine ⟨b42,rfl,⟨x41.keepT _,x41.keepT _,trivial⟩,fun h42=>?_,fun _=>key17 true w41 x41 nofun⟩;obtain ⟨n1,n2,ok1,ok2⟩:=hsm (by simpa using h42);obtain ⟨k,rfl,A,L,C,hB,hR,hO⟩:=hok (by simpa using hb);refine (i_c (hB.ext x41 id) (h4.keep y41.keep) (hR.keep x41.keep) (h6.keep y41.keep) (h7.keep y41.keep) ok1 ok2 n2 hsp).mono ?_;rintro _ w53 ⟨b54,rfl,x53,hS⟩;have z53:=x41.then x53;have y53:=y41.then x53;refine ⟨b54,rfl,⟨x53.keepT _,x53.keepT _,trivial⟩,fun h54=>?_,fun _=>key17 true w53 z53 nofun⟩;have hS':=hS (by simpa using h54);refine (f_W (lt_ hB0 y53.size) (hB.ext z53 id) (h4.keep y53.keep) (hR.keep z53.keep) (h6.keep y53.keep) (h7.keep y53.keep) ok1 ok2).mono ?_;rintro _ w56 ⟨b57,rfl,x56,hP⟩;exact ⟨b57,rfl,⟨x56.keepT _,x56.keepT _,trivial⟩,key17 _ w56 (z53.then x56) fun h=>⟨by simpa using hb,n1,n2,ok1,ok2,hS',fun k=>by rw [hP.2 k] at h;cases h⟩⟩
 refine (f_4 d1 d1l d1c d2 d2l d2c d3 d3l d3c d4 d4l d4c d5 d5l d5c _).mono ?_;rintro _ w44 ⟨b45,rfl,x44,-⟩;have y44:=x9.then x44;refine ⟨b45,rfl,⟨x44.keepT _,x44.keepT _,trivial⟩,fun _=>?_,fun _=>key10 true w44 y44⟩;refine (f_5 q6 q6l q6c q7 q7l q7c _).mono ?_;rintro _ w47 ⟨b48,rfl,x47,-⟩;exact ⟨b48,rfl,⟨x47.keepT _,x47.keepT _,trivial⟩,key10 _ w47 (y44.then x47)⟩
end Go.VC
