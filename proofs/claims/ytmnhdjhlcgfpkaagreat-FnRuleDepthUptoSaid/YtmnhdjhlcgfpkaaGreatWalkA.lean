/- Part of the proof of a law of a rule over documents (WalkA), where what the arguments hold is of bulk at most 1048576. -/
import Derived.Test.YtmnhdjhlcgfpkaaGreatMakeC
import Derived.Test.YtmnhdjhlcgfpkaaGreatTextE
set_option linter.unusedVariables false
set_option linter.unusedSimpArgs false
set_option linter.unusedSectionVars false
namespace Go.VC
open Go Go.Proofs
variable [DB]
variable {α:Type}{a:Addr}{n:BA}{x:Dir}{f:Frag}{i:Int}{evs:List Value}{xs:List α}{C r' vm:Nat}{X:Nat->Prop}{A co q:OA}{T T':TypeId}{node:Value}{Q:World->Prop}
def e_0 (T:TypeId)(j:Nat):Bool:=
 (T==200&&(j==5||j==6||j==7||j==8))||(T==167&&(j==7||j==8))||(T==183&&(j==2||j==3))||(T==192&&j==3)||
 (T==350&&(j==3||j==4||j==5))||(T==264&&(j==7||j==8))||(T==187&&j==6)
inductive Ev where
 | op (o:OpD)|frag (f:Frag)|spread (n:BA) (found:Bool) (pd:Option Def)|fld (s:Sel) (pd:Option Def)|inl (s:Sel) (pd:Option Def)|dir (d:Dir) (loc:BA)|dirs (l:List Dir)|val (v:Val) (cx:Option OpD)|var (v:VarD)
def slot:Ev->Nat
 | .op _=>0
 | .fld _ _=>1
 | .frag _=>2
 | .inl _ _=>3
 | .spread _ _ _=>4
 | .dir _ _=>5
 | .dirs _=>6
 | .val _ _=>7
 | .var _=>8
def a_w:Typ->BA
 | .mk n [] _=>n
 | .mk _ (t::_) _=>a_w t
def fldD (pd:Option Def)(n:BA):Option Fld:=if n=bTn then some ⟨E0,n,[],[],.mk bStr [] false,[]⟩ else pd.bind fun d=>a_h Fld.name d.fields n
def nextD (tys:List Def)(pd:Option Def)(n:BA):Option Def:=(fldD pd n).bind fun f=>lastN Def.name tys (a_w f.t)
def inlD (tys:List Def)(pd:Option Def)(on:BA):Option Def:=if on=E0 then pd else lastN Def.name tys on
mutual
def evV (cx:Option OpD):Val->List Ev
 | .mk k r kids=>(if k=9 then a_L cx kids else [])++((if k=8 then a_L cx kids else [])++[.val (.mk k r kids) cx])
def a_L (cx:Option OpD):List (BA × Val)->List Ev
 | []=>[]
 | x::l=>evV cx x.2++a_L cx l
end
def b_B (cx:Option OpD)(l:List Argm):List Ev:=l.flatMap fun a=>evV cx a.v
def evDs (cx:Option OpD)(loc:BA)(l:List Dir):List Ev:=(l.flatMap fun d=>b_B cx d.args++[.dir d loc])++[.dirs l]
section
variable (tys:List Def) (fs:List Frag) (cx:Option OpD)
mutual
def evS:Option Def->Sel->List Ev
 | pd,.mk k al n on args dirs kids=>
  if k=0 then b_B cx args++(evDs cx l_1 dirs++(evL (nextD tys pd n) kids++[.fld (.mk k al n on args dirs kids) pd]))
  else if k=1 then evDs cx h_9 dirs++[.spread n (isFr fs n) pd]
  else evDs cx j_0 dirs++(evL (inlD tys pd on) kids++[.inl (.mk k al n on args dirs kids) pd])
def evL:Option Def->List Sel->List Ev
 | _,[]=>[]
 | pd,s::l=>evS pd s++evL pd l
end
def evFr (f:Frag):List Ev:=evDs cx d_z f.dirs++evL tys fs cx (lastN Def.name tys f.on) f.kids
end
def evDef (cx:Option OpD)(l:List Val):List Ev:=match l with
 | []=>[]
 | v::_=>evV cx v
def f_j (cx:Option OpD)(l:List VarD):List Ev:=l.map .var++l.flatMap fun v=>evDef cx v.dflt++evDs cx d_Y v.dirs
mutual
def rkV:Val->Nat
 | .mk _ _ kids=>1+f_n kids
def f_n:List (BA × Val)->Nat
 | []=>0
 | x::l=>rkV x.2+f_n l
end
def rkAs:List Argm->Nat
 | []=>0
 | a::l=>rkV a.v+rkAs l
def rkD (d:Dir):Nat:=1+rkAs d.args
def rkDs:List Dir->Nat
 | []=>0
 | d::l=>rkD d+rkDs l
mutual
def rkS (rf:BA->Nat):Sel->Nat
 | .mk k _ n _ args dirs kids=>1+rkDs dirs+if k=0 then rkAs args+rkL rf kids else if k=1 then rf n else rkL rf kids
def rkL (rf:BA->Nat):List Sel->Nat
 | []=>0
 | s::l=>rkS rf s+rkL rf l
end
def rkF (rf:BA->Nat)(f:Frag):Nat:=1+rkDs f.dirs+rkL rf f.kids
structure WCtx where
 M:Nat->Prop
 V:Nat->Prop
 w0:World
 wb:Nat
 eb:Nat
 sb:Nat
 qb:Nat
 fm:Nat
 m1:Nat
 m2:Nat
 tm:List (BA × Value)
 dm:List (BA × Value)
 fl:List (BA × Value)
 types:List Def
 dirs:List DirDef
 ops:List OpD
 frags:List Frag
 rq:BA
 rm:BA
 rs:BA
 St:List Ev->World->Prop
 rf:BA->Nat
def rootN (c:WCtx)(k:BA):BA:=if k=a_5∨k=E0 then c.rq else if k=bMut then c.rm else if k=bSub then c.rs else E0
def rootT (c:WCtx)(k:BA):Option Def:=if k=a_5∨k=E0∨k=bMut∨k=bSub then lastN Def.name c.types (rootN c k) else none
def evOp (c:WCtx)(o:OpD):List Ev:=f_j (some o) o.vars++(evDs (some o) (opLoc o.kind) o.dirs++(evL c.types c.frags (some o) (rootT c o.kind) o.kids++[.op o]))
def DOp (c:WCtx)(x:OpD)(e:Ev):Prop:=e∈evOp c x∨∃ n f,Rch c.frags x.kids n/\a_h Frag.name c.frags n=some f/\e∈evFr c.types c.frags (some x) f
def OpAt (c:WCtx)(i:Nat)(b:Nat):Prop:=∃ (p:Addr) (L C:Nat),At c.w0 303 ⟨c.qb,0,none⟩ (.slice (some p) L C)/\At c.w0 225 (p.add i) (.pointer (some (adr b)))
def OpIn (c:WCtx)(o:OpD)(b:Nat):Prop:=∃ i,c.ops[i]? =some o/\OpAt c i b
abbrev POc (c:WCtx)(o:OpD)(b:Nat):Prop:=POp c.M c.w0 o b/\OpIn c o b
def VarAt (w0:World)(b vb:Nat):Prop:=∃ (p:Addr) (L C j:Nat),At w0 237 ⟨b,3,none⟩ (.slice (some p) L C)/\j<L/\At w0 198 (p.add j) (.pointer (some (adr vb)))
def UsedE (c:WCtx)(o:OpD)(n:BA):Prop:=∃ ks,DOp c o (.val (.mk 0 n ks) (some o))
def idxN (fs:List Frag)(n:BA):Nat:=fs.findIdx fun f=>decide (f.name=n)
def FrAt (c:WCtx)(n:BA)(b:Nat):Prop:=∃ (p:Addr) (L C:Nat),At c.w0 303 ⟨c.qb,1,none⟩ (.slice (some p) L C)/\At c.w0 181 (p.add (idxN c.frags n)) (.pointer (some (adr b)))
abbrev PFc (c:WCtx)(f:Frag)(b:Nat):Prop:=PFrag c.M c.w0 f b/\FrAt c f.name b
theorem FrAt.uniq {c:WCtx}{b b':Nat}(h:FrAt c n b)(h':FrAt c n b'):b=b':=by
 obtain ⟨p,L,C,h1,h2⟩:=h;obtain ⟨p',L',C',h1',h2'⟩:=h';have e:=h1.cell.symm.trans h1'.cell;simp only [Option.some.injEq,Value.slice.injEq] at e;obtain ⟨rfl,-, -⟩:=e;have e:=h2.cell.symm.trans h2'.cell;simp only [Option.some.injEq,Value.pointer.injEq] at e;exact congrArg Addr.block e
theorem v_N {fs:List Frag}{i:Nat}{x:Frag}(h:a_h Frag.name (fs.take i) n=none)(hx:fs[i]? =some x)(hn:x.name=n):idxN fs n=i:=by
 obtain ⟨hi,hxe⟩:=List.getElem?_eq_some_iff.1 hx;refine (List.findIdx_eq hi).2 ⟨by simp [hxe,hn],fun j hj=>?_⟩;have h1:=List.find?_eq_none.1 h (fs[j]'(by omega)) (mg_ (i:=j) (by rw [List.getElem?_take_of_lt hj];exact List.getElem?_eq_getElem _));simpa using h1
def b_3 (c:WCtx)(b:Nat)(T:TypeId)(j:Nat)(v:Value):Prop:=
 e_0 T j=true/\(T=200/\j=5->∃ q,v=.pointer q/\(q=none∨∃ db d,q=some (adr db)/\PDef c.M c.w0 d db/\okDef d))/\
 (T=200/\j=6->∃ q,v=.pointer q/\(q=none∨∃ db d,q=some (adr db)/\PVar c.M c.w0 d db))/\
 (T=200/\j=7->∃ q,v=.pointer q/\(q=none∨∃ tb t,q=some (adr tb)/\PTyp c.M c.w0 t tb))/\
 (T=264/\j=7->∃ q,v=.pointer q/\∀ x,PVar c.M c.w0 x b->OptQ (PDef c.M c.w0) (lastN Def.name c.types (a_w x.t)) q)/\
 (T=183/\j=3->∃ q,v=.pointer q/\∀ (n:BA) (cs:List Value),Blk c.w0 b 183 (.string n::cs)->OptQ (PFc c) (a_h Frag.name c.frags n) q)/\
 (T=187/\j=6->∃ q,v=.pointer q/\∀ x,PFrag c.M c.w0 x b->OptQ (PDef c.M c.w0) (lastN Def.name c.types x.on) q)/\
 (T=350/\j=4->∃ q,v=.pointer q/\∀ x,PDir c.M c.w0 x b->OptQ (a_Q c.M c.w0) (lastN DirDef.name c.dirs x.name) q)/\
 (T=264/\j=8->v=.bool true/\∀ x,PVar c.M c.w0 x b->∃ o ob,OpIn c o ob/\VarAt c.w0 ob b/\UsedE c o x.name)
structure Wk (c:WCtx) (w w':World):Prop where
 cells:∀ b cs T fr,c.M b->objAt w b=some (.cells cs T fr)->∃ cs',objAt w' b=some (.cells cs' T fr)/\cs'.size=cs.size/\∀ j v,cs'[j]? =some v->cs[j]? =some v∨b_3 c b T j v
 maps:∀ b es n,c.M b->objAt w b=some (.map es n)->objAt w' b=some (.map es n)
theorem Wk.refl (c:WCtx)(w:World):Wk c w w:=⟨fun b cs T fr _ h=>⟨cs,h,rfl,fun j v hj=>.inl hj⟩,fun _ _ _ _ h=>h⟩
theorem Wk.trans {c:WCtx}{w w' w'':World}(h:Wk c w w')(k:Wk c w' w''):Wk c w w'':=by
 refine ⟨fun b cs T fr hM ho=>?_,fun b es n hM ho=>k.maps b es n hM (h.maps b es n hM ho)⟩;obtain ⟨cs',h1,h2,h3⟩:=h.cells b cs T fr hM ho;obtain ⟨cs'',k1,k2,k3⟩:=k.cells b cs' T fr hM h1;refine ⟨cs'',k1,k2.trans h2,fun j v hj=>?_⟩;rcases k3 j v hj with hj|hj
 ·exact h3 j v hj
 ·exact .inr hj
theorem Wk.ofExt {c:WCtx}{w w':World}(h:Ext X w w')(hX:∀ b,c.M b->¬ X b):Wk c w w':=
 ⟨fun b cs T fr hM ho=>⟨cs,h.old b _ (hX b hM) ho,rfl,fun j v hj=>.inl hj⟩,fun b es n hM ho=>h.old b _ (hX b hM) ho⟩
theorem Wk.at {c:WCtx}{w w':World}(h:Wk c w w'){v:Value}(hM:c.M a.block)(ha:At w T a v)(hn:e_0 T a.off=false):At w' T a v:=by
 obtain ⟨cs,fr,h1,h2,h3⟩:=ha;obtain ⟨cs',k1,k2,k3⟩:=h.cells _ _ _ _ hM h1;have hlt:a.off<cs'.size:=by
  rw [k2];rcases Nat.lt_or_ge a.off cs.size with hh|hh
  ·exact hh
  ·rw [Array.getElem?_eq_none hh] at h3;cases h3
 refine ⟨cs',fr,k1,h2,?_⟩;rcases k3 a.off cs'[a.off] (Array.getElem?_eq_getElem hlt) with hj|hj
 ·rw [Array.getElem?_eq_getElem hlt,<- h3];exact hj.symm
 ·rw [hj.1] at hn;cases hn
theorem Wk.note {c:WCtx}{w w':World}(h:Wk c w w'){v:Value}(hM:c.M a.block)(ha:At w T a v):∃ v',At w' T a v'/\(v'=v∨b_3 c a.block T a.off v'):=by
 obtain ⟨cs,fr,h1,h2,h3⟩:=ha;obtain ⟨cs',k1,k2,k3⟩:=h.cells _ _ _ _ hM h1;have hlt:a.off<cs'.size:=by
  rw [k2];rcases Nat.lt_or_ge a.off cs.size with hh|hh
  ·exact hh
  ·rw [Array.getElem?_eq_none hh] at h3;cases h3
 refine ⟨cs'[a.off],⟨cs',fr,k1,h2,Array.getElem?_eq_getElem hlt⟩,?_⟩;rcases k3 a.off cs'[a.off] (Array.getElem?_eq_getElem hlt) with hj|hj
 ·rw [h3] at hj;exact .inl (Option.some.inj hj).symm
 ·exact .inr hj
theorem Wk.smap {c:WCtx}{w w':World}(h:Wk c w w'){b:Nat}{m:List (BA × Value)}(hM:c.M b)(hm:SMap w b m):SMap w' b m:=by
 obtain ⟨ents,cl,h1,h2⟩:=hm;exact ⟨ents,cl,h.maps b _ _ hM h1,h2⟩
theorem Wk.set {c:WCtx}{w:World}{b j:Nat}{cs:Array Value}{v:Value}(hb:objAt w b=some (.cells cs T (0,0)))(hok:b_3 c b T j v):Wk c w (w.setCell ⟨b,j,none⟩ v):=by
 refine ⟨fun b' cs' T' fr hM ho=>?_,fun b' es n hM ho=>?_⟩
 ·by_cases hbb:b'=b
  ·subst hbb;rw [ho] at hb;simp only [Option.some.injEq,Obj.cells.injEq] at hb;obtain ⟨rfl,rfl,rfl⟩:=hb;refine ⟨cs'.setIfInBounds j v,a_E (a:=⟨b',j,none⟩) ho rfl,by simp,fun i u hi=>?_⟩;rw [Array.getElem?_setIfInBounds] at hi;split at hi
   ·rename_i hji;subst hji;split at hi
    ·exact .inr (by rw [<- Option.some.inj hi];exact hok)
    ·cases hi
   ·exact .inl hi
  ·exact ⟨cs',by rw [b_o (a:=⟨b,j,none⟩) (Ne.symm hbb)];exact ho,rfl,fun i u hi=>.inl hi⟩
 ·have hbb:b'≠b:=fun e=>by
   subst e;rw [ho] at hb;cases hb
  rw [b_o (a:=⟨b,j,none⟩) (Ne.symm hbb)];exact ho
open Classical in
 noncomputable def WCtx.rank (c:WCtx) (b:Nat):Nat:=
 if h:∃ x,PVal c.M c.w0 x b then rkV h.choose else if h:∃ x,PDir c.M c.w0 x b then rkD h.choose else if h:∃ x T,PSel c.M c.w0 x (.iface T (.pointer (some (adr b)))) then rkS c.rf h.choose else 0
def Lim (c:WCtx)(r:Nat)(w w':World):Prop:=∀ b o,c.M b->r<=c.rank b->objAt w b=some o->objAt w' b=some o
theorem Lim.refl (c:WCtx)(r:Nat)(w:World):Lim c r w w:=fun _ _ _ _ h=>h
theorem Lim.trans {c:WCtx}{r:Nat}{w w' w'':World}(h:Lim c r w w')(k:Lim c r w' w''):Lim c r w w'':=fun b o hM hr ho=>k b o hM hr (h b o hM hr ho)
theorem Lim.mono {c:WCtx}{r:Nat}{w w':World}(h:Lim c r w w')(hr:r<=r'):Lim c r' w w':=fun b o hM h' ho=>h b o hM (lt_ hr h') ho
theorem Lim.ofExt {c:WCtx}{r:Nat}{w w':World}(h:Ext X w w')(hX:∀ b,c.M b->¬ X b):Lim c r w w':=fun b o hM _ ho=>h.old b o (hX b hM) ho
theorem Lim.set {c:WCtx}{r:Nat}{w:World}{b j:Nat}{v:Value}(hr:c.rank b<r):Lim c r w (w.setCell ⟨b,j,none⟩ v):=fun b' o hM h' ho=>by
 have hne:b'≠b:=fun e=>by
  subst e;omega
 rw [b_o (a:=⟨b,j,none⟩) (Ne.symm hne)];exact ho
theorem Lim.cell {c:WCtx}{r:Nat}{w w':World}(h:Lim c r w w'){b:Nat}(hM:c.M b)(hr:r<=c.rank b){j:Nat}{v:Value}(ha:At w T ⟨b,j,none⟩ v):At w' T ⟨b,j,none⟩ v:=by
 obtain ⟨cs,fr,h1,h2⟩:=ha;exact ⟨cs,fr,h b _ hM hr h1,h2⟩
abbrev WX (c:WCtx)(vm:Nat):Nat->Prop:=fun b=>c.M b∨c.V b∨b=vm
structure Stp (c:WCtx) (vm r:Nat) (w w':World):Prop where
 ext:Ext (WX c vm) w w'
 wk:Wk c w w'
 lim:Lim c r w w'
theorem Stp.refl (c:WCtx)(vm r:Nat)(w:World):Stp c vm r w w:=⟨Ext.refl w,Wk.refl c w,Lim.refl c r w⟩
theorem Stp.trans {c:WCtx}{r:Nat}{w w' w'':World}(h:Stp c vm r w w')(k:Stp c vm r w' w''):Stp c vm r w w'':=⟨h.ext.trans k.ext fun _ _ h=>h,h.wk.trans k.wk,h.lim.trans k.lim⟩
theorem Stp.mono {c:WCtx}{r:Nat}{w w':World}(h:Stp c vm r w w')(hr:r<=r'):Stp c vm r' w w':=⟨h.ext,h.wk,h.lim.mono hr⟩
structure RkOK (c:WCtx):Prop where
 v:∀ x b,PVal c.M c.w0 x b->c.rank b=rkV x
 d:∀ x b,PDir c.M c.w0 x b->c.rank b=rkD x
 s:∀ x T b,PSel c.M c.w0 x (.iface T (.pointer (some (adr b))))->c.rank b=rkS c.rf x
 q:∀ x b,PVar c.M c.w0 x b->c.rank b=0
 f:∀ n f,a_h Frag.name c.frags n=some f->rkF c.rf f<=c.rf n
structure Good (c:WCtx):Prop where
 mv:∀ b,c.M b->¬ c.V b
 lt:∀ b,c.M b->b<c.w0.heap.size
 vlt:∀ b,c.V b->b<c.w0.heap.size
 wb:¬ c.M c.wb/\¬ c.V c.wb
 eb:¬ c.M c.eb/\¬ c.V c.eb/\c.eb≠c.wb
 fm:¬ c.M c.fm/\¬ c.V c.fm/\c.fm≠c.wb
 sb:c.M c.sb
 qb:c.M c.qb
 m1:c.M c.m1/\SMap c.w0 c.m1 c.tm/\NMap Def.name (PDef c.M c.w0) c.types c.tm
 m2:c.M c.m2/\SMap c.w0 c.m2 c.dm/\NMap DirDef.name (a_Q c.M c.w0) c.dirs c.dm
 okt:∀ d∈c.types,okDef d
 okd:∀ d∈c.dirs,∀ y∈d.args,a_s y
 sch:∃ (q1 q2 q3:OA) (s:List Value),Blk c.w0 c.sb 230 (.pointer q1::.pointer q2::.pointer q3::.slice none 0 0::.map (some c.m1)::.map (some c.m2)::s)/\
  OptQ (PDef c.M c.w0) (lastN Def.name c.types c.rq) q1/\OptQ (PDef c.M c.w0) (lastN Def.name c.types c.rm) q2/\OptQ (PDef c.M c.w0) (lastN Def.name c.types c.rs) q3
 st:∀ l w w',c.St l w->Ext (fun b=>¬ c.V b) w w'->Wk c w w'->c.St l w'
 rk:RkOK c
structure Wst (c:WCtx) (cx:Option OpD) (co:OA) (vm:Nat) (evs:List Value) (w:World):Prop where
 wk:Wk c c.w0 w
 sz:c.w0.heap.size<=w.heap.size
 walker:Blk w c.wb 234 [.pointer (some (adr c.eb)),.pointer (some (adr c.sb)),.pointer (some (adr c.qb)),.map (some vm),.pointer co,.map (some c.fm)]
 events:Blk w c.eb 152 evs
 frags:SMap w c.fm c.fl/\∀ k,OptR (PFc c) (a_h Frag.name c.frags k) (mget c.fl k)
 vm:vm≠c.wb/\vm≠c.eb/\vm≠c.fm/\¬ c.M vm/\¬ c.V vm
 co:OptQ (POc c) cx co
theorem Wst.step {c:WCtx}{cx:Option OpD}{co:OA}{vm r:Nat}{evs:List Value}{w w':World}(g:Good c)(h:Wst c cx co vm evs w)(s:Stp c vm r w w'):Wst c cx co vm evs w':=by
 have h1:¬ WX c vm c.wb:=fun e=>e.elim g.wb.1 fun e=>e.elim g.wb.2 fun e=>h.vm.1 e.symm;have h2:¬ WX c vm c.eb:=fun e=>e.elim g.eb.1 fun e=>e.elim g.eb.2.1 fun e=>h.vm.2.1 e.symm;have h3:¬ WX c vm c.fm:=fun e=>e.elim g.fm.1 fun e=>e.elim g.fm.2.1 fun e=>h.vm.2.2.1 e.symm;exact ⟨h.wk.trans s.wk,lt_ h.sz s.ext.size,h.walker.ext s.ext h1,h.events.ext s.ext h2,⟨h.frags.1.ext s.ext h3,h.frags.2⟩,h.vm,h.co⟩
theorem Wk.off {c:WCtx}{w:World}(hwk:Wk c c.w0 w){b:Nat}{cs:List Value}(hM:c.M b)(hB:Blk c.w0 b T cs){j n:Nat}(hj:j+n<=cs.length):
  ∃ (cs:Array Value) (T:TypeId),objAt w b=some (.cells cs T (0,0))/\(none:Option Nat)=none/\j+n<=cs.size/\false=false:=by
 obtain ⟨cs',h1,h2,h3⟩:=hwk.cells _ _ _ _ hM hB;exact ⟨cs',T,h1,rfl,by rw [h2];simpa using hj,rfl⟩
theorem Wk.nd {c:WCtx}{w:World}(hwk:Wk c c.w0 w){b:Nat}{cs:List Value}(hM:c.M b)(hB:Blk c.w0 b T cs){j:Nat}{v:Value}(hj:cs[j]? =some v)(hn:e_0 T j=false):w.cell? ⟨b,j,none⟩=some v:=
 (hwk.at (a:=⟨b,j,none⟩) hM (hB.at hj) hn).cell
theorem Wk.ndn {c:WCtx}{w:World}(hwk:Wk c c.w0 w){b:Nat}{cs:List Value}(hM:c.M b)(hB:Blk c.w0 b T cs){j:Nat}{v:Value}(hj:cs[j]? =some v):∃ v',w.cell? ⟨b,j,none⟩=some v'/\(v'=v∨b_3 c b T j v'):=by
 obtain ⟨v',h1,h2⟩:=hwk.note (a:=⟨b,j,none⟩) hM (hB.at hj);exact ⟨v',h1.cell,h2⟩
theorem PSl.wget {c:WCtx}{w:World}(hwk:Wk c c.w0 w){P:α->Value->Prop}{L:Nat}(h:PSl c.M c.w0 T P A L C xs)(hn:∀ j,e_0 T j=false)(h0:0<=i)(hi:i<(L:Int)):
  ∃ (p:Addr) (x:α) (v:Value),A=some p/\xs[i.toNat]? =some x/\w.cell? (p.add (i.toNat*1))=some v/\P x v:=by
 obtain ⟨p,x,v,h1,h2,h3,h4,h5⟩:=h.get h0 hi;exact ⟨p,x,v,h1,h2,(hwk.at (by rw [b_x];exact h3) h4 (hn _)).cell,h5⟩
theorem a_I {c:WCtx}:∀ (t:Typ) (b:Nat) (w:World),Wk c c.w0 w->PTyp c.M c.w0 t b->okTyp t->CP 205 #[.pointer (some (adr b))] w fun e w'=>e=.returned (.string (a_w t))/\w'=w
 | .mk n [] nn,b,w,hwk,hp,hok=>by
  simp only [PTyp] at hp;obtain ⟨q,pos,hM,hB,-⟩:=hp;have hn:n≠E0:=by simpa [okTyp] using hok
  have c0:=hwk.nd hM hB (j:=0) rfl rfl;refine b_H (some (adr b)) w _ ⟨adr b,rfl,n,c0,fun _=>⟨adr b,rfl,n,c0,rfl,rfl⟩,fun h=>?_⟩;exact absurd (b_2 h) hn
 | .mk n (t::l) nn,b,w,hwk,hp,hok=>by
  simp only [PTyp,PTypE] at hp;obtain ⟨q,pos,hM,hB,eb,rfl,ht⟩:=hp;have hl:l=[]/\n=E0/\okTyp t:=by
   cases l with
   | nil=>exact ⟨rfl,by simpa [okTyp] using hok⟩
   | cons y l=>exact absurd hok (by simp [okTyp])
  obtain ⟨rfl,rfl,hot⟩:=hl;have c0:=hwk.nd hM hB (j:=0) rfl rfl;refine b_H (some (adr b)) w _ ⟨adr b,rfl,E0,c0,fun h=>?_,fun _=>⟨adr b,rfl,_,hwk.nd hM hB (j:=1) rfl rfl,?_⟩⟩
  ·simp at h
  ·refine (a_I t eb w hwk ht hot).mono ?_;rintro _ _ ⟨rfl,rfl⟩;exact ⟨_,rfl,trivial,rfl,rfl⟩
theorem k_7 {S:Nat->Prop}{w:World}:∀ (t t':Typ) (b:Nat),PTyp S w t b->PTyp S w t' b->a_w t=a_w t'
 | .mk n el nn,.mk n' el' nn',b,h,h'=>by
  simp only [PTyp] at h h';obtain ⟨q,pos,-, hB,hE⟩:=h;obtain ⟨q',pos',-, hB',hE'⟩:=h';have e0:n=n':=by simpa using (hB.at (j:=0) rfl).cell.symm.trans (hB'.at (j:=0) rfl).cell
  have e1:q=q':=by simpa using (hB.at (j:=1) rfl).cell.symm.trans (hB'.at (j:=1) rfl).cell
  subst e0;subst e1;cases el with
  | nil=>
   have hq:q=none:=by simpa [PTypE] using hE
   subst hq;cases el' with
   | nil=>rfl
   | cons t l=>simp [PTypE] at hE'
  | cons t l=>
   simp only [PTypE] at hE;obtain ⟨eb,rfl,ht⟩:=hE;cases el' with
   | nil=>simp [PTypE] at hE'
   | cons t' l'=>
    simp only [PTypE] at hE';obtain ⟨eb',he,ht'⟩:=hE';have:eb=eb':=by simpa using he
    subst this;exact k_7 t t' eb ht ht'
theorem k_9 {S:Nat->Prop}{w:World}{x x':VarD}{b:Nat}(h:PVar S w x b)(h':PVar S w x' b):a_w x.t=a_w x'.t:=by
 obtain ⟨tb,q,A,L,C,pos,-, hB,ht,-⟩:=h;obtain ⟨tb',q',A',L',C',pos',-, hB',ht',-⟩:=h';have e:tb=tb':=by simpa using (hB.at (j:=2) rfl).cell.symm.trans (hB'.at (j:=2) rfl).cell
 subst e;exact k_7 _ _ _ ht ht'
inductive Und (w0:World):Value->Nat->Prop
 | here {b:Nat}:Und w0 (.iface 180 (.pointer (some (adr b)))) b
 | fld {b L C j k:Nat} {p:Addr} {v:Value}:At w0 167 ⟨b,4,none⟩ (.slice (some p) L C)->j<L->At w0 334 (p.add j) v->Und w0 v k->Und w0 (.iface 155 (.pointer (some (adr b)))) k
 | inl {b L C j k:Nat} {p:Addr} {v:Value}:At w0 192 ⟨b,2,none⟩ (.slice (some p) L C)->j<L->At w0 334 (p.add j) v->Und w0 v k->Und w0 (.iface 190 (.pointer (some (adr b)))) k
def NS (c:WCtx)(w:World)(k:Nat):Prop:=c.M k/\∃ q,At w 183 ⟨k,3,none⟩ (.pointer q)/\∀ (n:BA) (cs:List Value),Blk c.w0 k 183 (.string n::cs)->OptQ (PFc c) (a_h Frag.name c.frags n) q
theorem NS.wk {c:WCtx}{w w':World}{k:Nat}(h:NS c w k)(hwk:Wk c w w'):NS c w' k:=by
 obtain ⟨hM,q,ha,hq⟩:=h;obtain ⟨v',h1,h2|h2⟩:=hwk.note (a:=⟨k,3,none⟩) hM ha
 ·subst h2;exact ⟨hM,q,h1,hq⟩
 ·obtain ⟨q',rfl,hq'⟩:=h2.2.2.2.2.2.1 ⟨rfl,rfl⟩;exact ⟨hM,q',h1,hq'⟩
def SpO (c:WCtx)(w:World)(v:Value):Prop:=∀ k,Und c.w0 v k->NS c w k
def SpL (c:WCtx)(w:World)(A:OA)(L:Nat):Prop:=∀ p j v,A=some p->j<L->At c.w0 334 (p.add j) v->SpO c w v
def SpF (c:WCtx)(w:World)(n:BA):Prop:=∀ b A L C,FrAt c n b->At c.w0 187 ⟨b,5,none⟩ (.slice A L C)->SpL c w A L
theorem SpO.wk {c:WCtx}{w w':World}{v:Value}(h:SpO c w v)(k:Wk c w w'):SpO c w' v:=fun b hb=>(h b hb).wk k
theorem SpL.wk {c:WCtx}{w w':World}{L:Nat}(h:SpL c w A L)(k:Wk c w w'):SpL c w' A L:=fun p j v h1 h2 h3=>(h p j v h1 h2 h3).wk k
theorem SpF.wk {c:WCtx}{w w':World}(h:SpF c w n)(k:Wk c w w'):SpF c w' n:=fun b A L C h1 h2=>(h b A L C h1 h2).wk k
theorem SpL.same {c:WCtx}{w:World}{A':OA}{L L' C':Nat}(h:SpL c w A L)(h1:At c.w0 T a (.slice A L C))(h2:At c.w0 T a (.slice A' L' C')):SpL c w A' L':=by
 have e:=h1.cell.symm.trans h2.cell;simp only [Option.some.injEq,Value.slice.injEq] at e;obtain ⟨rfl,rfl,-⟩:=e;exact h
theorem SpO.fld {c:WCtx}{w:World}{b L C:Nat}{A:OA}(h:SpL c w A L)(ha:At c.w0 167 ⟨b,4,none⟩ (.slice A L C)):SpO c w (.iface 155 (.pointer (some (adr b)))):=fun k hk=>by
 generalize hv:Value.iface 155 (.pointer (some (adr b)))=v at hk;cases hk with
 | here=>simp at hv
 | @fld b' L' C' j k p v h1 h2 h3 h4=>
  simp only [Value.iface.injEq,Value.pointer.injEq,Option.some.injEq,true_and] at hv;obtain rfl:b=b':=congrArg Addr.block hv;exact (h.same ha h1) p j v rfl h2 h3 k h4
 | inl=>simp at hv
theorem SpO.inl {c:WCtx}{w:World}{b L C:Nat}{A:OA}(h:SpL c w A L)(ha:At c.w0 192 ⟨b,2,none⟩ (.slice A L C)):SpO c w (.iface 190 (.pointer (some (adr b)))):=fun k hk=>by
 generalize hv:Value.iface 190 (.pointer (some (adr b)))=v at hk;cases hk with
 | here=>simp at hv
 | @inl b' L' C' j k p v h1 h2 h3 h4=>
  simp only [Value.iface.injEq,Value.pointer.injEq,Option.some.injEq,true_and] at hv;obtain rfl:b=b':=congrArg Addr.block hv;exact (h.same ha h1) p j v rfl h2 h3 k h4
 | fld=>simp at hv
theorem SpO.here {c:WCtx}{w:World}{b:Nat}(h:NS c w b):SpO c w (.iface 180 (.pointer (some (adr b)))):=fun k hk=>by
 generalize hv:Value.iface 180 (.pointer (some (adr b)))=v at hk;cases hk with
 | here=>
  simp only [Value.iface.injEq,Value.pointer.injEq,Option.some.injEq,true_and] at hv;obtain rfl:b=k:=congrArg Addr.block hv;exact h
 | fld=>simp at hv
 | inl=>simp at hv
def SpD (c:WCtx)(w:World)(T:TypeId)(b j:Nat)(ks:List Sel):Prop:=(∀ A L C,At c.w0 T ⟨b,j,none⟩ (.slice A L C)->SpL c w A L)/\∀ n,Rch c.frags ks n->SpF c w n
def Noted (c:WCtx)(w:World)(vb:Nat):Prop:=∃ q,At w 264 ⟨vb,7,none⟩ (.pointer q)/\∀ x,PVar c.M c.w0 x vb->OptQ (PDef c.M c.w0) (lastN Def.name c.types (a_w x.t)) q
theorem Noted.wk {c:WCtx}{w w':World}{vb:Nat}(h:Noted c w vb)(hM:c.M vb)(hwk:Wk c w w'):Noted c w' vb:=by
 obtain ⟨q,ha,hq⟩:=h;obtain ⟨v',h1,h2|h2⟩:=hwk.note (a:=⟨vb,7,none⟩) hM ha
 ·subst h2;exact ⟨q,h1,hq⟩
 ·obtain ⟨q',rfl,hq'⟩:=h2.2.2.2.2.1 ⟨rfl,rfl⟩;exact ⟨q',h1,hq'⟩
theorem b_y {c:WCtx}{L:Nat}{xs:List Fld}{name:BA}{w:World}(hwk:Wk c c.w0 w)(h:PFlds c.M c.w0 A L C xs):
  CP 216 #[.slice A L C,.string name] w fun e w'=>∃ q,e=.returned (.pointer q)/\w'=w/\OptQ (PFld c.M c.w0) (a_h Fld.name xs name) q:=by
 have hl:=h.1;have hl2:=h.2.2.1;refine c_V A L C name w _ ⟨fun i w1=>0<=i/\i<=L/\w1=w/\a_h Fld.name (xs.take i.toNat) name=none,fun i _=>((L:Int)-i).toNat,⟨by omega,by omega,rfl,by simp [a_h]⟩,?_⟩;rintro i w1 ⟨h0,hi,rfl,hn⟩;refine ⟨fun hlt=>?_,fun hge=>?_⟩
 ·have hlt:=odt hlt;obtain ⟨p,x,v,hp,hx,hc,b,rfl,hpx⟩:=h.wget hwk (fun _=>rfl) h0 hlt;have hpx':=hpx;obtain ⟨_,_,_,_,_,_,_,_,_,hM,hB,-⟩:=hpx';refine ⟨p,hp,⟨h0,hlt⟩,_,hc,adr b,rfl,x.name,hwk.nd hM hB (j:=1) rfl rfl,fun he=>?_,fun hne=>?_⟩
  ·refine ⟨_,rfl,rfl,?_⟩;rw [c_J hn hx (a_b.1 he)];exact ⟨b,rfl,hpx⟩
  ·rw [a_a h0 (by omega)];exact next h0 hlt ⟨rfl,c_h h0 hn hx (a_f.1 hne)⟩
 ·have hle:=odf hge;rw [tl_ (by omega)] at hn;refine ⟨none,rfl,rfl,?_⟩;rw [hn];rfl
theorem a_H {c:WCtx}{L:Nat}{xs:List ArgDef}{name:BA}{w:World}(hwk:Wk c c.w0 w)(h:a_1 c.M c.w0 A L C xs):
  CP 217 #[.slice A L C,.string name] w fun e w'=>∃ q,e=.returned (.pointer q)/\w'=w/\OptQ (b_u c.M c.w0) (a_h ArgDef.name xs name) q:=by
 have hl:=h.1;have hl2:=h.2.2.1;refine b_k A L C name w _ ⟨fun i w1=>0<=i/\i<=L/\w1=w/\a_h ArgDef.name (xs.take i.toNat) name=none,fun i _=>((L:Int)-i).toNat,⟨by omega,by omega,rfl,by simp [a_h]⟩,?_⟩;rintro i w1 ⟨h0,hi,rfl,hn⟩;refine ⟨fun hlt=>?_,fun hge=>?_⟩
 ·have hlt:=odt hlt;obtain ⟨p,x,v,hp,hx,hc,b,rfl,hpx⟩:=h.wget hwk (fun _=>rfl) h0 hlt;have hpx':=hpx;obtain ⟨_,_,_,_,_,_,hM,hB,-⟩:=hpx';refine ⟨p,hp,⟨h0,hlt⟩,_,hc,adr b,rfl,x.name,hwk.nd hM hB (j:=1) rfl rfl,fun he=>?_,fun hne=>?_⟩
  ·refine ⟨_,rfl,rfl,?_⟩;rw [c_J hn hx (a_b.1 he)];exact ⟨b,rfl,hpx⟩
  ·rw [a_a h0 (by omega)];exact next h0 hlt ⟨rfl,c_h h0 hn hx (a_f.1 hne)⟩
 ·have hle:=odf hge;rw [tl_ (by omega)] at hn;refine ⟨none,rfl,rfl,?_⟩;rw [hn];rfl
theorem b_g {c:WCtx}{L:Nat}{xs:List VarD}{name:BA}{w:World}(hwk:Wk c c.w0 w)(h:PVars c.M c.w0 A L C xs):
  CP 215 #[.slice A L C,.string name] w fun e w'=>∃ q,e=.returned (.pointer q)/\w'=w/\OptQ (PVar c.M c.w0) (a_h VarD.name xs name) q/\∀ vb,q=some (adr vb)->∃ p j,A=some p/\j<L/\At c.w0 198 (p.add j) (.pointer (some (adr vb)))/\∃ z,xs[j]? =some z/\z.name=name:=by
 have hl:=h.1;have hl2:=h.2.2.1;refine b_l A L C name w _ ⟨fun i w1=>0<=i/\i<=L/\w1=w/\a_h VarD.name (xs.take i.toNat) name=none,fun i _=>((L:Int)-i).toNat,⟨by omega,by omega,rfl,by simp [a_h]⟩,?_⟩;rintro i w1 ⟨h0,hi,rfl,hn⟩;refine ⟨fun hlt=>?_,fun hge=>?_⟩
 ·have hlt:=odt hlt;obtain ⟨p,x,v,hp,hx,hMp,hat,b,rfl,hpx⟩:=h.get h0 hlt;have hc:=(hwk.at (by rw [b_x];exact hMp) hat rfl).cell;have hpx':=hpx;obtain ⟨_,_,_,_,_,_,hM,hB,-⟩:=hpx';refine ⟨p,hp,⟨h0,hlt⟩,_,hc,adr b,rfl,x.name,hwk.nd hM hB (j:=1) rfl rfl,fun he=>?_,fun hne=>?_⟩
  ·refine ⟨_,rfl,rfl,?_⟩;rw [c_J hn hx (a_b.1 he)];refine ⟨⟨b,rfl,hpx⟩,fun vb e=>?_⟩;cases e;exact ⟨p,i.toNat,hp,by omega,by simpa using hat,x,hx,a_b.1 he⟩
  ·rw [a_a h0 (by omega)];exact next h0 hlt ⟨rfl,c_h h0 hn hx (a_f.1 hne)⟩
 ·have hle:=odf hge;rw [tl_ (by omega)] at hn;refine ⟨none,rfl,rfl,?_⟩;rw [hn];exact ⟨rfl,nofun⟩
def FldAt (c:WCtx)(w:World)(d:Option Fld)(q:OA):Prop:=match d with
 | none=>q=none
 | some f=>∃ (fb:Nat) (A:OA) (L C tb:Nat),q=some (adr fb)/\w.cell? ⟨fb,2,none⟩=some (.slice A L C)/\a_1 c.M c.w0 A L C f.args/\(∀ y∈f.args,a_s y)/\w.cell? ⟨fb,4,none⟩=some (.pointer (some (adr tb)))/\okTyp f.t/\
  ((PTyp c.M c.w0 f.t tb)∨(f.t=.mk bStr [] false/\¬ c.V tb/\Blk w tb 262 [.string bStr,.pointer none,.bool false,.pointer none]))
def v_K:Sel->List Sel
 | .mk _ _ _ _ _ _ kids=>kids
def o_J:Sel->BA
 | .mk _ _ n _ _ _ _=>n
abbrev QDef (c:WCtx)(d:Option Def)(q:OA):Prop:=OptQ (PDef c.M c.w0) d q
def f_i (c:WCtx)(cx:Option OpD)(w:World)(node:Value):Ev->Prop
 | .op o=>cx=some o/\∃ b A L C,node=.pointer (some (adr b))/\SpD c w 237 b 5 o.kids/\POp c.M c.w0 o b/\o∈c.ops/\OpIn c o b/\w.cell? ⟨b,3,none⟩=some (.slice A L C)/\L=o.vars.length/\(∀ n,UsedE c o n->∀ y,a_h VarD.name o.vars n=some y->∃ (p:Addr) (j vb:Nat) (z:VarD),A=some p/\o.vars[j]? =some z/\z.name=n/\At c.w0 198 (p.add j) (.pointer (some (adr vb)))/\w.cell? ⟨vb,8,none⟩=some (.bool true))/\∀ (j:Nat) y,o.vars[j]? =some y->∃ p vb,A=some p/\w.cell? (p.add j)=some (.pointer (some (adr vb)))/\PVar c.M c.w0 y vb/\Noted c w vb/\c.M p.block/\At c.w0 198 (p.add j) (.pointer (some (adr vb)))/\okTyp y.t
 | .frag f=>cx=none/\∃ b,node=.pointer (some (adr b))/\PFrag c.M c.w0 f b/\f∈c.frags/\∃ q,w.cell? ⟨b,6,none⟩=some (.pointer q)/\OptQ (PDef c.M c.w0) (lastN Def.name c.types f.on) q
 | .spread n found pd=>∃ b q q2 d u2 u3 pos,node=.pointer (some (adr b))/\c.M b/\Blk c.w0 b 183 [.string n,d,u2,u3,.pointer pos,.pointer none]/\w.cell? ⟨b,3,none⟩=some (.pointer q)/\OptQ (PFrag c.M c.w0) (a_h Frag.name c.frags n) q/\found=(a_h Frag.name c.frags n).isSome/\w.cell? ⟨b,2,none⟩=some (.pointer q2)/\QDef c pd q2
 | .fld s pd=>∃ b q q8,node=.pointer (some (adr b))/\PSel c.M c.w0 s (.iface 155 (.pointer (some (adr b))))/\w.cell? ⟨b,7,none⟩=some (.pointer q)/\FldAt c w (fldD pd (o_J s)) q/\w.cell? ⟨b,8,none⟩=some (.pointer q8)/\QDef c pd q8/\(∀ d,pd=some d->d∈c.types)/\SpD c w 167 b 4 (v_K s)
 | .inl s pd=>∃ b q,node=.pointer (some (adr b))/\PSel c.M c.w0 s (.iface 190 (.pointer (some (adr b))))/\w.cell? ⟨b,3,none⟩=some (.pointer q)/\QDef c pd q
 | .dir d loc=>∃ b q,node=.pointer (some (adr b))/\PDir c.M c.w0 d b/\w.cell? ⟨b,4,none⟩=some (.pointer q)/\OptQ (a_Q c.M c.w0) (lastN DirDef.name c.dirs d.name) q/\w.cell? ⟨b,5,none⟩=some (.string loc)
 | .dirs l=>∃ A L C,node=.slice A L C/\PDirs c.M c.w0 A L C l/\∀ (j:Nat) x,l[j]? =some x->∃ p db q,A=some p/\c.M p.block/\At c.w0 266 (p.add j) (.pointer (some (adr db)))/\PDir c.M c.w0 x db/\w.cell? ⟨db,4,none⟩=some (.pointer q)/\OptQ (a_Q c.M c.w0) (lastN DirDef.name c.dirs x.name) q
 | .val v vx=>vx=cx/\∃ b,node=.pointer (some (adr b))/\PVal c.M c.w0 v b/\∀ r ks o,v=.mk 0 r ks->cx=some o->∃ q,w.cell? ⟨b,6,none⟩=some (.pointer q)/\OptQ (PVar c.M c.w0) (a_h VarD.name o.vars r) q/\∀ vb,q=some (adr vb)->w.cell? ⟨vb,8,none⟩=some (.bool true)/\∃ ob,OpIn c o ob/\VarAt c.w0 ob vb
 | .var v=>∃ b,node=.pointer (some (adr b))/\PVar c.M c.w0 v b/\okTyp v.t
structure Obs where
 A:Nat->OA
 L:Nat->Nat
 C:Nat->Nat
 on:Nat->Bool
abbrev evsOf (ob:Obs):List Value:=[.slice (ob.A 0) (ob.L 0) (ob.C 0),.slice (ob.A 1) (ob.L 1) (ob.C 1),.slice (ob.A 2) (ob.L 2) (ob.C 2),.slice (ob.A 3) (ob.L 3) (ob.C 3),.slice (ob.A 4) (ob.L 4) (ob.C 4),.slice (ob.A 5) (ob.L 5) (ob.C 5),.slice (ob.A 6) (ob.L 6) (ob.C 6),.slice (ob.A 7) (ob.L 7) (ob.C 7),.slice (ob.A 8) (ob.L 8) (ob.C 8)]
def Vis (c:WCtx)(ob:Obs)(w:World)(j:Nat):Prop:=
 (ob.on j=false/\ob.L j=0)∨(ob.on j=true/\ob.L j=0/\∀ (l:List Ev) (w1:World) (cx:Option OpD) (co:OA) (vm:Nat) (evs:List Value) (node:Value) (ev:Ev),c.St l w1->Wst c cx co vm evs w1->slot ev=j->f_i c cx w1 node ev->c.St (l++[ev]) w1)∨(ob.on j=true/\ob.L j=1/\∃ (p:Addr) (T:TypeId) (g:FuncId) (cap:List Value) (fn:Func),ob.A j=some p/\At w T p (.func (.func g) #[] cap.toArray)/\¬ c.M p.block/\¬ c.V p.block/\Tryz.prog.funcs[g]? =some fn/\(fn.name== "runtime.NumGoroutine" ||fn.body.isNone)=false/\
  ∀ (l:List Ev) (w1:World) (cx:Option OpD) (co:OA) (vm:Nat) (evs:List Value) (node:Value) (ev:Ev),c.St l w1->Wst c cx co vm evs w1->slot ev=j->f_i c cx w1 node ev->
   CP g ([.pointer (some (adr c.wb)),node]++cap).toArray w1 fun e w2=>e=.returned (.tuple #[])/\Ext c.V w1 w2/\c.St (l++[ev]) w2)
theorem Vis.ne {c:WCtx}{ob:Obs}{w w':World}{j:Nat}(h:Vis c ob w j)(hx:Ext X w w')(hX:∀ (T:TypeId) (p:Addr) (g:FuncId) (cap:Array Value),At w T p (.func (.func g) #[] cap)->¬ c.M p.block->¬ c.V p.block->¬ X p.block):Vis c ob w' j:=by
 rcases h with h|h|⟨h1,h2,p,T,g,cap,fn,h3,h4,h5,h6,h7⟩
 ·exact .inl h
 ·exact .inr (.inl h)
 ·exact .inr (.inr ⟨h1,h2,p,T,g,cap,fn,h3,hx.at (hX T p g cap.toArray h4 h5 h6) h4,h5,h6,h7⟩)
abbrev em (ob:Obs)(ev:Ev):List Ev:=if ob.on (slot ev) then [ev] else []
theorem o_S (ob:Obs)(e:Ev):(em ob e).length<=1:=by
 unfold em;split<;>simp
theorem Stp.ofV {c:WCtx}{r:Nat}{w w':World}(g:Good c)(h:Ext c.V w w'):Stp c vm r w w':=⟨h.mono fun _ _ e=>.inr (.inl e),Wk.ofExt h fun b hb=>g.mv b hb,Lim.ofExt h fun b hb=>g.mv b hb⟩
theorem l_o {c:WCtx}(g:Good c){ob:Obs}{w:World}{j:Nat}(hv:Vis c ob w j){l:List Ev}{cx:Option OpD}{ev:Ev}(hl:c.St l w)(hw:Wst c cx co vm evs w)(hk:slot ev=j)(hn:f_i c cx w node ev)
   (hQ:∀ w',Ext c.V w w'->c.St (l++em ob ev) w'->Q w'):
  ∃ (I:Int->World->Prop) (μ:Int->World->Nat),I (0:Int) w/\∀ (n:Int) (w1:World),I n w1->
   (((decide (n<(ob.L j:Int)))=true->∃ p:Addr,ob.A j=some p/\(0<=n/\n<(ob.L j:Int))/\∃ v:Value,w1.cell? (p.add (n.toNat*1))=some v/\∃ (g:FuncId) (cap:List Value),v=.func (.func g) #[] cap.toArray/\∃ fn,Tryz.prog.funcs[g]? =some fn/\(fn.name== "runtime.NumGoroutine" ||fn.body.isNone)=false/\
    CP g ([.pointer (some (adr c.wb)),node]++cap).toArray w1 (fun e w2=>e=.returned (.tuple #[])/\True/\(I (wr (n+(1:Int))) w2/\μ (wr (n+(1:Int))) w2<μ n w1)))/\
   ((decide (n<(ob.L j:Int)))=false->Q w1)):=by
 subst hk;rcases hv with ⟨h1,h2⟩|⟨h1,h2,hg⟩|⟨h1,h2,p,T,gg,cap,fn,h3,ha,hM,hV,hf,hb,hcall⟩
 ·rw [h2];refine ⟨fun n w1=>n=0/\w1=w,fun _ _=>0,⟨rfl,rfl⟩,?_⟩;rintro _ _ ⟨rfl,rfl⟩;exact ⟨fun h=>absurd (odt h) (by omega),fun _=>hQ _ (Ext.refl _) (by simpa [em,h1] using hl)⟩
 ·rw [h2];refine ⟨fun n w1=>n=0/\w1=w,fun _ _=>0,⟨rfl,rfl⟩,?_⟩;rintro _ _ ⟨rfl,rfl⟩;exact ⟨fun h=>absurd (odt h) (by omega),fun _=>hQ _ (Ext.refl _) (by simpa [em,h1] using hg l _ cx co vm evs node ev hl hw rfl hn)⟩
 ·rw [h2,h3];refine ⟨fun n w1=>(n=0/\w1=w)∨(n=1/\Ext c.V w w1/\c.St (l++[ev]) w1),fun n _=>(1-n).toNat,.inl ⟨rfl,rfl⟩,?_⟩;rintro n w1 (⟨rfl,rfl⟩|⟨rfl,hx,hs⟩)
  ·refine ⟨fun _=>⟨p,rfl,⟨by omega,by omega⟩,_,?_,gg,cap,rfl,fn,hf,hb,?_⟩,fun h=>absurd (odf h) (by omega)⟩
   ·have:=ha.cell;simpa [Addr.add] using this
   ·refine (hcall l w1 cx co vm evs node ev hl hw rfl hn).mono ?_;rintro _ w2 ⟨rfl,hx,hs⟩;exact ⟨rfl,trivial,.inr ⟨by decide,hx,hs⟩,by show (1-wr ((0:Int)+1)).toNat<((1:Int)-0).toNat;decide⟩
  ·exact ⟨fun h=>absurd (odt h) (by omega),fun _=>hQ _ hx (by simpa [em,h1] using hs)⟩
theorem At.uniq {w:World}{v v':Value}(h:At w T a v)(h':At w T' a v'):v=v':=Option.some.inj (h.cell.symm.trans h'.cell)
theorem Blk.uniqT {w:World}{b:Nat}{cs cs':List Value}(h:Blk w b T cs)(h':Blk w b T' cs'):T=T':=by
 have:=h.symm.trans h';simp only [Option.some.injEq,Obj.cells.injEq] at this;exact this.2.1
theorem Blk.uniq {w:World}{b:Nat}{cs cs':List Value}(h:Blk w b T cs)(h':Blk w b T' cs'){j:Nat}{v v':Value}(hj:cs[j]? =some v)(hj':cs'[j]? =some v'):v=v':=(h.at hj).uniq (h'.at hj')
section
variable {S:Nat->Prop} {w:World}
mutual
theorem k_B:∀ (x x':Val) (b:Nat),PVal S w x b->PVal S w x' b->rkV x=rkV x'
 | .mk k r kids,.mk k' r' kids',b,h,h'=>by
  simp only [PVal] at h h';obtain ⟨A,L,C,pos,-, hB,hL,-, -, hk⟩:=h;obtain ⟨A',L',C',pos',-, hB',hL',-, -, hk'⟩:=h';have e:=hB.uniq hB' (j:=1) rfl rfl;simp only [Value.slice.injEq] at e;obtain ⟨rfl,rfl,rfl⟩:=e;rw [rkV,rkV,h_U kids kids' A 0 hk hk' (by omega)]
theorem h_U:∀ (l l':List (BA × Val)) (A:OA) (i:Nat),PKids S w l A i->PKids S w l' A i->l.length=l'.length->f_n l=f_n l'
 | [],[],_,_,_,_,_=>rfl
 | (n,v)::l,(n',v')::l',A,i,h,h',hl=>by
  simp only [PKids] at h h';obtain ⟨⟨p,u,rfl,-, ha,cb,rfl,vb,pos,-, hB,hv⟩,ht⟩:=h;obtain ⟨⟨p',u',hp,-, ha',cb',rfl,vb',pos',-, hB',hv'⟩,ht'⟩:=h';obtain rfl:p=p':=Option.some.inj hp;have e:=ha.uniq ha';simp only [Value.pointer.injEq,Option.some.injEq] at e;have e:cb=cb':=congrArg Addr.block e;subst e;have e:=hB.uniq hB' (j:=1) rfl rfl;simp only [Value.pointer.injEq,Option.some.injEq] at e;have e:vb=vb':=congrArg Addr.block e;subst e;rw [f_n,f_n,k_B v v' vb hv hv',h_U l l' _ _ ht ht' (by simpa using hl)]
 | [],_::_,_,_,_,_,h=>by simp at h
 | _::_,[],_,_,_,_,h=>by simp at h
end
theorem n_e {f:α->Nat}:∀ {l l':List α},l.length=l'.length->(∀ (i:Nat) x x',l[i]? =some x->l'[i]? =some x'->f x=f x')->(l.map f).sum=(l'.map f).sum
 | [],[],_,_=>rfl
 | x::l,x'::l',hl,h=>by
  rw [List.map_cons,List.map_cons,List.sum_cons,List.sum_cons,h 0 x x' rfl rfl,n_e (l:=l) (l':=l') (by simpa using hl) fun i y y' hy hy'=>h (i+1) y y' (by simpa using hy) (by simpa using hy')]
 | [],_::_,h,_=>by simp at h
 | _::_,[],h,_=>by simp at h
theorem PSl.det {P:α->Nat->Prop}{L:Nat}{xs':List α}{f:α->Nat}(h:PSl S w T (Ptr P) A L C xs)(h':PSl S w T (Ptr P) A L C xs')(hf:∀ x x' b,P x b->P x' b->f x=f x'):(xs.map f).sum=(xs'.map f).sum:=by
 refine n_e (h.1.symm.trans h'.1) fun i x x' hx hx'=>?_;obtain ⟨p,v,hp,-, ha,b,rfl,hb⟩:=h.2.2.2 i x hx;obtain ⟨p',v',hp',-, ha',b',rfl,hb'⟩:=h'.2.2.2 i x' hx';rw [hp] at hp';obtain rfl:p=p':=Option.some.inj hp';have e:=ha.uniq ha';simp only [Value.pointer.injEq,Option.some.injEq] at e;have e:b=b':=congrArg Addr.block e;subst e;exact hf x x' b hb hb'
theorem i_L:∀ l:List Argm,rkAs l=(l.map fun a=>rkV a.v).sum
 | []=>rfl
 | a::l=>by rw [rkAs,i_L l,List.map_cons,List.sum_cons]
theorem i_N:∀ l:List Dir,rkDs l=(l.map rkD).sum
 | []=>rfl
 | a::l=>by rw [rkDs,i_N l,List.map_cons,List.sum_cons]
theorem l_e {L:Nat}{xs xs':List Argm}(h:PArgs S w A L C xs)(h':PArgs S w A L C xs'):rkAs xs=rkAs xs':=by
 rw [i_L,i_L];refine PSl.det h h' fun x x' b hb hb'=>?_;obtain ⟨vb,pos,-, hB,hv⟩:=hb;obtain ⟨vb',pos',-, hB',hv'⟩:=hb';have e:=hB.uniq hB' (j:=1) rfl rfl;simp only [Value.pointer.injEq,Option.some.injEq] at e;have e:vb=vb':=congrArg Addr.block e;subst e;exact k_B _ _ _ hv hv'
theorem m_4 {x':Dir}{b:Nat}(h:PDir S w x b)(h':PDir S w x' b):rkD x=rkD x':=by
 obtain ⟨A,L,C,pos,-, hB,ha,-⟩:=h;obtain ⟨A',L',C',pos',-, hB',ha',-⟩:=h';have e:=hB.uniq hB' (j:=1) rfl rfl;simp only [Value.slice.injEq] at e;obtain ⟨rfl,rfl,rfl⟩:=e;rw [rkD,rkD,l_e ha ha']
theorem i_M {L:Nat}{xs xs':List Dir}(h:PDirs S w A L C xs)(h':PDirs S w A L C xs'):rkDs xs=rkDs xs':=by
 rw [i_N,i_N];exact PSl.det h h' fun x x' b hb hb'=>m_4 hb hb'
mutual
theorem m_7 (rf:BA->Nat):∀ (x x':Sel) (v:Value),PSel S w x v->PSel S w x' v->rkS rf x=rkS rf x'
 | .mk k al n on args dirs kids,.mk k' al' n' on' args' dirs' kids',v,h,h'=>by
  simp only [PSel] at h h';rcases h with ⟨rfl,b,A1,L1,C1,A2,L2,C2,A3,L3,C3,pos,rfl,-, hB,ha,hd,hl,-, -, hk⟩|⟨rfl,b,A2,L2,C2,pos,rfl,-, hB,hd⟩|⟨rfl,b,A2,L2,C2,A3,L3,C3,pos,rfl,-, hB,hd,hl,-, -, hk⟩
  ·rcases h' with ⟨rfl,b',B1,M1,D1,B2,M2,D2,B3,M3,D3,pos',hv,-, hB',ha',hd',hl',-, -, hk'⟩|⟨rfl,b',B2,M2,D2,pos',hv,-⟩|⟨rfl,b',B2,M2,D2,B3,M3,D3,pos',hv,-⟩
   ·simp only [Value.iface.injEq,Value.pointer.injEq,Option.some.injEq,true_and] at hv;have e:b=b':=congrArg Addr.block hv;subst e;have e1:=hB.uniq hB' (j:=2) rfl rfl;have e2:=hB.uniq hB' (j:=3) rfl rfl;have e3:=hB.uniq hB' (j:=4) rfl rfl;simp only [Value.slice.injEq] at e1 e2 e3;obtain ⟨rfl,rfl,rfl⟩:=e1;obtain ⟨rfl,rfl,rfl⟩:=e2;obtain ⟨rfl,rfl,rfl⟩:=e3;rw [rkS,rkS,i_M hd hd',l_e ha ha',k_A rf kids kids' A3 0 hk hk' (by omega)];simp
   ·simp at hv
   ·simp at hv
  ·rcases h' with ⟨rfl,b',B1,M1,D1,B2,M2,D2,B3,M3,D3,pos',hv,-⟩|⟨rfl,b',B2,M2,D2,pos',hv,-, hB',hd'⟩|⟨rfl,b',B2,M2,D2,B3,M3,D3,pos',hv,-⟩
   ·simp at hv
   ·simp only [Value.iface.injEq,Value.pointer.injEq,Option.some.injEq,true_and] at hv;have e:b=b':=congrArg Addr.block hv;subst e;have e0:=hB.uniq hB' (j:=0) rfl rfl;have e2:=hB.uniq hB' (j:=1) rfl rfl;simp only [Value.slice.injEq] at e2;simp only [Value.string.injEq] at e0;obtain ⟨rfl,rfl,rfl⟩:=e2;subst e0;rw [rkS,rkS,i_M hd hd'];simp
   ·simp at hv
  ·rcases h' with ⟨rfl,b',B1,M1,D1,B2,M2,D2,B3,M3,D3,pos',hv,-⟩|⟨rfl,b',B2,M2,D2,pos',hv,-⟩|⟨rfl,b',B2,M2,D2,B3,M3,D3,pos',hv,-, hB',hd',hl',-, -, hk'⟩
   ·simp at hv
   ·simp at hv
   ·simp only [Value.iface.injEq,Value.pointer.injEq,Option.some.injEq,true_and] at hv;have e:b=b':=congrArg Addr.block hv;subst e;have e2:=hB.uniq hB' (j:=1) rfl rfl;have e3:=hB.uniq hB' (j:=2) rfl rfl;simp only [Value.slice.injEq] at e2 e3;obtain ⟨rfl,rfl,rfl⟩:=e2;obtain ⟨rfl,rfl,rfl⟩:=e3;rw [rkS,rkS,i_M hd hd',k_A rf kids kids' A3 0 hk hk' (by omega)];simp
theorem k_A (rf:BA->Nat):∀ (l l':List Sel) (A:OA) (i:Nat),PSels' S w l A i->PSels' S w l' A i->l.length=l'.length->rkL rf l=rkL rf l'
 | [],[],_,_,_,_,_=>rfl
 | s::l,s'::l',A,i,h,h',hl=>by
  simp only [PSels'] at h h';obtain ⟨⟨p,v,rfl,-, ha,hv⟩,ht⟩:=h;obtain ⟨⟨p',v',hp,-, ha',hv'⟩,ht'⟩:=h';obtain rfl:p=p':=Option.some.inj hp;obtain rfl:v=v':=ha.uniq ha';rw [rkL,rkL,m_7 rf s s' v hv hv',k_A rf l l' _ _ ht ht' (by simpa using hl)]
 | [],_::_,_,_,_,_,h=>by simp at h
 | _::_,[],_,_,_,_,h=>by simp at h
end
theorem PSel.blkT {x:Sel}{b:Nat}(h:PSel S w x (.iface T (.pointer (some (adr b))))):∃ T' cs,Blk w b T' cs/\(T'=167∨T'=183∨T'=192):=by
 cases x;simp only [PSel] at h;rcases h with ⟨-, b',_,_,_,_,_,_,_,_,_,pos,hv,-, hB,-⟩|⟨-, b',_,_,_,pos,hv,-, hB,-⟩|⟨-, b',_,_,_,_,_,_,pos,hv,-, hB,-⟩
 ·simp only [Value.iface.injEq,Value.pointer.injEq,Option.some.injEq] at hv;have e:b=b':=congrArg Addr.block hv.2;subst e;exact ⟨_,_,hB,.inl rfl⟩
 ·simp only [Value.iface.injEq,Value.pointer.injEq,Option.some.injEq] at hv;have e:b=b':=congrArg Addr.block hv.2;subst e;exact ⟨_,_,hB,.inr (.inl rfl)⟩
 ·simp only [Value.iface.injEq,Value.pointer.injEq,Option.some.injEq] at hv;have e:b=b':=congrArg Addr.block hv.2;subst e;exact ⟨_,_,hB,.inr (.inr rfl)⟩
theorem PVal.blkT {x:Val}{b:Nat}(h:PVal S w x b):∃ cs,Blk w b 200 cs:=by
 cases x;simp only [PVal] at h;obtain ⟨A,L,C,pos,-, hB,-⟩:=h;exact ⟨_,hB⟩
theorem PDir.blkT {b:Nat}(h:PDir S w x b):∃ cs,Blk w b 350 cs:=by
 obtain ⟨A,L,C,pos,-, hB,-⟩:=h;exact ⟨_,hB⟩
end
theorem p_p {c:WCtx}(hf:∀ n f,a_h Frag.name c.frags n=some f->rkF c.rf f<=c.rf n):RkOK c:=by
 have nv:∀ {b:Nat} {T:TypeId} {cs:List Value},Blk c.w0 b T cs->T≠200->¬ ∃ x,PVal c.M c.w0 x b:=fun hB hT ⟨x,h⟩=>by
  obtain ⟨cs',hB'⟩:=h.blkT;exact hT (hB.uniqT hB')
 have nd:∀ {b:Nat} {T:TypeId} {cs:List Value},Blk c.w0 b T cs->T≠350->¬ ∃ x,PDir c.M c.w0 x b:=fun hB hT ⟨x,h⟩=>by
  obtain ⟨cs',hB'⟩:=h.blkT;exact hT (hB.uniqT hB')
 refine ⟨fun x b h=>?_,fun x b h=>?_,fun x T b h=>?_,fun x b h=>?_,hf⟩
 ·have hh:∃ x,PVal c.M c.w0 x b:=⟨x,h⟩;rw [WCtx.rank,dif_pos hh];exact k_B _ _ b hh.choose_spec h
 ·obtain ⟨cs,hB⟩:=h.blkT;have hh:∃ x,PDir c.M c.w0 x b:=⟨x,h⟩;rw [WCtx.rank,dif_neg (nv hB (by decide)),dif_pos hh];exact m_4 hh.choose_spec h
 ·obtain ⟨T',cs,hB,hT⟩:=h.blkT;have hh:∃ x T,PSel c.M c.w0 x (.iface T (.pointer (some (adr b)))):=⟨x,T,h⟩;rw [WCtx.rank,dif_neg (nv hB (by rcases hT with rfl|rfl|rfl<;>decide)),dif_neg (nd hB (by rcases hT with rfl|rfl|rfl<;>decide)),dif_pos hh];obtain ⟨T2,h2⟩:=hh.choose_spec;have e:T2=T:=by
   generalize hh.choose=y at h2;cases x;cases y;simp only [PSel] at h h2;rcases h with ⟨-, b',_,_,_,_,_,_,_,_,_,pos,hv,-, hB,-⟩|⟨-, b',_,_,_,pos,hv,-, hB,-⟩|⟨-, b',_,_,_,_,_,_,pos,hv,-, hB,-⟩<;>
    rcases h2 with ⟨-, b2,_,_,_,_,_,_,_,_,_,pos2,hv2,-, hB2,-⟩|⟨-, b2,_,_,_,pos2,hv2,-, hB2,-⟩|⟨-, b2,_,_,_,_,_,_,pos2,hv2,-, hB2,-⟩<;>
    (simp only [Value.iface.injEq,Value.pointer.injEq,Option.some.injEq] at hv hv2;have e1:b=b':=congrArg Addr.block hv.2;have e2:b=b2:=congrArg Addr.block hv2.2;subst e1;subst e2;first|exact hv2.1.trans hv.1.symm|exact absurd (hB.uniqT hB2) (by decide))
  subst e;exact m_7 c.rf _ _ _ h2 h
 ·obtain ⟨tb,q,A,L,C,pos,-, hB,-⟩:=h;rw [WCtx.rank,dif_neg (nv hB (by decide)),dif_neg (nd hB (by decide)),dif_neg];rintro ⟨x,T,h⟩;obtain ⟨T',cs,hB',hT⟩:=h.blkT;have:=hB.uniqT hB';rcases hT with rfl|rfl|rfl<;>exact absurd this (by decide)
structure Nst (c:WCtx) (r:Nat) (w w':World):Prop where
 ext:Ext c.M w w'
 wk:Wk c w w'
 lim:Lim c r w w'
theorem Nst.refl (c:WCtx)(r:Nat)(w:World):Nst c r w w:=⟨Ext.refl w,Wk.refl c w,Lim.refl c r w⟩
theorem Nst.trans {c:WCtx}{r:Nat}{w w' w'':World}(h:Nst c r w w')(k:Nst c r w' w''):Nst c r w w'':=⟨h.ext.trans k.ext fun _ _ h=>h,h.wk.trans k.wk,h.lim.trans k.lim⟩
theorem Nst.of0 {c:WCtx}{r:Nat}{w w':World}(h:EF w w'):Nst c r w w':=⟨h.toM _,Wk.ofExt h fun _ _=>id,Lim.ofExt h fun _ _=>id⟩
theorem Nst.drew {c:WCtx}{r:Nat}{w w1 w2:World}(h:Nst c r w w1)(e:w2=w1.drew):Nst c r w w2:=h.trans (Nst.of0 (by rw [e];exact (Ext.refl w1).drew))
theorem Nst.stp {c:WCtx}{r:Nat}{w w':World}(h:Nst c r w w'):Stp c vm r w w':=⟨h.ext.mono fun _ _ e=>.inl e,h.wk,h.lim⟩
theorem Nst.st {c:WCtx}(g:Good c){r:Nat}{w w':World}(h:Nst c r w w'){l:List Ev}(hl:c.St l w):c.St l w':=g.st l w w' hl (h.ext.mono fun _ _ e=>g.mv _ e) h.wk
theorem Wst.nst {c:WCtx}{cx:Option OpD}{r:Nat}{w w':World}(g:Good c)(h:Wst c cx co vm evs w)(s:Nst c r w w'):Wst c cx co vm evs w':=h.step g s.stp
theorem Nst.set {c:WCtx}{r:Nat}{w:World}{b j:Nat}{cs:List Value}{v:Value}(hwk:Wk c c.w0 w)(hM:c.M b)(hB:Blk c.w0 b T cs)(hr:c.rank b<r)(hok:b_3 c b T j v):Nst c r w (w.setCell ⟨b,j,none⟩ v):=by
 obtain ⟨cs',h1,h2,h3⟩:=hwk.cells _ _ _ _ hM hB;exact ⟨Ext.setCell (X:=c.M) (Ext.refl w) (a:=⟨b,j,none⟩) (.inl hM) _,Wk.set h1 hok,Lim.set hr⟩
theorem Wk.setat {c:WCtx}{w:World}(hwk:Wk c c.w0 w){b:Nat}{cs:List Value}(hM:c.M b)(hB:Blk c.w0 b T cs){j:Nat}{v:Value}(hj:j<cs.length):At (w.setCell ⟨b,j,none⟩ v) T ⟨b,j,none⟩ v:=by
 obtain ⟨cs',h1,h2,h3⟩:=hwk.cells _ _ _ _ hM hB;have:=a_E (v:=v) (a:=⟨b,j,none⟩) h1 rfl;have hsz:j<cs'.size:=by rw [h2];simpa using hj
 exact ⟨_,_,this,rfl,by simp [Array.getElem?_setIfInBounds,hsz]⟩
def GDef (c:WCtx)(q:OA):Prop:=q=none∨∃ db d,q=some (adr db)/\PDef c.M c.w0 d db/\okDef d
def GTyp (c:WCtx)(q:OA):Prop:=q=none∨∃ tb t,q=some (adr tb)/\PTyp c.M c.w0 t tb
def GVar (c:WCtx)(q:OA):Prop:=q=none∨∃ db d,q=some (adr db)/\PVar c.M c.w0 d db
theorem i_v {c:WCtx}{b:Nat}(h:GDef c q):b_3 c b 200 5 (.pointer q):=⟨rfl,fun _=>⟨q,rfl,h⟩,fun h=>absurd h.2 (by decide),fun h=>absurd h.2 (by decide),fun h=>absurd h.1 (by decide),fun h=>absurd h.1 (by decide),fun h=>absurd h.1 (by decide),fun h=>absurd h.1 (by decide),fun h=>absurd h.1 (by decide)⟩
theorem o_o {c:WCtx}{b:Nat}(h:GVar c q):b_3 c b 200 6 (.pointer q):=⟨rfl,fun h=>absurd h.2 (by decide),fun _=>⟨q,rfl,h⟩,fun h=>absurd h.2 (by decide),fun h=>absurd h.1 (by decide),fun h=>absurd h.1 (by decide),fun h=>absurd h.1 (by decide),fun h=>absurd h.1 (by decide),fun h=>absurd h.1 (by decide)⟩
theorem i_w {c:WCtx}{b:Nat}(h:GTyp c q):b_3 c b 200 7 (.pointer q):=⟨rfl,fun h=>absurd h.2 (by decide),fun h=>absurd h.2 (by decide),fun _=>⟨q,rfl,h⟩,fun h=>absurd h.1 (by decide),fun h=>absurd h.1 (by decide),fun h=>absurd h.1 (by decide),fun h=>absurd h.1 (by decide),fun h=>absurd h.1 (by decide)⟩
theorem i_x {c:WCtx}{b:Nat}{v:Value}:b_3 c b 200 8 v:=⟨rfl,fun h=>absurd h.2 (by decide),fun h=>absurd h.2 (by decide),fun h=>absurd h.2 (by decide),fun h=>absurd h.1 (by decide),fun h=>absurd h.1 (by decide),fun h=>absurd h.1 (by decide),fun h=>absurd h.1 (by decide),fun h=>absurd h.1 (by decide)⟩
theorem o_k {c:WCtx}{b:Nat}{x:VarD}(hx:PVar c.M c.w0 x b)(h:OptQ (PDef c.M c.w0) (lastN Def.name c.types (a_w x.t)) q):b_3 c b 264 7 (.pointer q):=⟨rfl,fun h=>absurd h.1 (by decide),fun h=>absurd h.1 (by decide),fun h=>absurd h.1 (by decide),fun _=>⟨q,rfl,fun y hy=>by rw [k_9 hy hx];exact h⟩,fun h=>absurd h.1 (by decide),fun h=>absurd h.1 (by decide),fun h=>absurd h.1 (by decide),fun h=>absurd h.2 (by decide)⟩
theorem o_l {c:WCtx}{b:Nat}{x:Frag}(hx:PFrag c.M c.w0 x b)(h:OptQ (PDef c.M c.w0) (lastN Def.name c.types x.on) q):b_3 c b 187 6 (.pointer q):=⟨rfl,fun h=>absurd h.1 (by decide),fun h=>absurd h.1 (by decide),fun h=>absurd h.1 (by decide),fun h=>absurd h.1 (by decide),fun h=>absurd h.1 (by decide),fun _=>⟨q,rfl,fun y hy=>by
 obtain ⟨A2,L2,C2,A3,L3,C3,pos,-, hB,-⟩:=hx;obtain ⟨B2,M2,D2,B3,M3,D3,pos',-, hB',-⟩:=hy;have e:x.on=y.on:=by simpa using (hB.at (j:=3) rfl).cell.symm.trans (hB'.at (j:=3) rfl).cell
 rw [<- e];exact h⟩,fun h=>absurd h.1 (by decide),fun h=>absurd h.1 (by decide)⟩
theorem o_m {c:WCtx}{b:Nat}(hx:PDir c.M c.w0 x b)(h:OptQ (a_Q c.M c.w0) (lastN DirDef.name c.dirs x.name) q):b_3 c b 350 4 (.pointer q):=⟨rfl,fun h=>absurd h.1 (by decide),fun h=>absurd h.1 (by decide),fun h=>absurd h.1 (by decide),fun h=>absurd h.1 (by decide),fun h=>absurd h.1 (by decide),fun h=>absurd h.1 (by decide),fun _=>⟨q,rfl,fun y hy=>by
 obtain ⟨A2,L2,C2,pos,-, hB,-⟩:=hx;obtain ⟨B2,M2,D2,pos',-, hB',-⟩:=hy;have e:x.name=y.name:=by simpa using (hB.at (j:=0) rfl).cell.symm.trans (hB'.at (j:=0) rfl).cell
 rw [<- e];exact h⟩,fun h=>absurd h.1 (by decide)⟩
theorem u_u {c:WCtx}{b:Nat}(h:∀ x,PVar c.M c.w0 x b->∃ o ob,OpIn c o ob/\VarAt c.w0 ob b/\UsedE c o x.name):b_3 c b 264 8 (.bool true):=⟨rfl,fun h=>absurd h.1 (by decide),fun h=>absurd h.1 (by decide),fun h=>absurd h.1 (by decide),fun h=>absurd h.2 (by decide),fun h=>absurd h.1 (by decide),fun h=>absurd h.1 (by decide),fun h=>absurd h.1 (by decide),fun _=>⟨rfl,h⟩⟩
theorem b_Q {c:WCtx}{b:Nat}{j:Nat}{v:Value}(h:e_0 T j=true)(h1:T≠200)(h2:¬ (T=264/\j=7))(h3:¬ (T=183/\j=3))(h4:¬ (T=187/\j=6))(h5:¬ (T=350/\j=4))(h6:¬ (T=264/\j=8)):b_3 c b T j v:=
 ⟨h,fun e=>absurd e.1 h1,fun e=>absurd e.1 h1,fun e=>absurd e.1 h1,fun e=>absurd e h2,fun e=>absurd e h3,fun e=>absurd e h4,fun e=>absurd e h5,fun e=>absurd e h6⟩
def GQ (c:WCtx)(pd:Option Def)(q:OA):Prop:=QDef c pd q/\∀ d,pd=some d->d∈c.types
theorem GQ.of {c:WCtx}(g:Good c)(h:OptQ (PDef c.M c.w0) (lastN Def.name c.types n) q):GQ c (lastN Def.name c.types n) q:=⟨h,fun d hd=>g_m hd⟩
theorem GDef.of {c:WCtx}(g:Good c)(h:OptQ (PDef c.M c.w0) (lastN Def.name c.types n) q):GDef c q:=by
 cases hl:lastN Def.name c.types n with
 | none=>rw [hl] at h;exact .inl h
 | some d=>
  rw [hl] at h;obtain ⟨b,rfl,hp⟩:=h;exact .inr ⟨b,d,rfl,hp,g.okt d (g_m hl)⟩
section
variable {c:WCtx} {w:World} {b:Nat} {cs:List Value}
theorem val5 (hwk:Wk c c.w0 w)(hM:c.M b)(hB:Blk c.w0 b 200 cs)(hj:cs[5]? =some (.pointer none)):∃ q,w.cell? ⟨b,5,none⟩=some (.pointer q)/\GDef c q:=by
 obtain ⟨v',h1,h2|h2⟩:=hwk.ndn hM hB hj
 ·exact ⟨none,by rw [h1,h2],.inl rfl⟩
 ·obtain ⟨q,rfl,hq⟩:=h2.2.1 ⟨rfl,rfl⟩;exact ⟨q,h1,hq⟩
theorem val7 (hwk:Wk c c.w0 w)(hM:c.M b)(hB:Blk c.w0 b 200 cs)(hj:cs[7]? =some (.pointer none)):∃ q,w.cell? ⟨b,7,none⟩=some (.pointer q)/\GTyp c q:=by
 obtain ⟨v',h1,h2|h2⟩:=hwk.ndn hM hB hj
 ·exact ⟨none,by rw [h1,h2],.inl rfl⟩
 ·obtain ⟨q,rfl,hq⟩:=h2.2.2.2.1 ⟨rfl,rfl⟩;exact ⟨q,h1,hq⟩
theorem var7 {x:VarD}(g:Good c)(hwk:Wk c c.w0 w)(hx:PVar c.M c.w0 x b):∃ q,w.cell? ⟨b,7,none⟩=some (.pointer q)/\GDef c q:=by
 have hx':=hx;obtain ⟨tb,q,A,L,C,pos,hM,hB,-⟩:=hx';obtain ⟨v',h1,h2|h2⟩:=hwk.ndn hM hB (j:=7) rfl
 ·exact ⟨none,by rw [h1,h2],.inl rfl⟩
 ·obtain ⟨q,rfl,hq⟩:=h2.2.2.2.2.1 ⟨rfl,rfl⟩;exact ⟨q,h1,GDef.of g (hq x hx)⟩
end
theorem PVal.blk {S:Nat->Prop}{w:World}{x:Val}{b:Nat}(h:PVal S w x b):∃ (k:Int) (r:BA) (A:OA) (L C:Nat) (pos:OA),S b/\Blk w b 200 [.string r,.slice A L C,.int .i64 k,.pointer pos,.pointer none,.pointer none,.pointer none,.pointer none,.bool false]:=by
 cases x with
 | mk k r kids=>
  obtain ⟨A,L,C,pos,h1,h2,h3⟩:=j_Z.1 h;exact ⟨k,r,A,L,C,pos,h1,h2⟩
theorem Wst.sch {c:WCtx}{cx:Option OpD}{w:World}(g:Good c)(h:Wst c cx co vm evs w):
  w.cell? ⟨c.wb,1,none⟩=some (.pointer (some (adr c.sb)))/\w.cell? ⟨c.sb,4,none⟩=some (.map (some c.m1))/\w.cell? ⟨c.sb,5,none⟩=some (.map (some c.m2))/\
  ∀ u,∃ q,(Instr.lookup 226 (.map (some c.m1)) (.string u) false).run Tryz.prog w=.ok (.pointer q) w/\OptQ (PDef c.M c.w0) (lastN Def.name c.types u) q:=by
 obtain ⟨q1,q2,q3,s,hB,-⟩:=g.sch;refine ⟨(h.walker.at (j:=1) rfl).cell,h.wk.nd g.sb hB (j:=4) rfl rfl,h.wk.nd g.sb hB (j:=5) rfl rfl,fun u=>?_⟩;obtain ⟨q,h1,h2⟩:=tlook (h.wk.smap g.m1.1 g.m1.2.1) g.m1.2.2 u;exact ⟨q,h1,h2⟩
def VM (w:World)(b:Nat)(vs:List BA):Prop:=∃ m,SMap w b m/\∀ k,(k∈vs->mget m k=some (.bool true))/\(k∉vs->mget m k=none)
theorem VM.ext {w w':World}{b:Nat}{vs:List BA}(h:VM w b vs)(hx:Ext X w w')(hb:¬ X b):VM w' b vs:=by
 obtain ⟨m,h1,h2⟩:=h;exact ⟨m,h1.ext hx hb,h2⟩
theorem VM.not_at {w:World}{b:Nat}{vs:List BA}(h:VM w b vs){v:Value}(ha:At w T a v):a.block≠b:=by
 intro e;obtain ⟨m,⟨ents,cl,h1,-⟩,-⟩:=h;obtain ⟨cs,fr,h2,-⟩:=ha;rw [e,h1] at h2;cases h2
theorem VM.look {w:World}{b:Nat}{vs:List BA}(h:VM w b vs)(u:BA):∃ z:Bool,(Instr.lookup 231 (.map (some b)) (.string u) false).run Tryz.prog w=.ok (.bool z) w/\(z=true↔u∈vs):=by
 obtain ⟨m,h1,h2⟩:=h;have r:=a_W (t:=231) (kt:=9) (e:=4) (u:=u) (i:=Tryz.t4) (by kernel_rfl) (by kernel_rfl) (by kernel_rfl) rfl h1 false;by_cases hu:u∈vs
 ·refine ⟨true,?_,by simp [hu]⟩;rw [r];show Result.ok ((mget m u).getD (.bool false)) w=_;rw [(h2 u).1 hu];rfl
 ·refine ⟨false,?_,by simp [hu]⟩;rw [r];show Result.ok ((mget m u).getD (.bool false)) w=_;rw [(h2 u).2 hu];rfl
theorem VM.put {w:World}{b:Nat}{vs:List BA}(h:VM w b vs)(u:BA):∃ w',(Instr.mapUpdate 231 (.map (some b)) (.string u) (.bool true)).run Tryz.prog w=.ok () w'/\VM w' b (u::vs)/\Ext (fun k=>k=b) w w':=by
 obtain ⟨m,h1,h2⟩:=h;obtain ⟨w5,r5,hs5,x5⟩:=b_T (t:=231) (kt:=9) (e:=4) (u:=u) (v:=.bool true) (by kernel_rfl) (by kernel_rfl) h1;refine ⟨w5,r5,⟨_,hs5,fun k=>?_⟩,x5⟩;rw [b_F];by_cases hk:k=u
 ·simp [hk]
 ·simp only [hk,if_false,mc_,false_or];exact h2 k
structure OC where
 co:OA
 cx:Option OpD
 vm:Nat
 ob:Obs
 D:Ev->Prop
structure Wd (c:WCtx) (o:OC) (vs:List BA) (l:List Ev) (w:World):Prop where
 st:Wst c o.cx o.co o.vm (evsOf o.ob) w
 vm:VM w o.vm vs
 nd:vs.Nodup
 sub:∀ n∈vs,n∈c.frags.map Frag.name
 ev:c.St l w
 vis:∀ j,Vis c o.ob w j
 cl:∀ n pd f,o.D (.spread n true pd)->a_h Frag.name c.frags n=some f->∀ e∈evFr c.types c.frags o.cx f,o.D e
 dl:∀ x,o.cx=some x->∀ e,o.D e->DOp c x e
theorem Wd.nst {c:WCtx}{o:OC}{vs:List BA}{l:List Ev}{r:Nat}{w w':World}(g:Good c)(h:Wd c o vs l w)(n:Nst c r w w'):Wd c o vs l w':=
 ⟨h.st.nst g n,h.vm.ext n.ext h.st.vm.2.2.2.1,h.nd,h.sub,n.st g h.ev,fun j=>(h.vis j).ne n.ext fun T p gg cap _ hM _=>hM,h.cl,h.dl⟩
theorem Wd.v {c:WCtx}{o:OC}{vs:List BA}{l l':List Ev}{w w':World}(g:Good c)(h:Wd c o vs l w)(n:Ext c.V w w')(hl:c.St l' w'):Wd c o vs l' w':=
 ⟨h.st.step g (Stp.ofV (r:=0) g n),h.vm.ext n h.st.vm.2.2.2.2,h.nd,h.sub,hl,fun j=>(h.vis j).ne n fun T p gg cap _ _ hV=>hV,h.cl,h.dl⟩
theorem Wd.put {c:WCtx}{o:OC}{vs:List BA}{l:List Ev}{r:Nat}{w:World}(g:Good c)(h:Wd c o vs l w){u:BA}(hu:u∉vs)(hf:u∈c.frags.map Frag.name):
  ∃ w',(Instr.mapUpdate 231 (.map (some o.vm)) (.string u) (.bool true)).run Tryz.prog w=.ok () w'/\Wd c o (u::vs) l w'/\Stp c o.vm r w w':=by
 obtain ⟨w',r',hv,hx⟩:=h.vm.put u;have s:Stp c o.vm r w w':=⟨hx.mono fun b _ e=>.inr (.inr e),Wk.ofExt hx fun b hM e=>h.st.vm.2.2.2.1 (e▸hM),Lim.ofExt hx fun b hM e=>h.st.vm.2.2.2.1 (e▸hM)⟩;exact ⟨w',r',⟨h.st.step g s,hv,List.nodup_cons.2 ⟨hu,h.nd⟩,fun n hn=>(mc_.1 hn).elim (fun e=>e▸hf) (h.sub n),g.st l w w' h.ev (hx.mono fun b _ e hV=>h.st.vm.2.2.2.2 (e▸hV)) s.wk,fun j=>(h.vis j).ne hx fun T p gg cap ha _ _ he=>h.vm.not_at ha he,h.cl,h.dl⟩,s⟩
def cntE (ob:Obs)(l:List Ev):Nat:=(l.filter fun e=>ob.on (slot e)).length
theorem k_c (ob:Obs)(a b:List Ev):cntE ob (a++b)=cntE ob a+cntE ob b:=by simp [cntE]
theorem o_c (ob:Obs)(e:Ev):(em ob e).length=cntE ob [e]:=by
 unfold em cntE;split<;>rename_i h<;>simp [h]
def potF (c:WCtx)(o:OC)(vs:List BA)(f:Frag):Nat:=bif vs.any fun u=>decide (u=f.name) then 0 else cntE o.ob (evFr c.types c.frags o.cx f)
def pot (c:WCtx)(o:OC)(vs:List BA):Nat:=(c.frags.map (potF c o vs)).sum
theorem m_B {c:WCtx}{o:OC}{vs:List BA}(h:f.name∈vs):potF c o vs f=0:=by
 have:(vs.any fun u=>decide (u=f.name))=true:=List.any_eq_true.2 ⟨_,h,by simp⟩;rw [potF,this];rfl
theorem i_B {c:WCtx}{o:OC}{vs:List BA}(h:f.name∉vs):potF c o vs f=cntE o.ob (evFr c.types c.frags o.cx f):=by
 have:(vs.any fun u=>decide (u=f.name))=false:=List.any_eq_false.2 fun u hu=>by
  simp only [decide_eq_true_eq];exact fun e=>h (e▸hu)
 rw [potF,this];rfl
theorem m_C (c:WCtx)(o:OC)(u:BA)(vs:List BA)(f:Frag):potF c o (u::vs) f<=potF c o vs f:=by
 by_cases h:f.name∈u::vs
 ·rw [m_B h];omega
 ·rw [i_B h,i_B fun h'=>h (List.mem_cons_of_mem _ h')];omega
theorem o_r {c:WCtx}{o:OC}{vs:List BA}(hf:f∈c.frags)(hn:f.name∉vs):pot c o (f.name::vs)+cntE o.ob (evFr c.types c.frags o.cx f)<=pot c o vs:=by
 have h1:∀ xs:List Frag,(xs.map (potF c o (f.name::vs))).sum<=(xs.map (potF c o vs)).sum:=by
  intro xs;induction xs with
  | nil=>simp
  | cons x xs ih=>
   simp only [List.map_cons,List.sum_cons];have:=m_C c o f.name vs x;omega
 have h2:∀ xs:List Frag,f∈xs->(xs.map (potF c o (f.name::vs))).sum+cntE o.ob (evFr c.types c.frags o.cx f)<=(xs.map (potF c o vs)).sum:=by
  intro xs;induction xs with
  | nil=>intro h;simp at h
  | cons x xs ih=>
   intro h;simp only [List.map_cons,List.sum_cons];rcases mc_.1 h with rfl|h
   ·have:=h1 xs;rw [m_B (List.mem_cons_self ..),i_B hn];omega
   ·have:=ih h;have:=m_C c o f.name vs x;omega
 exact h2 c.frags hf
def UsC (c:WCtx)(o:OC)(w:World)(x:OpD)(r:BA):Prop:=∀ ob,o.co=some (adr ob)->∀ y,a_h VarD.name x.vars r=some y->∃ (p:Addr) (L C j vb:Nat) (z:VarD),At c.w0 237 ⟨ob,3,none⟩ (.slice (some p) L C)/\x.vars[j]? =some z/\z.name=r/\At c.w0 198 (p.add j) (.pointer (some (adr vb)))/\c.M vb/\At w 264 ⟨vb,8,none⟩ (.bool true)
theorem UsC.wk {c:WCtx}{o:OC}{w w':World}{x:OpD}{r:BA}(h:UsC c o w x r)(k:Wk c w w'):UsC c o w' x r:=fun ob h1 y h2=>by
 obtain ⟨p,L,C,j,vb,z,k1,k2,k3,k4,k5,k6⟩:=h ob h1 y h2;obtain ⟨v',h7,rfl|h8⟩:=k.note (a:=⟨vb,8,none⟩) k5 k6
 ·exact ⟨p,L,C,j,vb,z,k1,k2,k3,k4,k5,h7⟩
 ·obtain ⟨rfl,-⟩:=h8.2.2.2.2.2.2.2.2 ⟨rfl,rfl⟩;exact ⟨p,L,C,j,vb,z,k1,k2,k3,k4,k5,h7⟩
def Tl (c:WCtx)(o:OC)(w:World)(es:List Ev)(vs:List BA)(e:Ev):Prop:=(o.ob.on (slot e)=true->e∈es)/\(∀ m pd,e=.spread m true pd->m∈vs)/\∀ r ks x,e=.val (.mk 0 r ks) (some x)->UsC c o w x r
theorem Tl.mono {c:WCtx}{o:OC}{w w':World}{es es':List Ev}{vs vs':List BA}{e:Ev}(h:Tl c o w es vs e)(h1:∀ e∈es,e∈es')(h2:∀ n∈vs,n∈vs')(k:Wk c w w'):Tl c o w' es' vs' e:=⟨fun ho=>h1 e (h.1 ho),fun m pd he=>h2 m (h.2.1 m pd he),fun r ks x he=>(h.2.2 r ks x he).wk k⟩
def Done (c:WCtx)(o:OC)(w:World)(es:List Ev)(vs:List BA)(n:BA):Prop:=(∀ f,a_h Frag.name c.frags n=some f->∀ e∈evFr c.types c.frags o.cx f,Tl c o w es vs e)/\SpF c w n
theorem Done.mono {c:WCtx}{o:OC}{w w':World}{es es':List Ev}{vs vs':List BA}(h:Done c o w es vs n)(h1:∀ e∈es,e∈es')(h2:∀ n∈vs,n∈vs')(k:Wk c w w'):Done c o w' es' vs' n:=⟨fun f hf e he=>(h.1 f hf e he).mono h1 h2 k,h.2.wk k⟩
theorem Done.wk {c:WCtx}{o:OC}{w w':World}{es:List Ev}{vs:List BA}(h:Done c o w es vs n)(k:Wk c w w'):Done c o w' es vs n:=h.mono (fun _ h=>h) (fun _ h=>h) k
def Jlo (c:WCtx)(o:OC)(r:Nat)(vs:List BA)(l:List Ev)(w:World):Prop:=∀ n∈vs,c.rf n<r->Done c o w l vs n
theorem Jlo.wk {c:WCtx}{o:OC}{r:Nat}{vs:List BA}{l:List Ev}{w w':World}(h:Jlo c o r vs l w)(k:Wk c w w'):Jlo c o r vs l w':=fun n hn hr=>(h n hn hr).wk k
theorem Jlo.low {c:WCtx}{o:OC}{r:Nat}{vs:List BA}{l:List Ev}{w:World}(h:Jlo c o r vs l w)(hr:r'<=r):Jlo c o r' vs l w:=fun n hn h'=>h n hn (Nat.lt_of_lt_of_le h' hr)
structure WrC (c:WCtx) (o:OC) (r:Nat) (vs:List BA) (l:List Ev) (w:World) (need:List Ev) (w':World) (vs':List BA) (es:List Ev):Prop where
 stp:Stp c o.vm r w w'
 wd:Wd c o vs' (l++es) w'
 len:vs.length<=vs'.length
 sub:∀ n∈vs,n∈vs'
 done:∀ n∈vs',n∈vs∨Done c o w' es vs' n
 only:∀ e∈es,o.D e/\o.ob.on (slot e)=true
 told:∀ e∈need,Tl c o w' es vs' e
 cap:es.length+pot c o vs'<=cntE o.ob need+pot c o vs
def Wr (c:WCtx)(o:OC)(r:Nat)(vs:List BA)(l:List Ev)(w:World)(need:List Ev)(w':World):Prop:=∃ vs' es,WrC c o r vs l w need w' vs' es
section
variable {c:WCtx} {o:OC} {vs vs1 vs2:List BA} {l es es2:List Ev} {r r2:Nat} {w w' w'':World} {need need':List Ev}
theorem WrC.refl (h:Wd c o vs l w):WrC c o r vs l w [] w vs []:=⟨Stp.refl c o.vm r w,by simpa using h,Nat.le_refl _,fun _ h=>h,fun _ h=>.inl h,by simp,by simp,Nat.le_refl _⟩
theorem Wr.refl (h:Wd c o vs l w):Wr c o r vs l w [] w:=⟨vs,[],WrC.refl h⟩
theorem Wr.st (h:Wr c o r vs l w need w'):Wst c o.cx o.co o.vm (evsOf o.ob) w':=by
 obtain ⟨vs',es,h⟩:=h;exact h.wd.st
theorem Wr.stp (h:Wr c o r vs l w need w'):Stp c o.vm r w w':=by
 obtain ⟨vs',es,h⟩:=h;exact h.stp
theorem WrC.nst (h:WrC c o r vs l w need w' vs1 es)(g:Good c)(n:Nst c r w' w''):WrC c o r vs l w need w'' vs1 es:=⟨h.stp.trans n.stp,h.wd.nst g n,h.len,h.sub,fun u hu=>(h.done u hu).imp id fun d=>d.wk n.wk,h.only,fun e he=>(h.told e he).mono (fun _ h=>h) (fun _ h=>h) n.wk,h.cap⟩
theorem Wr.nst (h:Wr c o r vs l w need w')(g:Good c)(n:Nst c r w' w''):Wr c o r vs l w need w'':=by
 obtain ⟨vs',es,h⟩:=h;exact ⟨vs',es,h.nst g n⟩
theorem Wr.drew (h:Wr c o r vs l w need w')(g:Good c)(e:w''=w'.drew):Wr c o r vs l w need w'':=h.nst g ((Nst.refl c r w').drew e)
theorem Wr.after (h:Wr c o r2 vs l w' need w'')(hr:r2<=r)(n:Stp c o.vm r w w'):Wr c o r vs l w need w'':=by
 obtain ⟨vs',es,h⟩:=h;exact ⟨vs',es,n.trans (h.stp.mono hr),h.wd,h.len,h.sub,h.done,h.only,h.told,h.cap⟩
theorem WrC.then (h:WrC c o r vs l w need w' vs1 es)(hr:r2<=r)(k:WrC c o r2 vs1 (l++es) w' need' w'' vs2 es2):WrC c o r vs l w (need++need') w'' vs2 (es++es2):=by
 have e1:∀ e∈es,e∈es++es2:=fun e he=>ma_.2 (.inl he);have e2:∀ e∈es2,e∈es++es2:=fun e he=>ma_.2 (.inr he);refine ⟨h.stp.trans (k.stp.mono hr),by rw [<- List.append_assoc];exact k.wd,lt_ h.len k.len,fun n hn=>k.sub n (h.sub n hn),fun n hn=>?_,fun e he=>(ma_.1 he).elim (h.only e) (k.only e),fun e he=>?_,?_⟩
 ·rcases k.done n hn with hn|hn
  ·exact (h.done n hn).imp id fun hd=>hd.mono e1 k.sub k.stp.wk
  ·exact .inr (hn.mono e2 (fun _ h=>h) (Wk.refl c _))
 ·rcases ma_.1 he with he|he
  ·exact (h.told e he).mono e1 k.sub k.stp.wk
  ·exact (k.told e he).mono e2 (fun _ h=>h) (Wk.refl c _)
 ·have h1:=h.cap;have h2:=k.cap;simp only [la_,k_c];omega
theorem Wr.then (h:Wr c o r vs l w need w')(hr:r2<=r){f:FuncId}{args:Array Value}(k:∀ vs' l',Wd c o vs' l' w'->vs.length<=vs'.length->CP f args w' fun e w2=>e=.returned (.tuple #[])/\Wr c o r2 vs' l' w' need' w2):
  CP f args w' fun e w2=>e=.returned (.tuple #[])/\Wr c o r vs l w (need++need') w2/\Wk c w' w2:=by
 obtain ⟨vs',es,h⟩:=h;refine (k vs' (l++es) h.wd h.len).mono ?_;rintro _ w2 ⟨rfl,vs2,es2,k⟩;exact ⟨rfl,⟨vs2,es++es2,h.then hr k⟩,k.stp.wk⟩
theorem WrC.j (h:WrC c o r vs l w need w' vs1 es)(k:Jlo c o r' vs l w):Jlo c o r' vs1 (l++es) w':=fun n hn hr=>by
 rcases h.done n hn with hn|hn
 ·exact (k n hn hr).mono (fun e he=>ma_.2 (.inl he)) h.sub h.stp.wk
 ·exact hn.mono (fun e he=>ma_.2 (.inr he)) (fun _ h=>h) (Wk.refl c _)
theorem Wr.thenJ (h:Wr c o r vs l w need w')(hr:r2<=r){S:World->Prop}{f:FuncId}{args:Array Value}(k:∀ vs' l',Wd c o vs' l' w'->vs.length<=vs'.length->(∀ r',Jlo c o r' vs l w->Jlo c o r' vs' l' w')->CP f args w' fun e w2=>e=.returned (.tuple #[])/\Wr c o r2 vs' l' w' need' w2/\S w2):
  CP f args w' fun e w2=>e=.returned (.tuple #[])/\Wr c o r vs l w (need++need') w2/\Wk c w' w2/\S w2:=by
 obtain ⟨vs',es,h⟩:=h;refine (k vs' (l++es) h.wd h.len fun r'=>h.j).mono ?_;rintro _ w2 ⟨rfl,⟨vs2,es2,k⟩,hs⟩;exact ⟨rfl,⟨vs2,es++es2,h.then hr k⟩,k.stp.wk,hs⟩
theorem WrC.visit (h:WrC c o r vs l w need w' vs1 es)(g:Good c){ev:Ev}{j:Nat}(hk:slot ev=j)(hn:f_i c o.cx w' node ev)(hd:o.D ev)(hs:∀ m pd,ev=.spread m true pd->m∈vs1)(hu:∀ r ks x,ev=.val (.mk 0 r ks) (some x)->UsC c o w' x r)(hQ:∀ w2,WrC c o r vs l w (need++[ev]) w2 vs1 (es++em o.ob ev)->Wk c w' w2->Q w2):
  ∃ (I:Int->World->Prop) (μ:Int->World->Nat),I (0:Int) w'/\∀ (n:Int) (w1:World),I n w1->
   (((decide (n<(o.ob.L j:Int)))=true->∃ p:Addr,o.ob.A j=some p/\(0<=n/\n<(o.ob.L j:Int))/\∃ v:Value,w1.cell? (p.add (n.toNat*1))=some v/\∃ (g:FuncId) (cap:List Value),v=.func (.func g) #[] cap.toArray/\∃ fn,Tryz.prog.funcs[g]? =some fn/\(fn.name== "runtime.NumGoroutine" ||fn.body.isNone)=false/\
    CP g ([.pointer (some (adr c.wb)),node]++cap).toArray w1 (fun e w2=>e=.returned (.tuple #[])/\True/\(I (wr (n+(1:Int))) w2/\μ (wr (n+(1:Int))) w2<μ n w1)))/\
   ((decide (n<(o.ob.L j:Int)))=false->Q w1)):=by
 refine l_o g (h.wd.vis j) h.wd.ev h.wd.st hk hn fun w2 hx hs2=>hQ w2 ?_ (Stp.ofV (vm:=o.vm) (r:=r) g hx).wk;have k:WrC c o r vs1 (l++es) w' [ev] w2 vs1 (em o.ob ev):=by
  refine ⟨Stp.ofV g hx,h.wd.v g hx hs2,Nat.le_refl _,fun _ h=>h,fun _ h=>.inl h,fun e he=>?_,fun e he=>?_,?_⟩
  ·unfold em at he;split at he
   ·rename_i ho;obtain rfl:e=ev:=by simpa using he
    exact ⟨hd,ho⟩
   ·simp at he
  ·obtain rfl:e=ev:=by simpa using he
   exact ⟨fun ho=>by rw [em,if_pos ho];simp,hs,fun r ks x he=>(hu r ks x he).wk (Stp.ofV (vm:=o.vm) (r:=0) g hx).wk⟩
  ·have:=o_c o.ob ev;omega
 exact h.then (Nat.le_refl r) k
theorem Wr.visit (h:Wr c o r vs l w need w')(g:Good c){ev:Ev}{j:Nat}(hk:slot ev=j)(hj:j≠4)(hn:f_i c o.cx w' node ev)(hd:o.D ev)(hu:∀ r ks x,ev=.val (.mk 0 r ks) (some x)->UsC c o w' x r)(hQ:∀ w2,Wr c o r vs l w (need++[ev]) w2->Wk c w' w2->Q w2):
  ∃ (I:Int->World->Prop) (μ:Int->World->Nat),I (0:Int) w'/\∀ (n:Int) (w1:World),I n w1->
   (((decide (n<(o.ob.L j:Int)))=true->∃ p:Addr,o.ob.A j=some p/\(0<=n/\n<(o.ob.L j:Int))/\∃ v:Value,w1.cell? (p.add (n.toNat*1))=some v/\∃ (g:FuncId) (cap:List Value),v=.func (.func g) #[] cap.toArray/\∃ fn,Tryz.prog.funcs[g]? =some fn/\(fn.name== "runtime.NumGoroutine" ||fn.body.isNone)=false/\
    CP g ([.pointer (some (adr c.wb)),node]++cap).toArray w1 (fun e w2=>e=.returned (.tuple #[])/\True/\(I (wr (n+(1:Int))) w2/\μ (wr (n+(1:Int))) w2<μ n w1)))/\
   ((decide (n<(o.ob.L j:Int)))=false->Q w1)):=by
 obtain ⟨vs',es,h⟩:=h;exact h.visit g hk hn hd (fun m pd he=>absurd (by rw [he] at hk;exact hk.symm) hj) hu fun w2 h2=>hQ w2 ⟨vs',_,h2⟩
theorem Wr.events (h:Wr c o r vs l w need w')(j:Nat){v:Value}(hj:(evsOf o.ob)[j]? =some v):w'.cell? ⟨c.wb,0,none⟩=some (.pointer (some (adr c.eb)))/\w'.cell? ⟨c.eb,j,none⟩=some v:=
 ⟨(h.st.walker.at (j:=0) rfl).cell,(h.st.events.at (j:=j) hj).cell⟩
end
theorem g_c {l:List (BA × Val)}{x:BA × Val}(cx:Option OpD)(h0:0<=i)(hx:l[i.toNat]? =some x):a_L cx (l.take (i+1).toNat)=a_L cx (l.take i.toNat)++evV cx x.2:=by
 have h1:∀ a b,a_L cx (a++b)=a_L cx a++a_L cx b:=by
  intro a b;induction a with
  | nil=>rfl
  | cons s a ih=>simp [a_L,ih]
 rw [show (i+1).toNat=i.toNat+1 by omega,List.take_add_one,hx,h1];simp [a_L]
theorem e_Y {cx:Option OpD}{x:BA × Val}{e:Ev}(h:e∈evV cx x.2):∀ {l:List (BA × Val)},x∈l->e∈a_L cx l
 | y::l,hs=>by
  simp only [a_L];rcases mc_.1 hs with rfl|hs
  ·exact ma_.2 (.inl h)
  ·exact ma_.2 (.inr (e_Y h hs))
theorem h_V {x:BA × Val}:∀ {l:List (BA × Val)},x∈l->rkV x.2<=f_n l
 | y::l,h=>by
  simp only [f_n];rcases mc_.1 h with rfl|h
  ·omega
  ·have:=h_V h;omega
abbrev WV (c:WCtx)(v:Val):Prop:=∀ (vb:Nat) (w:World) (o:OC) (vs:List BA) (l:List Ev),Wd c o vs l w->PVal c.M c.w0 v vb->(∀ e∈evV o.cx v,o.D e)->
 CP 206 #[.pointer (some (adr c.wb)),.pointer (some (adr vb))] w fun e w'=>e=.returned (.tuple #[])/\Wr c o (rkV v+1) vs l w (evV o.cx v) w'
theorem f_u {c:WCtx}(g:Good c)(k:Int)(r:BA)(kids:List (BA × Val))(IH:∀ x∈kids,WV c x.2):WV c (.mk k r kids):=by
 intro vb w o vs l hd hp hall;have hw:=hd.st;have hrb:c.rank vb<rkV (.mk k r kids)+1:=by rw [g.rk.v _ _ hp];omega
 have hrk:∀ x∈kids,rkV x.2+1<=rkV (.mk k r kids)+1:=fun x hx=>by
  have:=h_V hx;simp only [rkV];omega
 have hR0:0<rkV (.mk k r kids)+1:=by omega
 generalize rkV (.mk k r kids)+1=R at *;simp only [evV] at hall ⊢;let VU:World->Prop:=fun w'=>∀ r' ks' x',Ev.val (.mk k r kids) o.cx=.val (.mk 0 r' ks') (some x')->UsC c o w' x' r';let VX:World->Prop:=fun w'=>VU w'/\∀ r' ks' x',Val.mk k r kids=.mk 0 r' ks'->o.cx=some x'->∃ q,w'.cell? ⟨vb,6,none⟩=some (.pointer q)/\OptQ (PVar c.M c.w0) (a_h VarD.name x'.vars r') q/\∀ vb,q=some (adr vb)->w'.cell? ⟨vb,8,none⟩=some (.bool true)/\∃ ob,OpIn c x' ob/\VarAt c.w0 ob vb;obtain ⟨A,L,C,pos,hM,hB,hkids⟩:=j_Z.1 hp;have hL:=hkids.2.2.1;have hL0:=hkids.1;refine c_W (some (adr c.wb)) (some (adr vb)) w _ fun K3 hK3=>?_;have key3:∀ w4,Wr c o R vs l w [] w4->VX w4->K3 w4:=by
  intro w4 n4 vx4;refine hK3 w4 fun K5 hK5=>?_;have key5:∀ w6,Wr c o R vs l w (if k=9 then a_L o.cx kids else []) w6->VX w6->K5 w6:=by
   intro w6 n6 vx6;refine hK5 w6 fun K7 hK7=>?_;have key7:∀ w8,Wr c o R vs l w ((if k=9 then a_L o.cx kids else [])++if k=8 then a_L o.cx kids else []) w8->VX w8->K7 w8:=by
    intro w8 n8 vx8;obtain ⟨z1,z2⟩:=n8.events 7 rfl;refine hK7 w8 ⟨adr c.wb,rfl,_,z1,adr c.eb,rfl,_,_,_,z2,?_⟩;exact n8.visit g (ev:=.val (.mk k r kids) o.cx) (j:=7) rfl (by decide) ⟨rfl,vb,rfl,hp,vx8.2⟩ (hall _ (by simp)) vx8.1 fun w2 h2 _=>⟨rfl,by rw [<- List.append_assoc];exact h2⟩
   have s6:=n6.st;refine ⟨adr vb,rfl,k,s6.wk.nd hM hB (j:=2) rfl rfl,fun hk8=>?_,fun hk8=>key7 w6 (by rw [if_neg (c:=k=8) (by simpa using hk8),List.append_nil];exact n6) vx6⟩;have hk8:k=8:=by simpa using hk8
   refine ⟨adr vb,rfl,A,L,C,s6.wk.nd hM hB (j:=1) rfl rfl,?_⟩;refine ⟨fun i w1=>0<=i/\i<=L/\Wr c o R vs l w ((if k=9 then a_L o.cx kids else [])++a_L o.cx (kids.take i.toNat)) w1,fun i _=>((L:Int)-i).toNat,⟨by omega,by omega,by simpa [a_L] using n6⟩,?_⟩;rintro i w1 ⟨h0,hi,n1⟩;have s1:=n1.st;refine ⟨fun hlt=>?_,fun hge=>key7 w1 (by
    have hle:=odf hge;rw [tl_ (by omega)] at n1;rw [if_pos (c:=k=8) hk8];exact n1) ⟨fun r' ks' x' e=>(by
     simp only [Ev.val.injEq,Val.mk.injEq] at e;have:=e.1.1;omega),fun r' ks' x' e=>by cases e;cases hk8⟩⟩
   have hlt:=odt hlt;obtain ⟨p,x,v,hpp,hx,hc,cb,rfl,vb',pos',hMc,hBc,hpv⟩:=hkids.wget s1.wk (fun _=>rfl) h0 hlt;obtain ⟨k',r',A',L',C',pos2,hMv,hBv⟩:=hpv.blk;have hrv:c.rank vb'<R:=by rw [g.rk.v _ _ hpv];exact hrk x (mg_ hx)
   refine ⟨p,hpp,⟨h0,hlt⟩,_,hc,fun K34 hK34 K40 hK40=>?_⟩;have key34:∀ w',Wr c o R vs l w ((if k=9 then a_L o.cx kids else [])++a_L o.cx (kids.take i.toNat)) w'->K34 w':=by
    intro w' n';have s':=n'.st;refine hK34 w' ⟨adr cb,rfl,_,s'.wk.nd hMc hBc (j:=1) rfl rfl,(n'.then (hrk x (mg_ hx)) fun vs' l' d' _=>IH x (mg_ hx) vb' w' o vs' l' d' hpv fun e he=>hall e (by rw [if_pos (c:=k=8) hk8];simp [e_Y he (mg_ hx)])).mono ?_⟩;rintro _ w2 ⟨rfl,n2,-⟩;refine ⟨rfl,trivial,?_⟩;rw [a_a h0 (by omega)];refine next h0 hlt ?_
    rw [g_c o.cx h0 hx,<- List.append_assoc];exact n2
   obtain ⟨q60,hq60,hg⟩:=val7 s1.wk hM hB rfl;refine ⟨adr vb,rfl,q60,hq60,fun hs=>?_,fun _=>hK40 false w1 ⟨nofun,fun _=>key34 w1 n1⟩⟩;rcases hg with rfl|⟨tb,t,rfl,hpt⟩
   ·cases hs
   cases t with
   | mk tn el nn=>
    simp only [PTyp] at hpt;obtain ⟨q,post,hMt,hBt,hE⟩:=hpt;have gE:GTyp c q:=by
     cases el with
     | nil=>exact .inl (by simpa [PTypE] using hE)
     | cons t l=>
      simp only [PTypE] at hE;obtain ⟨eb,rfl,ht⟩:=hE;exact .inr ⟨eb,t,rfl,ht⟩
    refine ⟨adr vb,rfl,_,hq60,adr tb,rfl,q,s1.wk.nd hMt hBt (j:=1) rfl rfl,hK40 _ w1 ⟨fun hb=>?_,fun _=>key34 w1 n1⟩⟩;intro w43 e43;have n43:=n1.drew g e43;have s43:=n43.st;obtain ⟨q47,hq47,hg47⟩:=val7 s43.wk hM hB rfl;have e47:q47=some (adr tb):=by
     rw [e43] at hq47;have:=hq47.symm.trans hq60;simpa using this
    subst e47;refine ⟨adr cb,rfl,_,s43.wk.nd hMc hBc (j:=1) rfl rfl,adr vb,rfl,_,hq47,adr tb,rfl,q,s43.wk.nd hMt hBt (j:=1) rfl rfl,adr vb',rfl,s43.wk.off hMv hBv (j:=7) (n:=1) (by simp),trivial,trivial,fun w52 e52=>?_⟩;have n51:=n43.nst g (Nst.set s43.wk hMv hBv hrv (i_w (b:=vb') gE));have n52:=n51.drew g e52;have s52:=n52.st;obtain ⟨q56,hq56,hg56⟩:=val5 s52.wk hM hB rfl;exact ⟨adr cb,rfl,_,s52.wk.nd hMc hBc (j:=1) rfl rfl,adr vb,rfl,q56,hq56,adr vb',rfl,s52.wk.off hMv hBv (j:=5) (n:=1) (by simp),trivial,trivial,key34 _ (n52.nst g (Nst.set s52.wk hMv hBv hrv (i_v (b:=vb') hg56)))⟩
  have s4:=n4.st;refine ⟨adr vb,rfl,k,s4.wk.nd hM hB (j:=2) rfl rfl,fun hk9=>?_,fun hk9=>key5 w4 (by rw [if_neg (c:=k=9) (by simpa using hk9)];exact n4) vx4⟩;have hk9:k=9:=by simpa using hk9
  refine ⟨adr vb,rfl,A,L,C,s4.wk.nd hM hB (j:=1) rfl rfl,?_⟩;refine ⟨fun i w1=>0<=i/\i<=L/\Wr c o R vs l w (a_L o.cx (kids.take i.toNat)) w1,fun i _=>((L:Int)-i).toNat,⟨by omega,by omega,by simpa [a_L] using n4⟩,?_⟩;rintro i w1 ⟨h0,hi,n1⟩;have s1:=n1.st;refine ⟨fun hlt=>?_,fun hge=>key5 w1 (by
   have hle:=odf hge;rw [tl_ (by omega)] at n1;rw [if_pos (c:=k=9) hk9];exact n1) ⟨fun r' ks' x' e=>(by
     simp only [Ev.val.injEq,Val.mk.injEq] at e;have:=e.1.1;omega),fun r' ks' x' e=>by cases e;cases hk9⟩⟩
  have hlt:=odt hlt;obtain ⟨p,x,v,hpp,hx,hc,cb,rfl,vb',pos',hMc,hBc,hpv⟩:=hkids.wget s1.wk (fun _=>rfl) h0 hlt;obtain ⟨k',r',A',L',C',pos2,hMv,hBv⟩:=hpv.blk;have hrv:c.rank vb'<R:=by rw [g.rk.v _ _ hpv];exact hrk x (mg_ hx)
  refine ⟨p,hpp,⟨h0,hlt⟩,_,hc,fun K75 hK75=>?_⟩;have key75:∀ w',Wr c o R vs l w (a_L o.cx (kids.take i.toNat)) w'->K75 w':=by
   intro w' n';have s':=n'.st;refine hK75 w' ⟨adr cb,rfl,_,s'.wk.nd hMc hBc (j:=1) rfl rfl,(n'.then (hrk x (mg_ hx)) fun vs' l' d' _=>IH x (mg_ hx) vb' w' o vs' l' d' hpv fun e he=>hall e (by rw [if_pos (c:=k=9) hk9];simp [e_Y he (mg_ hx)])).mono ?_⟩;rintro _ w2 ⟨rfl,n2,-⟩;refine ⟨rfl,trivial,?_⟩;rw [a_a h0 (by omega)];refine next h0 hlt ?_
   rw [g_c o.cx h0 hx];exact n2
  obtain ⟨q82,hq82,hg⟩:=val5 s1.wk hM hB rfl;refine ⟨adr vb,rfl,q82,hq82,fun hs=>?_,fun _=>key75 w1 n1⟩;rcases hg with rfl|⟨db,d,rfl,hpd,hokd⟩
  ·cases hs
  intro w83 e83;have n83:=n1.drew g e83;have s83:=n83.st;have hq83:w83.cell? ⟨vb,5,none⟩=some (.pointer (some (adr db))):=by rw [e83];exact hq82
  obtain ⟨_,_,_,_,_,_,A3,L3,C3,_,_,_,_,_,_,pos3,hMd,hBd,-, -, hflds,-⟩:=hpd;refine ⟨adr vb,rfl,_,hq83,adr db,rfl,_,_,_,s83.wk.nd hMd hBd (j:=5) rfl rfl,adr cb,rfl,_,s83.wk.nd hMc hBc (j:=0) rfl rfl,?_⟩;refine (b_y s83.wk hflds).mono ?_;rintro _ _ ⟨q92,rfl,rfl,hq92⟩;refine ⟨q92,rfl,trivial,trivial,trivial,fun hs2=>?_,fun _=>key75 _ n83⟩;cases hf:a_h Fld.name d.fields x.1 with
  | none=>
   rw [hf] at hq92;rw [show q92=none from hq92] at hs2;cases hs2
  | some f=>
   rw [hf] at hq92;obtain ⟨fb,rfl,A1,L1,C1,qd,tb,A6,L6,C6,pos6,hMf,hBf,hargs,hdf,hty,hdirs⟩:=hq92;have hokf:=hokd.2.2.1 f (a_U hf).1;intro w93 e93;have n93:=n83.drew g e93;have s93:=n93.st;refine ⟨adr cb,rfl,_,s93.wk.nd hMc hBc (j:=1) rfl rfl,adr fb,rfl,_,s93.wk.nd hMf hBf (j:=4) rfl rfl,adr vb',rfl,s93.wk.off hMv hBv (j:=7) (n:=1) (by simp),trivial,trivial,fun K100 hK100=>?_⟩;have n99:=n93.nst g (Nst.set s93.wk hMv hBv hrv (i_w (b:=vb') (.inr ⟨tb,f.t,rfl,hty⟩)));have key100:∀ w',Wr c o R vs l w (a_L o.cx (kids.take i.toNat)) w'->K100 w':=by
    intro w' n';refine hK100 w' fun w102 e102=>?_;have n102:=n'.drew g e102;have s102:=n102.st;obtain ⟨z1,z2,z3,z4⟩:=s102.sch g;refine ⟨adr cb,rfl,_,s102.wk.nd hMc hBc (j:=1) rfl rfl,adr c.wb,rfl,_,z1,adr c.sb,rfl,_,z2,adr fb,rfl,_,s102.wk.nd hMf hBf (j:=4) rfl rfl,?_⟩;refine (a_I f.t tb w102 s102.wk hty hokf.1).mono ?_;rintro _ _ ⟨rfl,rfl⟩;obtain ⟨q114,r114,o114⟩:=z4 (a_w f.t);have g114:=GDef.of g o114;exact ⟨_,rfl,trivial,by simp,q114,r114,adr vb',rfl,s102.wk.off hMv hBv (j:=5) (n:=1) (by simp),trivial,trivial,key75 _ (n102.nst g (Nst.set s102.wk hMv hBv hrv (i_v (b:=vb') g114)))⟩
   intro w117 e117;have n117:=n99.drew g e117;have s117:=n117.st;refine ⟨adr cb,rfl,_,s117.wk.nd hMc hBc (j:=1) rfl rfl,adr fb,rfl,qd,s117.wk.nd hMf hBf (j:=3) rfl rfl,fun hsd=>?_,fun _=>⟨adr vb',rfl,s117.wk.off hMv hBv (j:=8) (n:=1) (by simp),trivial,trivial,key100 _ (n117.nst g (Nst.set s117.wk hMv hBv hrv (i_x (b:=vb'))))⟩⟩;cases hdl:f.dflt with
   | nil=>
    rw [hdl] at hdf;rw [show qd=none from hdf] at hsd;cases hsd
   | cons dv rest=>
    rw [hdl] at hdf;obtain ⟨dvb,rfl,hpdv⟩:=hdf;obtain ⟨kd,rd,Ad,Ld,Cd,posd,hMdv,hBdv⟩:=hpdv.blk;exact ⟨adr fb,rfl,_,s117.wk.nd hMf hBf (j:=3) rfl rfl,adr dvb,rfl,kd,s117.wk.nd hMdv hBdv (j:=2) rfl rfl,adr vb',rfl,s117.wk.off hMv hBv (j:=8) (n:=1) (by simp),trivial,trivial,key100 _ (n117.nst g (Nst.set s117.wk hMv hBv hrv (i_x (b:=vb'))))⟩
 intro K130 hK130;refine ⟨adr vb,rfl,k,hw.wk.nd hM hB (j:=2) rfl rfl,fun hk00=>?_,fun hk0=>hK130 false w ⟨nofun,fun _=>key3 w (Wr.refl hd) ⟨fun r' ks' x' e=>(by
  simp only [Ev.val.injEq,Val.mk.injEq] at e;rw [e.1.1] at hk0;simp at hk0),fun r' ks' x' e=>(by cases e;simp at hk0)⟩⟩⟩
 have hco:=hw.co;refine ⟨adr c.wb,rfl,o.co,(hw.walker.at (j:=4) rfl).cell,hK130 _ w ⟨fun hb=>?_,fun hb=>key3 w (Wr.refl hd) (by
  have hno:∀ x',o.cx≠some x':=fun x' hx'=>by
   rw [hx'] at hco;obtain ⟨ob,h,-⟩:=hco;rw [h] at hb;cases hb
  exact ⟨fun r' ks' x' e=>absurd (by simp only [Ev.val.injEq] at e;exact e.2) (hno x'),fun r' ks' x' _ hx'=>absurd hx' (hno x')⟩)⟩⟩
 cases hcx:o.cx with
 | none=>
  rw [hcx] at hco;rw [show o.co=none from hco] at hb;cases hb
 | some x=>
  rw [hcx] at hco;obtain ⟨ob,hco,hpo,hoi⟩:=hco;intro w133 e133;have n133:=(Wr.refl hd).drew (r:=R) g e133;have s133:=n133.st;obtain ⟨A1,L1,C1,A2,L2,C2,A4,L4,C4,poso,hMo,hBo,hvars,-⟩:=hpo;refine ⟨adr c.wb,rfl,_,(s133.walker.at (j:=4) rfl).cell,adr ob,hco,A1,L1,C1,s133.wk.nd hMo hBo (j:=3) rfl rfl,adr vb,rfl,r,s133.wk.nd hM hB (j:=0) rfl rfl,?_⟩;refine (b_g s133.wk hvars).mono ?_;rintro _ _ ⟨q142,rfl,rfl,hq,hqv⟩;have hva:∀ vb,q142=some (adr vb)->VarAt c.w0 ob vb:=fun vb e=>by
   obtain ⟨pp,j,rfl,hj,ha,-⟩:=hqv vb e;exact ⟨pp,L1,C1,j,hBo.at (j:=3) rfl,hj,ha⟩
  have gq:GVar c q142:=by
   cases hf:a_h VarD.name x.vars r with
   | none=>rw [hf] at hq;exact .inl hq
   | some vd=>
    rw [hf] at hq;obtain ⟨bb,rfl,hpv⟩:=hq;exact .inr ⟨bb,vd,rfl,hpv⟩
  have n144:=n133.nst g (Nst.set s133.wk hM hB hrb (o_o (b:=vb) gq));have s144:=n144.st;have hat:=s133.wk.setat hM hB (j:=6) (v:=.pointer q142) (by simp);have vx:∀ w',At w' 200 ⟨vb,6,none⟩ (.pointer q142)->(∀ db,q142=some (adr db)->At w' 264 ⟨db,8,none⟩ (.bool true))->VX w':=fun w' h h8=>⟨fun r' ks' x' e ob' hob' y hy=>by
   simp only [Ev.val.injEq,Val.mk.injEq] at e;obtain ⟨⟨-, rfl,-⟩,e2⟩:=e;obtain rfl:x=x':=Option.some.inj (hcx.symm.trans e2);rw [hco] at hob';obtain rfl:ob=ob':=congrArg Addr.block (Option.some.inj hob');rw [hy] at hq;obtain ⟨db,rfl,hpd⟩:=hq;obtain ⟨pp,j,rfl,hj,ha,z,hz,hzn⟩:=hqv db rfl;have hMd:c.M db:=by
    obtain ⟨_,_,_,_,_,_,hMd,-⟩:=hpd;exact hMd
   exact ⟨pp,L1,C1,j,db,z,hBo.at (j:=3) rfl,hz,hzn,ha,hMd,h8 db rfl⟩,fun r' ks' x' e hx'=>by
   cases e;obtain rfl:x=x':=Option.some.inj (hcx.symm.trans hx');exact ⟨q142,h.cell,hq,fun db e=>⟨(h8 db e).cell,ob,hoi,hva db e⟩⟩⟩
  refine ⟨q142,rfl,trivial,trivial,adr vb,rfl,s133.wk.off hM hB (j:=6) (n:=1) (by simp),trivial,trivial,?_⟩;have hcell:=hat.cell;refine ⟨adr vb,rfl,q142,hcell,fun hs=>?_,fun hs=>key3 _ n144 (vx _ hat fun db e=>by rw [e] at hs;cases hs)⟩;rcases gq with rfl|⟨db,d,rfl,hpd⟩
  ·cases hs
  have h0:=g.rk.q _ _ hpd;have hk0:k=0:=by simpa using hk00
  have huse:∀ y,PVar c.M c.w0 y db->∃ o ob,OpIn c o ob/\VarAt c.w0 ob db/\UsedE c o y.name:=fun y hy=>by
   refine ⟨x,ob,hoi,hva db rfl,kids,?_⟩;have hn:y.name=r:=by
    cases hf:a_h VarD.name x.vars r with
    | none=>rw [hf] at hq;cases hq
    | some z=>
     rw [hf] at hq;obtain ⟨bb,e,hz⟩:=hq;cases e;obtain ⟨tb1,q1,A1',L1',C1',pos1,-, hB1,-⟩:=hy;obtain ⟨tb2,q2,A2',L2',C2',pos2,-, hB2,-⟩:=hz;have e:y.name=z.name:=by simpa using (hB1.at (j:=1) rfl).cell.symm.trans (hB2.at (j:=1) rfl).cell
     rw [e];exact (a_U hf).2
   rw [hn];refine hd.dl x hcx _ ?_;have:=hall (.val (.mk k r kids) o.cx) (by simp);rw [hk0,hcx] at this;exact this
  obtain ⟨tb,qd,A6,L6,C6,pos6,hMd,hBd,-⟩:=hpd;have h8:=s144.wk.setat hMd hBd (j:=8) (v:=.bool true) (by simp);exact ⟨adr vb,rfl,_,hcell,adr db,rfl,s144.wk.off hMd hBd (j:=8) (n:=1) (by simp),trivial,key3 _ (n144.nst g (Nst.set s144.wk hMd hBd (by rw [h0];exact hR0) (u_u huse))) (vx _ (Lim.cell (r:=c.rank vb) (Lim.set (by rw [h0,g.rk.v _ _ hp,rkV];omega)) hM (Nat.le_refl _) hat) fun db' e=>by cases e;exact h8)⟩
theorem d_5 {c:WCtx}(g:Good c):∀ (x:Val),WV c x
 | .mk k r kids=>f_u g k r kids fun x hx=>by
  have:SizeOf.sizeOf x.2<1+SizeOf.sizeOf k+SizeOf.sizeOf r+SizeOf.sizeOf kids:=by
   have h1:=List.sizeOf_lt_of_mem hx;cases x;simp at h1 ⊢;omega
  exact d_5 g x.2
 termination_by x=>SizeOf.sizeOf x
theorem d_R {c:WCtx}(g:Good c){o:OC}{vs:List BA}{l:List Ev}{w:World}{ad:OA}{x:Argm}{ab:Nat}(dw:Wd c o vs l w)(hall:∀ e∈evV o.cx x.v,o.D e)
  (hd:ad=none∨∃ db d,ad=some (adr db)/\b_u c.M c.w0 d db/\a_s d) (ha:PArg c.M c.w0 x ab):
  CP 218 #[.pointer (some (adr c.wb)),.pointer ad,.pointer (some (adr ab))] w fun e w'=>e=.returned (.tuple #[])/\Wr c o (rkV x.v+1) vs l w (evV o.cx x.v) w':=by
 have hw:=dw.st;obtain ⟨vb,pos,hM,hB,hv⟩:=ha;obtain ⟨k,r,A,L,C,posv,hMv,hBv⟩:=hv.blk;have hrv:c.rank vb<rkV x.v+1:=by rw [g.rk.v _ _ hv];omega
 have hRR:=Nat.le_refl (rkV x.v+1);generalize hR:rkV x.v+1=R at hrv ⊢;rw [hR] at hRR;refine c_n (some (adr c.wb)) ad (some (adr ab)) w _ fun K4 hK4=>?_;have key4:∀ w5,Wr c o R vs l w [] w5->K4 w5:=by
  intro w5 n5;have s5:=n5.st;refine hK4 w5 ⟨adr ab,rfl,_,s5.wk.nd hM hB (j:=1) rfl rfl,(n5.then (r2:=rkV x.v+1) (by omega) fun vs' l' d' _=>d_5 g x.v vb w5 o vs' l' d' hv hall).mono ?_⟩;rintro _ w9 ⟨rfl,n9,-⟩;exact ⟨rfl,trivial,rfl,n9⟩
 refine ⟨fun hs=>?_,fun _=>key4 w (Wr.refl dw)⟩;rcases hd with rfl|⟨db,d,rfl,hpd,hok⟩
 ·cases hs
 obtain ⟨qd,tb,A6,L6,C6,pos6,hMd,hBd,hdf,hty,-⟩:=hpd;intro w10 e10;have n10:=(Wr.refl dw).drew (r:=R) g e10;have s10:=n10.st;refine ⟨adr ab,rfl,_,s10.wk.nd hM hB (j:=1) rfl rfl,adr db,rfl,_,s10.wk.nd hMd hBd (j:=3) rfl rfl,adr vb,rfl,s10.wk.off hMv hBv (j:=7) (n:=1) (by simp),trivial,trivial,fun K17 hK17=>?_⟩;have n16:=n10.nst g (Nst.set s10.wk hMv hBv hrv (i_w (b:=vb) (.inr ⟨tb,d.t,rfl,hty⟩)));have key17:∀ w',Wr c o R vs l w [] w'->K17 w':=by
  intro w' n';refine hK17 w' fun w19 e19=>?_;have n19:=n'.drew g e19;have s19:=n19.st;obtain ⟨z1,z2,z3,z4⟩:=s19.sch g;refine ⟨adr ab,rfl,_,s19.wk.nd hM hB (j:=1) rfl rfl,adr c.wb,rfl,_,z1,adr c.sb,rfl,_,z2,adr db,rfl,_,s19.wk.nd hMd hBd (j:=3) rfl rfl,?_⟩;refine (a_I d.t tb w19 s19.wk hty hok.1).mono ?_;rintro _ _ ⟨rfl,rfl⟩;obtain ⟨q31,r31,o31⟩:=z4 (a_w d.t);have g31:=GDef.of g o31;exact ⟨_,rfl,trivial,by simp,q31,r31,adr vb,rfl,s19.wk.off hMv hBv (j:=5) (n:=1) (by simp),trivial,trivial,key4 _ (n19.nst g (Nst.set s19.wk hMv hBv hrv (i_v (b:=vb) g31)))⟩
 intro w34 e34;have n34:=n16.drew g e34;have s34:=n34.st;refine ⟨adr ab,rfl,_,s34.wk.nd hM hB (j:=1) rfl rfl,adr db,rfl,qd,s34.wk.nd hMd hBd (j:=2) rfl rfl,fun hsd=>?_,fun _=>⟨adr vb,rfl,s34.wk.off hMv hBv (j:=8) (n:=1) (by simp),trivial,trivial,key17 _ (n34.nst g (Nst.set s34.wk hMv hBv hrv (i_x (b:=vb))))⟩⟩;cases hdl:d.dflt with
 | nil=>
  rw [hdl] at hdf;rw [show qd=none from hdf] at hsd;cases hsd
 | cons dv rest=>
  rw [hdl] at hdf;obtain ⟨dvb,rfl,hpdv⟩:=hdf;obtain ⟨kd,rd,Ad,Ld,Cd,posd,hMdv,hBdv⟩:=hpdv.blk;exact ⟨adr db,rfl,_,s34.wk.nd hMd hBd (j:=2) rfl rfl,adr dvb,rfl,kd,s34.wk.nd hMdv hBdv (j:=2) rfl rfl,adr vb,rfl,s34.wk.off hMv hBv (j:=8) (n:=1) (by simp),trivial,trivial,key17 _ (n34.nst g (Nst.set s34.wk hMv hBv hrv (i_x (b:=vb))))⟩
theorem i_2 {c:WCtx}{xs:List ArgDef}(hok:∀ y∈xs,a_s y)(h:OptQ (b_u c.M c.w0) (a_h ArgDef.name xs n) q):q=none∨∃ db d,q=some (adr db)/\b_u c.M c.w0 d db/\a_s d:=by
 cases hf:a_h ArgDef.name xs n with
 | none=>rw [hf] at h;exact .inl h
 | some d=>
  rw [hf] at h;obtain ⟨b,rfl,hp⟩:=h;exact .inr ⟨b,d,rfl,hp,hok d (a_U hf).1⟩
theorem dlook {c:WCtx}{w1:World}{N:Nat}{dm:List (BA × Value)}(h:SMap w1 N dm){P:DirDef->Nat->Prop}{dirs:List DirDef}(hn:NMap DirDef.name P dirs dm)(u:BA):∃ q,(Instr.lookup 227 (.map (some N)) (.string u) false).run Tryz.prog w1=.ok (.pointer q) w1/\OptQ P (lastN DirDef.name dirs u) q:=by
 obtain ⟨q,hq,ho⟩:=hn.look u;refine ⟨q,?_,ho⟩;have:=a_W (t:=227) (kt:=9) (e:=292) (u:=u) (i:=Tryz.t292) (by kernel_rfl) (by kernel_rfl) (by kernel_rfl) rfl h false;rw [this];show Result.ok ((mget dm u).getD (.pointer none)) w1=_;rw [hq]
theorem c_t {β:Type}(f:α->List β){x:α}(h0:0<=i)(hx:xs[i.toNat]? =some x):(xs.take (i+1).toNat).flatMap f=(xs.take i.toNat).flatMap f++f x:=by
 rw [show (i+1).toNat=i.toNat+1 by omega,List.take_add_one,hx,List.flatMap_append];simp
theorem i_K {a:Argm}:∀ {l:List Argm},a∈l->rkV a.v<=rkAs l
 | y::l,h=>by
  simp only [rkAs];rcases mc_.1 h with rfl|h
  ·omega
  ·have:=i_K h;omega
theorem l_f {d:Dir}:∀ {l:List Dir},d∈l->rkD d<=rkDs l
 | y::l,h=>by
  simp only [rkDs];rcases mc_.1 h with rfl|h
  ·omega
  ·have:=l_f h;omega
def DNo (c:WCtx)(w:World)(x:Dir)(db:Nat):Prop:=∃ q,At w 350 ⟨db,4,none⟩ (.pointer q)/\OptQ (a_Q c.M c.w0) (lastN DirDef.name c.dirs x.name) q
theorem DNo.wk {c:WCtx}{w w':World}{db:Nat}(h:DNo c w x db)(hp:PDir c.M c.w0 x db)(hwk:Wk c w w'):DNo c w' x db:=by
 obtain ⟨q,ha,hq⟩:=h;have hM:c.M db:=by
  obtain ⟨_,_,_,_,hM,-⟩:=hp;exact hM
 obtain ⟨v',h1,rfl|h2⟩:=hwk.note (a:=⟨db,4,none⟩) hM ha
 ·exact ⟨q,h1,hq⟩
 ·obtain ⟨q',rfl,hq'⟩:=h2.2.2.2.2.2.2.2.1 ⟨rfl,rfl⟩;exact ⟨q',h1,hq' x hp⟩
def DNs (c:WCtx)(A:OA)(xs:List Dir)(k:Nat)(w:World):Prop:=∀ (j:Nat) x,j<k->xs[j]? =some x->∃ p db,A=some p/\c.M p.block/\At c.w0 266 (p.add j) (.pointer (some (adr db)))/\PDir c.M c.w0 x db/\DNo c w x db
theorem DNs.wk {c:WCtx}{xs:List Dir}{k:Nat}{w w':World}(h:DNs c A xs k w)(hwk:Wk c w w'):DNs c A xs k w':=fun j x hj hx=>by
 obtain ⟨p,db,h1,h2,h3,h4,h5⟩:=h j x hj hx;exact ⟨p,db,h1,h2,h3,h4,h5.wk h4 hwk⟩
theorem a_D {c:WCtx}(g:Good c){o:OC}{vs:List BA}{l:List Ev}{w:World}{pd:OA}{L:Nat}{xs:List Dir}{loc:BA}(dw:Wd c o vs l w)
  (hx:PDirs c.M c.w0 A L C xs) (hall:∀ e∈evDs o.cx loc xs,o.D e):
  CP 207 #[.pointer (some (adr c.wb)),.pointer pd,.slice A L C,.string loc] w fun e w'=>e=.returned (.tuple #[])/\Wr c o (rkDs xs+1) vs l w (evDs o.cx loc xs) w':=by
 have hl2:=hx.2.2.1;have hl0:=hx.1;have hrk:∀ x∈xs,rkD x<rkDs xs+1:=fun x hx=>by
  have:=l_f hx;omega
 generalize rkDs xs+1=R at *;refine b_8 (some (adr c.wb)) pd A L C loc w _ ⟨fun i w1=>0<=i/\i<=L/\Wr c o R vs l w ((xs.take i.toNat).flatMap fun d=>b_B o.cx d.args++[.dir d loc]) w1/\DNs c A xs i.toNat w1,fun i _=>((L:Int)-i).toNat,⟨by omega,by omega,by simpa using Wr.refl dw,fun j x hj _=>by simp at hj⟩,?_⟩;rintro i w8 ⟨h0,hi,n8,dn8⟩;have s8:=n8.st;refine ⟨fun hlt=>?_,fun hge=>?_⟩
 ·have hlt:=odt hlt;obtain ⟨x,hxx⟩:∃ x,xs[i.toNat]? =some x:=⟨_,List.getElem?_eq_getElem (by omega)⟩;obtain ⟨p,v,hpp,hMp,hat,db,rfl,hpx⟩:=hx.2.2.2 i.toNat x hxx;have hpx':=hpx;obtain ⟨A2,L2,C2,pos,hM,hB,hargs,-⟩:=hpx';have hL2:=hargs.2.2.1;have hL20:=hargs.1;have hmem:=mg_ hxx;have hrd:=g.rk.d _ _ hpx;have hrx:=hrk x hmem;have hrb:c.rank db<R:=by omega
  refine ⟨p,hpp,⟨h0,hlt⟩,_,by rw [Nat.mul_one];exact (s8.wk.at (by rw [b_x];exact hMp) hat rfl).cell,fun w11 e11=>?_⟩;have n11:=n8.drew g e11;have dn11:=dn8.wk (w':=w11) ((Nst.refl c 0 w8).drew e11).wk;have s11:=n11.st;obtain ⟨z1,z2,z3,z4⟩:=s11.sch g;obtain ⟨q18,r18,o18⟩:=dlook (c:=c) (s11.wk.smap g.m2.1 g.m2.2.1) g.m2.2.2 x.name;have m20:=Nst.set (r:=R) (v:=.pointer q18) s11.wk hM hB hrb (o_m hpx o18);have a20:=s11.wk.setat hM hB (j:=4) (v:=.pointer q18) (by simp);have n20:=n11.nst g m20;have s20:=n20.st;have m22:=Nst.set (r:=R) (v:=.pointer pd) s20.wk hM hB hrb (b_Q (T:=350) (j:=3) rfl (by decide) (by decide) (by decide) (by decide) (by decide) (by decide));have n22:=n20.nst g m22;have s22:=n22.st;have m24:=Nst.set (r:=R) (v:=.string loc) s22.wk hM hB hrb (b_Q (T:=350) (j:=5) rfl (by decide) (by decide) (by decide) (by decide) (by decide) (by decide));have a24:=s22.wk.setat hM hB (j:=5) (v:=.string loc) (by simp);have n24:=n22.nst g m24;have s24:=n24.st;have wk24:Wk c w11 _:=m20.wk.trans (m22.wk.trans m24.wk);have d24:DNo c _ x db:=DNo.wk ⟨q18,a20,o18⟩ hpx (m22.wk.trans m24.wk);have dn24:=dn11.wk wk24;refine ⟨adr c.wb,rfl,_,z1,adr c.sb,rfl,_,z3,adr db,rfl,_,s11.wk.nd hM hB (j:=0) rfl rfl,q18,r18,trivial,adr db,rfl,s11.wk.off hM hB (j:=4) (n:=1) (by simp),trivial,adr db,rfl,s20.wk.off hM hB (j:=3) (n:=1) (by simp),trivial,adr db,rfl,s22.wk.off hM hB (j:=5) (n:=1) (by simp),trivial,adr db,rfl,A2,L2,C2,s24.wk.nd hM hB (j:=1) rfl rfl,?_⟩;generalize hw24:(((w11.setCell ((adr db).add 4) (.pointer q18)).setCell ((adr db).add 3) (.pointer pd)).setCell ((adr db).add 5) (.string loc))=w24;replace n24:Wr c o R vs l w ((xs.take i.toNat).flatMap fun d=>b_B o.cx d.args++[.dir d loc]) w24:=by rw [<- hw24];exact n24
  replace a24:At w24 350 ⟨db,5,none⟩ (.string loc):=by rw [<- hw24];exact a24
  replace d24:DNo c w24 x db:=by rw [<- hw24];exact d24
  replace dn24:DNs c A xs i.toNat w24:=by rw [<- hw24];exact dn24
  clear hw24 wk24 m24 m22 a20 m20 n20 n22 s20 s22 s24;obtain ⟨vs1,es1,h24⟩:=n24;refine ⟨fun j w1=>0<=j/\j<=L2/\Wr c o (rkD x) vs1 (l++es1) w24 (b_B o.cx (x.args.take j.toNat)) w1,fun j _=>((L2:Int)-j).toNat,⟨by omega,by omega,by simpa [b_B] using Wr.refl h24.wd⟩,?_⟩;rintro j w30 ⟨k0,kj,n30⟩;have s30:=n30.st;refine ⟨fun klt=>?_,fun kge=>?_⟩
  ·have klt:=odt klt;obtain ⟨p2,x2,v2,hpp2,hxx2,hc2,ab,rfl,harg⟩:=hargs.wget s30.wk (fun _=>rfl) k0 klt;have hmem2:=mg_ hxx2;have hrk2:rkV x2.v+1<=rkD x:=by
    have:=i_K hmem2;simp only [rkD];omega
   refine ⟨p2,hpp2,⟨k0,klt⟩,_,hc2,fun K33 hK33=>?_⟩;have key33:∀ q w',Wr c o (rkD x) vs1 (l++es1) w24 (b_B o.cx (x.args.take j.toNat)) w'->(q=none∨∃ db d,q=some (adr db)/\b_u c.M c.w0 d db/\a_s d)->K33 q w':=by
    intro q w' n' hq;refine hK33 q w' ((n'.then hrk2 fun vs' l' d' _=>d_R g d' (fun e he=>hall e ?_) hq harg).mono ?_)
    ·exact ma_.2 (.inl (mf_.2 ⟨x,hmem,ma_.2 (.inl (mf_.2 ⟨x2,hmem2,he⟩))⟩))
    rintro _ w2 ⟨rfl,n2,-⟩;refine ⟨rfl,trivial,?_⟩;rw [a_a k0 (by omega)];refine next k0 klt ?_
    rw [b_B,c_t _ k0 hxx2];exact n2
   refine ⟨fun hs=>?_,fun _=>key33 none w30 n30 (.inl rfl)⟩;cases hl:lastN DirDef.name c.dirs x.name with
   | none=>
    rw [hl] at o18;rw [show q18=none from o18] at hs;cases hs
   | some dd=>
    rw [hl] at o18;obtain ⟨ddb,rfl,A1,L1,C1,A3,L3,C3,pos3,hMd,hBd,hads,-⟩:=o18;intro w38 e38;have n38:=n30.drew g e38;have s38:=n38.st;have harg':=harg;obtain ⟨vb2,pos2,hMa,hBa,-⟩:=harg';refine ⟨adr ddb,rfl,A1,L1,C1,s38.wk.nd hMd hBd (j:=2) rfl rfl,adr ab,rfl,_,s38.wk.nd hMa hBa (j:=0) rfl rfl,?_⟩;refine (a_H s38.wk hads).mono ?_;rintro _ _ ⟨q45,rfl,rfl,hq45⟩;exact ⟨q45,rfl,trivial,trivial,trivial,key33 q45 _ n38 (i_2 (g.okd dd (g_m hl)) hq45)⟩
  ·have kle:=odf kge;rw [show x.args.take j.toNat=x.args from tl_ (by omega)] at n30;obtain ⟨vs2,es2,k30⟩:=n30;have a30:=k30.stp.lim.cell hM (by omega) a24;obtain ⟨qd,ad,od⟩:=d24.wk hpx k30.stp.wk;have dn30:=dn24.wk k30.stp.wk;have n31:Wr c o R vs l w (((xs.take i.toNat).flatMap fun d=>b_B o.cx d.args++[.dir d loc])++b_B o.cx x.args) w30:=⟨vs2,_,h24.then (by omega) k30⟩;obtain ⟨y1,y2⟩:=n31.events 5 rfl;refine ⟨adr c.wb,rfl,_,y1,adr c.eb,rfl,_,_,_,y2,?_⟩;refine n31.visit g (ev:=.dir x loc) (j:=5) rfl (by decide) ⟨db,qd,rfl,hpx,ad.cell,od,a30.cell⟩ (hall _ (ma_.2 (.inl (mf_.2 ⟨x,hmem,by simp⟩)))) (fun _ _ _ e=>by cases e) fun w2 h2 k2=>?_;rw [a_a h0 (by omega)];refine next h0 hlt ⟨?_,fun j y hj hy=>?_⟩
   ·rw [c_t _ h0 hxx,<- List.append_assoc];exact h2
   ·by_cases hji:j<i.toNat
    ·exact dn30.wk k2 j y hji hy
    ·obtain rfl:j=i.toNat:=by omega
     obtain rfl:x=y:=Option.some.inj (hxx.symm.trans hy);exact ⟨p,db,hpp,hMp,hat,hpx,DNo.wk ⟨qd,ad,od⟩ hpx k2⟩
 ·have hle:=odf hge;rw [tl_ (by omega)] at n8;obtain ⟨y1,y2⟩:=n8.events 6 rfl;refine ⟨adr c.wb,rfl,_,y1,adr c.eb,rfl,_,_,_,y2,?_⟩;refine n8.visit g (ev:=.dirs xs) (j:=6) rfl (by decide) ⟨A,L,C,rfl,hx,fun j y hy=>?_⟩ (hall _ (by simp [evDs])) (fun _ _ _ e=>by cases e) fun w2 h2 _=>⟨rfl,h2⟩;have hj:=(List.getElem?_eq_some_iff.1 hy).1;obtain ⟨p,db,h1,h2,h3,h4,q,h5,h6⟩:=dn8 j y (by omega) hy;exact ⟨p,db,q,h1,h2,h3,h4,h5.cell,h6⟩
end Go.VC
