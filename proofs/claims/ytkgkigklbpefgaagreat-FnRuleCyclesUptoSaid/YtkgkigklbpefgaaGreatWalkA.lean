/- Part of the proof of a law of a rule over documents (WalkA), where what the arguments hold is of bulk at most 1048576. -/
import Derived.Test.YtkgkigklbpefgaaGreatMakeC
import Derived.Test.YtkgkigklbpefgaaGreatTextE
set_option linter.unusedVariables false
set_option linter.unusedSimpArgs false
set_option linter.unusedSectionVars false
namespace Go.VC
open Go Go.Proofs
variable [DB]
variable {a:Addr}{name:BA}{f:Frag}{i:Int}{evs:List Value}{C j vm:Nat}{S X:Nat->Prop}{A co q:OA}{T:TypeId}{x:VarD}
def e_0 (T:TypeId)(j:Nat):Bool:=
 (T==245&&(j==5||j==6||j==7||j==8))||(T==280&&(j==7||j==8))||(T==231&&(j==2||j==3))||(T==225&&j==3)||
 (T==179&&(j==3||j==4||j==5))||(T==254&&(j==7||j==8))||(T==235&&j==6)
inductive Ev where
 | op (o:OpD)|frag (f:Frag)|spread (n:BA) (found:Bool)|fld (s:Sel)|inl (s:Sel)|dir (d:Dir) (loc:BA)|dirs (l:List Dir)|val (v:Val)|var (v:VarD)
def slot:Ev->Nat
 | .op _=>0
 | .fld _=>1
 | .frag _=>2
 | .inl _=>3
 | .spread _ _=>4
 | .dir _ _=>5
 | .dirs _=>6
 | .val _=>7
 | .var _=>8
def a_w:Typ->BA
 | .mk n [] _=>n
 | .mk _ (t::_) _=>a_w t
def spEv (frags:List Frag)(n:BA):Ev:=.spread n (frags.find? fun f=>decide (f.name=n)).isSome
mutual
def evV:Val->List Ev
 | .mk k r kids=>(if k=9 then a_L kids else [])++((if k=8 then a_L kids else [])++[.val (.mk k r kids)])
def a_L:List (BA × Val)->List Ev
 | []=>[]
 | x::l=>evV x.2++a_L l
end
def b_B (l:List Argm):List Ev:=l.flatMap fun a=>evV a.v
def evDs (loc:BA)(l:List Dir):List Ev:=(l.flatMap fun d=>b_B d.args++[.dir d loc])++[.dirs l]
mutual
def evS (frags:List Frag):Sel->List Ev
 | .mk k al n on args dirs kids=>
  if k=0 then b_B args++(evDs l_1 dirs++(evL frags kids++[.fld (.mk k al n on args dirs kids)]))
  else if k=1 then evDs h_9 dirs++[spEv frags n]
  else evDs j_0 dirs++(evL frags kids++[.inl (.mk k al n on args dirs kids)])
def evL (frags:List Frag):List Sel->List Ev
 | []=>[]
 | s::l=>evS frags s++evL frags l
end
def evDef (l:List Val):List Ev:=match l with
 | []=>[]
 | v::_=>evV v
def f_j (l:List VarD):List Ev:=l.map .var++l.flatMap fun v=>evDef v.dflt++evDs d_Y v.dirs
def evFr (frags:List Frag)(f:Frag):List Ev:=evDs d_z f.dirs++(evL frags f.kids++[.frag f])
def evOp (frags:List Frag)(o:OpD):List Ev:=f_j o.vars++(evDs (opLoc o.kind) o.dirs++(evL frags o.kids++[.op o]))
structure WCtx where
 M:Nat->Prop
 V:Nat->Prop
 w0:World
 wb:Nat
 eb:Nat
 sb:Nat
 qb:Nat
 fm:Nat
 m1:Nat
 m2:Nat
 tm:List (BA × Value)
 dm:List (BA × Value)
 fl:List (BA × Value)
 types:List Def
 dirs:List DirDef
 ops:List OpD
 frags:List Frag
 rq:BA
 rm:BA
 rs:BA
 St:List Ev->World->Prop
def b_3 (c:WCtx)(b:Nat)(T:TypeId)(j:Nat)(v:Value):Prop:=
 e_0 T j=true/\(T=245/\j=5->∃ q,v=.pointer q/\(q=none∨∃ db d,q=some (adr db)/\PDef c.M c.w0 d db/\okDef d))/\
 (T=245/\j=6->∃ q,v=.pointer q/\(q=none∨∃ db d,q=some (adr db)/\PVar c.M c.w0 d db))/\
 (T=245/\j=7->∃ q,v=.pointer q/\(q=none∨∃ tb t,q=some (adr tb)/\PTyp c.M c.w0 t tb))/\
 (T=254/\j=7->∃ q,v=.pointer q/\∀ x,PVar c.M c.w0 x b->OptQ (PDef c.M c.w0) (lastN Def.name c.types (a_w x.t)) q)/\
 (T=231/\j=3->∃ q,v=.pointer q/\∀ (n:BA) (cs:List Value),Blk c.w0 b 231 (.string n::cs)->OptQ (PFrag c.M c.w0) (a_h Frag.name c.frags n) q)/\
 (T=235/\j=6->∃ q,v=.pointer q/\∀ x,PFrag c.M c.w0 x b->OptQ (PDef c.M c.w0) (lastN Def.name c.types x.on) q)
structure Wk (c:WCtx) (w w':World):Prop where
 cells:∀ b cs T fr,c.M b->objAt w b=some (.cells cs T fr)->∃ cs',objAt w' b=some (.cells cs' T fr)/\cs'.size=cs.size/\∀ j v,cs'[j]? =some v->cs[j]? =some v∨b_3 c b T j v
 maps:∀ b es n,c.M b->objAt w b=some (.map es n)->objAt w' b=some (.map es n)
theorem Wk.refl (c:WCtx)(w:World):Wk c w w:=⟨fun b cs T fr _ h=>⟨cs,h,rfl,fun j v hj=>.inl hj⟩,fun _ _ _ _ h=>h⟩
theorem Wk.trans {c:WCtx}{w w' w'':World}(h:Wk c w w')(k:Wk c w' w''):Wk c w w'':=by
 refine ⟨fun b cs T fr hM ho=>?_,fun b es n hM ho=>k.maps b es n hM (h.maps b es n hM ho)⟩;obtain ⟨cs',h1,h2,h3⟩:=h.cells b cs T fr hM ho;obtain ⟨cs'',k1,k2,k3⟩:=k.cells b cs' T fr hM h1;refine ⟨cs'',k1,k2.trans h2,fun j v hj=>?_⟩;rcases k3 j v hj with hj|hj
 ·exact h3 j v hj
 ·exact .inr hj
theorem Wk.ofExt {c:WCtx}{w w':World}(h:Ext X w w')(hX:∀ b,c.M b->¬ X b):Wk c w w':=
 ⟨fun b cs T fr hM ho=>⟨cs,h.old b _ (hX b hM) ho,rfl,fun j v hj=>.inl hj⟩,fun b es n hM ho=>h.old b _ (hX b hM) ho⟩
theorem Wk.at {c:WCtx}{w w':World}(h:Wk c w w'){v:Value}(hM:c.M a.block)(ha:At w T a v)(hn:e_0 T a.off=false):At w' T a v:=by
 obtain ⟨cs,fr,h1,h2,h3⟩:=ha;obtain ⟨cs',k1,k2,k3⟩:=h.cells _ _ _ _ hM h1;have hlt:a.off<cs'.size:=by
  rw [k2];rcases Nat.lt_or_ge a.off cs.size with hh|hh
  ·exact hh
  ·rw [Array.getElem?_eq_none hh] at h3;cases h3
 refine ⟨cs',fr,k1,h2,?_⟩;rcases k3 a.off cs'[a.off] (Array.getElem?_eq_getElem hlt) with hj|hj
 ·rw [Array.getElem?_eq_getElem hlt,<- h3];exact hj.symm
 ·rw [hj.1] at hn;cases hn
theorem Wk.note {c:WCtx}{w w':World}(h:Wk c w w'){v:Value}(hM:c.M a.block)(ha:At w T a v):∃ v',At w' T a v'/\(v'=v∨b_3 c a.block T a.off v'):=by
 obtain ⟨cs,fr,h1,h2,h3⟩:=ha;obtain ⟨cs',k1,k2,k3⟩:=h.cells _ _ _ _ hM h1;have hlt:a.off<cs'.size:=by
  rw [k2];rcases Nat.lt_or_ge a.off cs.size with hh|hh
  ·exact hh
  ·rw [Array.getElem?_eq_none hh] at h3;cases h3
 refine ⟨cs'[a.off],⟨cs',fr,k1,h2,Array.getElem?_eq_getElem hlt⟩,?_⟩;rcases k3 a.off cs'[a.off] (Array.getElem?_eq_getElem hlt) with hj|hj
 ·rw [h3] at hj;exact .inl (Option.some.inj hj).symm
 ·exact .inr hj
theorem Wk.smap {c:WCtx}{w w':World}(h:Wk c w w'){b:Nat}{m:List (BA × Value)}(hM:c.M b)(hm:SMap w b m):SMap w' b m:=by
 obtain ⟨ents,cl,h1,h2⟩:=hm;exact ⟨ents,cl,h.maps b _ _ hM h1,h2⟩
theorem Wk.set {c:WCtx}{w:World}{b:Nat}{cs:Array Value}{v:Value}(hb:objAt w b=some (.cells cs T (0,0)))(hok:b_3 c b T j v):Wk c w (w.setCell ⟨b,j,none⟩ v):=by
 refine ⟨fun b' cs' T' fr hM ho=>?_,fun b' es n hM ho=>?_⟩
 ·by_cases hbb:b'=b
  ·subst hbb;rw [ho] at hb;simp only [Option.some.injEq,Obj.cells.injEq] at hb;obtain ⟨rfl,rfl,rfl⟩:=hb;refine ⟨cs'.setIfInBounds j v,a_E (a:=⟨b',j,none⟩) ho rfl,by simp,fun i u hi=>?_⟩;rw [Array.getElem?_setIfInBounds] at hi;split at hi
   ·rename_i hji;subst hji;split at hi
    ·exact .inr (by rw [<- Option.some.inj hi];exact hok)
    ·cases hi
   ·exact .inl hi
  ·exact ⟨cs',by rw [b_o (a:=⟨b,j,none⟩) (Ne.symm hbb)];exact ho,rfl,fun i u hi=>.inl hi⟩
 ·have hbb:b'≠b:=fun e=>by
   subst e;rw [ho] at hb;cases hb
  rw [b_o (a:=⟨b,j,none⟩) (Ne.symm hbb)];exact ho
abbrev WX (c:WCtx)(vm:Nat):Nat->Prop:=fun b=>c.M b∨c.V b∨b=vm
structure Stp (c:WCtx) (vm:Nat) (w w':World):Prop where
 ext:Ext (WX c vm) w w'
 wk:Wk c w w'
theorem Stp.refl (c:WCtx)(vm:Nat)(w:World):Stp c vm w w:=⟨Ext.refl w,Wk.refl c w⟩
theorem Stp.trans {c:WCtx}{w w' w'':World}(h:Stp c vm w w')(k:Stp c vm w' w''):Stp c vm w w'':=⟨h.ext.trans k.ext fun _ _ h=>h,h.wk.trans k.wk⟩
structure Good (c:WCtx):Prop where
 mv:∀ b,c.M b->¬ c.V b
 lt:∀ b,c.M b->b<c.w0.heap.size
 vlt:∀ b,c.V b->b<c.w0.heap.size
 wb:¬ c.M c.wb/\¬ c.V c.wb
 eb:¬ c.M c.eb/\¬ c.V c.eb/\c.eb≠c.wb
 fm:¬ c.M c.fm/\¬ c.V c.fm/\c.fm≠c.wb
 sb:c.M c.sb
 qb:c.M c.qb
 m1:c.M c.m1/\SMap c.w0 c.m1 c.tm/\NMap Def.name (PDef c.M c.w0) c.types c.tm
 m2:c.M c.m2/\SMap c.w0 c.m2 c.dm/\NMap DirDef.name (a_Q c.M c.w0) c.dirs c.dm
 okt:∀ d∈c.types,okDef d
 okd:∀ d∈c.dirs,∀ y∈d.args,a_s y
 sch:∃ (q1 q2 q3:OA) (s:List Value),Blk c.w0 c.sb 218 (.pointer q1::.pointer q2::.pointer q3::.slice none 0 0::.map (some c.m1)::.map (some c.m2)::s)/\
  OptQ (PDef c.M c.w0) (lastN Def.name c.types c.rq) q1/\OptQ (PDef c.M c.w0) (lastN Def.name c.types c.rm) q2/\OptQ (PDef c.M c.w0) (lastN Def.name c.types c.rs) q3
 st:∀ l w w',c.St l w->Ext (fun b=>¬ c.V b) w w'->c.St l w'
structure Wst (c:WCtx) (co:OA) (vm:Nat) (evs:List Value) (w:World):Prop where
 wk:Wk c c.w0 w
 sz:c.w0.heap.size<=w.heap.size
 walker:Blk w c.wb 212 [.pointer (some (adr c.eb)),.pointer (some (adr c.sb)),.pointer (some (adr c.qb)),.map (some vm),.pointer co,.map (some c.fm)]
 events:Blk w c.eb 157 evs
 frags:SMap w c.fm c.fl/\∀ k,OptR (PFrag c.M c.w0) (a_h Frag.name c.frags k) (mget c.fl k)
 vm:vm≠c.wb/\vm≠c.eb/\vm≠c.fm/\¬ c.M vm/\¬ c.V vm
 co:co=none∨∃ ob o,co=some (adr ob)/\POp c.M c.w0 o ob
theorem Wst.step {c:WCtx}{w w':World}(g:Good c)(h:Wst c co vm evs w)(s:Stp c vm w w'):Wst c co vm evs w':=by
 have h1:¬ WX c vm c.wb:=fun e=>e.elim g.wb.1 fun e=>e.elim g.wb.2 fun e=>h.vm.1 e.symm;have h2:¬ WX c vm c.eb:=fun e=>e.elim g.eb.1 fun e=>e.elim g.eb.2.1 fun e=>h.vm.2.1 e.symm;have h3:¬ WX c vm c.fm:=fun e=>e.elim g.fm.1 fun e=>e.elim g.fm.2.1 fun e=>h.vm.2.2.1 e.symm;exact ⟨h.wk.trans s.wk,lt_ h.sz s.ext.size,h.walker.ext s.ext h1,h.events.ext s.ext h2,⟨h.frags.1.ext s.ext h3,h.frags.2⟩,h.vm,h.co⟩
theorem Wk.off {c:WCtx}{w:World}(hwk:Wk c c.w0 w){b:Nat}{cs:List Value}(hM:c.M b)(hB:Blk c.w0 b T cs){n:Nat}(hj:j+n<=cs.length):
  ∃ (cs:Array Value) (T:TypeId),objAt w b=some (.cells cs T (0,0))/\(none:Option Nat)=none/\j+n<=cs.size/\false=false:=by
 obtain ⟨cs',h1,h2,h3⟩:=hwk.cells _ _ _ _ hM hB;exact ⟨cs',T,h1,rfl,by rw [h2];simpa using hj,rfl⟩
theorem Wk.nd {c:WCtx}{w:World}(hwk:Wk c c.w0 w){b:Nat}{cs:List Value}(hM:c.M b)(hB:Blk c.w0 b T cs){v:Value}(hj:cs[j]? =some v)(hn:e_0 T j=false):w.cell? ⟨b,j,none⟩=some v:=
 (hwk.at (a:=⟨b,j,none⟩) hM (hB.at hj) hn).cell
theorem Wk.ndn {c:WCtx}{w:World}(hwk:Wk c c.w0 w){b:Nat}{cs:List Value}(hM:c.M b)(hB:Blk c.w0 b T cs){v:Value}(hj:cs[j]? =some v):∃ v',w.cell? ⟨b,j,none⟩=some v'/\(v'=v∨b_3 c b T j v'):=by
 obtain ⟨v',h1,h2⟩:=hwk.note (a:=⟨b,j,none⟩) hM (hB.at hj);exact ⟨v',h1.cell,h2⟩
theorem PSl.wget {α:Type}{c:WCtx}{w:World}(hwk:Wk c c.w0 w){P:α->Value->Prop}{L:Nat}{xs:List α}(h:PSl c.M c.w0 T P A L C xs)(hn:∀ j,e_0 T j=false)(h0:0<=i)(hi:i<(L:Int)):
  ∃ (p:Addr) (x:α) (v:Value),A=some p/\xs[i.toNat]? =some x/\w.cell? (p.add (i.toNat*1))=some v/\P x v:=by
 obtain ⟨p,x,v,h1,h2,h3,h4,h5⟩:=h.get h0 hi;exact ⟨p,x,v,h1,h2,(hwk.at (by rw [b_x];exact h3) h4 (hn _)).cell,h5⟩
theorem a_I {c:WCtx}:∀ (t:Typ) (b:Nat) (w:World),Wk c c.w0 w->PTyp c.M c.w0 t b->okTyp t->CP 205 #[.pointer (some (adr b))] w fun e w'=>e=.returned (.string (a_w t))/\w'=w
 | .mk n [] nn,b,w,hwk,hp,hok=>by
  simp only [PTyp] at hp;obtain ⟨q,pos,hM,hB,-⟩:=hp;have hn:n≠E0:=by simpa [okTyp] using hok
  have c0:=hwk.nd hM hB (j:=0) rfl rfl;refine b_H (some (adr b)) w _ ⟨adr b,rfl,n,c0,fun _=>⟨adr b,rfl,n,c0,rfl,rfl⟩,fun h=>?_⟩;exact absurd (b_2 h) hn
 | .mk n (t::l) nn,b,w,hwk,hp,hok=>by
  simp only [PTyp,PTypE] at hp;obtain ⟨q,pos,hM,hB,eb,rfl,ht⟩:=hp;have hl:l=[]/\n=E0/\okTyp t:=by
   cases l with
   | nil=>exact ⟨rfl,by simpa [okTyp] using hok⟩
   | cons y l=>exact absurd hok (by simp [okTyp])
  obtain ⟨rfl,rfl,hot⟩:=hl;have c0:=hwk.nd hM hB (j:=0) rfl rfl;refine b_H (some (adr b)) w _ ⟨adr b,rfl,E0,c0,fun h=>?_,fun _=>⟨adr b,rfl,_,hwk.nd hM hB (j:=1) rfl rfl,?_⟩⟩
  ·simp at h
  ·refine (a_I t eb w hwk ht hot).mono ?_;rintro _ _ ⟨rfl,rfl⟩;exact ⟨_,rfl,trivial,rfl,rfl⟩
theorem k_7 {w:World}:∀ (t t':Typ) (b:Nat),PTyp S w t b->PTyp S w t' b->a_w t=a_w t'
 | .mk n el nn,.mk n' el' nn',b,h,h'=>by
  simp only [PTyp] at h h';obtain ⟨q,pos,-, hB,hE⟩:=h;obtain ⟨q',pos',-, hB',hE'⟩:=h';have e0:n=n':=by simpa using (hB.at (j:=0) rfl).cell.symm.trans (hB'.at (j:=0) rfl).cell
  have e1:q=q':=by simpa using (hB.at (j:=1) rfl).cell.symm.trans (hB'.at (j:=1) rfl).cell
  subst e0;subst e1;cases el with
  | nil=>
   have hq:q=none:=by simpa [PTypE] using hE
   subst hq;cases el' with
   | nil=>rfl
   | cons t l=>simp [PTypE] at hE'
  | cons t l=>
   simp only [PTypE] at hE;obtain ⟨eb,rfl,ht⟩:=hE;cases el' with
   | nil=>simp [PTypE] at hE'
   | cons t' l'=>
    simp only [PTypE] at hE';obtain ⟨eb',he,ht'⟩:=hE';have:eb=eb':=by simpa using he
    subst this;exact k_7 t t' eb ht ht'
theorem k_9 {w:World}{x':VarD}{b:Nat}(h:PVar S w x b)(h':PVar S w x' b):a_w x.t=a_w x'.t:=by
 obtain ⟨tb,q,A,L,C,pos,-, hB,ht,-⟩:=h;obtain ⟨tb',q',A',L',C',pos',-, hB',ht',-⟩:=h';have e:tb=tb':=by simpa using (hB.at (j:=2) rfl).cell.symm.trans (hB'.at (j:=2) rfl).cell
 subst e;exact k_7 _ _ _ ht ht'
def Noted (c:WCtx)(w:World)(vb:Nat):Prop:=∃ q,At w 254 ⟨vb,7,none⟩ (.pointer q)/\∀ x,PVar c.M c.w0 x vb->OptQ (PDef c.M c.w0) (lastN Def.name c.types (a_w x.t)) q
theorem Noted.wk {c:WCtx}{w w':World}{vb:Nat}(h:Noted c w vb)(hM:c.M vb)(hwk:Wk c w w'):Noted c w' vb:=by
 obtain ⟨q,ha,hq⟩:=h;obtain ⟨v',h1,h2|h2⟩:=hwk.note (a:=⟨vb,7,none⟩) hM ha
 ·subst h2;exact ⟨q,h1,hq⟩
 ·obtain ⟨q',rfl,hq'⟩:=h2.2.2.2.2.1 ⟨rfl,rfl⟩;exact ⟨q',h1,hq'⟩
theorem b_y {c:WCtx}{L:Nat}{xs:List Fld}{w:World}(hwk:Wk c c.w0 w)(h:PFlds c.M c.w0 A L C xs):
  CP 218 #[.slice A L C,.string name] w fun e w'=>∃ q,e=.returned (.pointer q)/\w'=w/\OptQ (PFld c.M c.w0) (a_h Fld.name xs name) q:=by
 have hl:=h.1;have hl2:=h.2.2.1;refine c_V A L C name w _ ⟨fun i w1=>0<=i/\i<=L/\w1=w/\a_h Fld.name (xs.take i.toNat) name=none,fun i _=>((L:Int)-i).toNat,⟨by omega,by omega,rfl,by simp [a_h]⟩,?_⟩;rintro i w1 ⟨h0,hi,rfl,hn⟩;refine ⟨fun hlt=>?_,fun hge=>?_⟩
 ·have hlt:=odt hlt;obtain ⟨p,x,v,hp,hx,hc,b,rfl,hpx⟩:=h.wget hwk (fun _=>rfl) h0 hlt;have hpx':=hpx;obtain ⟨_,_,_,_,_,_,_,_,_,hM,hB,-⟩:=hpx';refine ⟨p,hp,⟨h0,hlt⟩,_,hc,adr b,rfl,x.name,hwk.nd hM hB (j:=1) rfl rfl,fun he=>?_,fun hne=>?_⟩
  ·refine ⟨_,rfl,rfl,?_⟩;rw [c_J hn hx (a_b.1 he)];exact ⟨b,rfl,hpx⟩
  ·rw [a_a h0 (by omega)];exact next h0 hlt ⟨rfl,c_h h0 hn hx (a_f.1 hne)⟩
 ·have hle:=odf hge;rw [tl_ (by omega)] at hn;refine ⟨none,rfl,rfl,?_⟩;rw [hn];rfl
theorem a_H {c:WCtx}{L:Nat}{xs:List ArgDef}{w:World}(hwk:Wk c c.w0 w)(h:a_1 c.M c.w0 A L C xs):
  CP 175 #[.slice A L C,.string name] w fun e w'=>∃ q,e=.returned (.pointer q)/\w'=w/\OptQ (b_u c.M c.w0) (a_h ArgDef.name xs name) q:=by
 have hl:=h.1;have hl2:=h.2.2.1;refine b_k A L C name w _ ⟨fun i w1=>0<=i/\i<=L/\w1=w/\a_h ArgDef.name (xs.take i.toNat) name=none,fun i _=>((L:Int)-i).toNat,⟨by omega,by omega,rfl,by simp [a_h]⟩,?_⟩;rintro i w1 ⟨h0,hi,rfl,hn⟩;refine ⟨fun hlt=>?_,fun hge=>?_⟩
 ·have hlt:=odt hlt;obtain ⟨p,x,v,hp,hx,hc,b,rfl,hpx⟩:=h.wget hwk (fun _=>rfl) h0 hlt;have hpx':=hpx;obtain ⟨_,_,_,_,_,_,hM,hB,-⟩:=hpx';refine ⟨p,hp,⟨h0,hlt⟩,_,hc,adr b,rfl,x.name,hwk.nd hM hB (j:=1) rfl rfl,fun he=>?_,fun hne=>?_⟩
  ·refine ⟨_,rfl,rfl,?_⟩;rw [c_J hn hx (a_b.1 he)];exact ⟨b,rfl,hpx⟩
  ·rw [a_a h0 (by omega)];exact next h0 hlt ⟨rfl,c_h h0 hn hx (a_f.1 hne)⟩
 ·have hle:=odf hge;rw [tl_ (by omega)] at hn;refine ⟨none,rfl,rfl,?_⟩;rw [hn];rfl
theorem b_g {c:WCtx}{L:Nat}{xs:List VarD}{w:World}(hwk:Wk c c.w0 w)(h:PVars c.M c.w0 A L C xs):
  CP 217 #[.slice A L C,.string name] w fun e w'=>∃ q,e=.returned (.pointer q)/\w'=w/\OptQ (PVar c.M c.w0) (a_h VarD.name xs name) q:=by
 have hl:=h.1;have hl2:=h.2.2.1;refine b_l A L C name w _ ⟨fun i w1=>0<=i/\i<=L/\w1=w/\a_h VarD.name (xs.take i.toNat) name=none,fun i _=>((L:Int)-i).toNat,⟨by omega,by omega,rfl,by simp [a_h]⟩,?_⟩;rintro i w1 ⟨h0,hi,rfl,hn⟩;refine ⟨fun hlt=>?_,fun hge=>?_⟩
 ·have hlt:=odt hlt;obtain ⟨p,x,v,hp,hx,hc,b,rfl,hpx⟩:=h.wget hwk (fun _=>rfl) h0 hlt;have hpx':=hpx;obtain ⟨_,_,_,_,_,_,hM,hB,-⟩:=hpx';refine ⟨p,hp,⟨h0,hlt⟩,_,hc,adr b,rfl,x.name,hwk.nd hM hB (j:=1) rfl rfl,fun he=>?_,fun hne=>?_⟩
  ·refine ⟨_,rfl,rfl,?_⟩;rw [c_J hn hx (a_b.1 he)];exact ⟨b,rfl,hpx⟩
  ·rw [a_a h0 (by omega)];exact next h0 hlt ⟨rfl,c_h h0 hn hx (a_f.1 hne)⟩
 ·have hle:=odf hge;rw [tl_ (by omega)] at hn;refine ⟨none,rfl,rfl,?_⟩;rw [hn];rfl
def f_i (c:WCtx)(w:World)(node:Value):Ev->Prop
 | .op o=>∃ b A L C,node=.pointer (some (adr b))/\POp c.M c.w0 o b/\o∈c.ops/\w.cell? ⟨b,3,none⟩=some (.slice A L C)/\L=o.vars.length/\∀ (j:Nat) y,o.vars[j]? =some y->∃ p vb,A=some p/\w.cell? (p.add j)=some (.pointer (some (adr vb)))/\PVar c.M c.w0 y vb/\Noted c w vb/\c.M p.block/\At c.w0 242 (p.add j) (.pointer (some (adr vb)))/\okTyp y.t
 | .frag f=>∃ b,node=.pointer (some (adr b))/\PFrag c.M c.w0 f b/\f∈c.frags/\∃ q,w.cell? ⟨b,6,none⟩=some (.pointer q)/\OptQ (PDef c.M c.w0) (lastN Def.name c.types f.on) q
 | .spread n found=>∃ b q d u2 u3 pos,node=.pointer (some (adr b))/\c.M b/\Blk c.w0 b 231 [.string n,d,u2,u3,.pointer pos,.pointer none]/\w.cell? ⟨b,3,none⟩=some (.pointer q)/\q.isSome=found/\found=(a_h Frag.name c.frags n).isSome
 | .fld s=>∃ b,node=.pointer (some (adr b))/\PSel c.M c.w0 s (.iface 277 (.pointer (some (adr b))))
 | .inl s=>∃ b,node=.pointer (some (adr b))/\PSel c.M c.w0 s (.iface 221 (.pointer (some (adr b))))
 | .dir d loc=>∃ b,node=.pointer (some (adr b))/\PDir c.M c.w0 d b
 | .dirs l=>∃ A L C,node=.slice A L C/\PDirs c.M c.w0 A L C l
 | .val v=>∃ b,node=.pointer (some (adr b))/\PVal c.M c.w0 v b
 | .var v=>∃ b,node=.pointer (some (adr b))/\PVar c.M c.w0 v b/\okTyp v.t
structure Obs where
 A:Nat->OA
 L:Nat->Nat
 C:Nat->Nat
 on:Nat->Bool
abbrev evsOf (ob:Obs):List Value:=[.slice (ob.A 0) (ob.L 0) (ob.C 0),.slice (ob.A 1) (ob.L 1) (ob.C 1),.slice (ob.A 2) (ob.L 2) (ob.C 2),.slice (ob.A 3) (ob.L 3) (ob.C 3),.slice (ob.A 4) (ob.L 4) (ob.C 4),.slice (ob.A 5) (ob.L 5) (ob.C 5),.slice (ob.A 6) (ob.L 6) (ob.C 6),.slice (ob.A 7) (ob.L 7) (ob.C 7),.slice (ob.A 8) (ob.L 8) (ob.C 8)]
def Vis (c:WCtx)(ob:Obs)(w:World)(j:Nat):Prop:=
 (ob.on j=false/\ob.L j=0)∨(ob.on j=true/\ob.L j=1/\∃ (p:Addr) (T:TypeId) (g:FuncId) (cap:List Value) (fn:Func),ob.A j=some p/\At w T p (.func (.func g) #[] cap.toArray)/\¬ c.M p.block/\¬ c.V p.block/\Tryz.prog.funcs[g]? =some fn/\(fn.name== "runtime.NumGoroutine" ||fn.body.isNone)=false/\
  ∀ (l:List Ev) (w1:World) (co:OA) (vm:Nat) (evs:List Value) (node:Value) (ev:Ev),c.St l w1->Wst c co vm evs w1->slot ev=j->f_i c w1 node ev->
   CP g ([.pointer (some (adr c.wb)),node]++cap).toArray w1 fun e w2=>e=.returned (.tuple #[])/\Ext c.V w1 w2/\c.St (l++[ev]) w2)
theorem Vis.ne {c:WCtx}{ob:Obs}{w w':World}(h:Vis c ob w j)(hx:Ext X w w')(hX:∀ (T:TypeId) (p:Addr) (g:FuncId) (cap:Array Value),At w T p (.func (.func g) #[] cap)->¬ c.M p.block->¬ c.V p.block->¬ X p.block):Vis c ob w' j:=by
 rcases h with h|⟨h1,h2,p,T,g,cap,fn,h3,h4,h5,h6,h7⟩
 ·exact .inl h
 ·exact .inr ⟨h1,h2,p,T,g,cap,fn,h3,hx.at (hX T p g cap.toArray h4 h5 h6) h4,h5,h6,h7⟩
abbrev em (ob:Obs)(ev:Ev):List Ev:=if ob.on (slot ev) then [ev] else []
theorem Stp.ofV {c:WCtx}{w w':World}(g:Good c)(h:Ext c.V w w'):Stp c vm w w':=⟨h.mono fun _ _ e=>.inr (.inl e),Wk.ofExt h fun b hb=>g.mv b hb⟩
theorem l_o {c:WCtx}(g:Good c){ob:Obs}{w:World}(hv:Vis c ob w j){l:List Ev}{node:Value}{ev:Ev}(hl:c.St l w)(hw:Wst c co vm evs w)(hk:slot ev=j)(hn:f_i c w node ev)
  {Q:World->Prop} (hQ:∀ w',Ext c.V w w'->c.St (l++em ob ev) w'->Q w'):
  ∃ (I:Int->World->Prop) (μ:Int->World->Nat),I (0:Int) w/\∀ (n:Int) (w1:World),I n w1->
   (((decide (n<(ob.L j:Int)))=true->∃ p:Addr,ob.A j=some p/\(0<=n/\n<(ob.L j:Int))/\∃ v:Value,w1.cell? (p.add (n.toNat*1))=some v/\∃ (g:FuncId) (cap:List Value),v=.func (.func g) #[] cap.toArray/\∃ fn,Tryz.prog.funcs[g]? =some fn/\(fn.name== "runtime.NumGoroutine" ||fn.body.isNone)=false/\
    CP g ([.pointer (some (adr c.wb)),node]++cap).toArray w1 (fun e w2=>e=.returned (.tuple #[])/\True/\(I (wr (n+(1:Int))) w2/\μ (wr (n+(1:Int))) w2<μ n w1)))/\
   ((decide (n<(ob.L j:Int)))=false->Q w1)):=by
 subst hk;rcases hv with ⟨h1,h2⟩|⟨h1,h2,p,T,gg,cap,fn,h3,ha,hM,hV,hf,hb,hcall⟩
 ·rw [h2];refine ⟨fun n w1=>n=0/\w1=w,fun _ _=>0,⟨rfl,rfl⟩,?_⟩;rintro _ _ ⟨rfl,rfl⟩;exact ⟨fun h=>absurd (odt h) (by omega),fun _=>hQ _ (Ext.refl _) (by simpa [em,h1] using hl)⟩
 ·rw [h2,h3];refine ⟨fun n w1=>(n=0/\w1=w)∨(n=1/\Ext c.V w w1/\c.St (l++[ev]) w1),fun n _=>(1-n).toNat,.inl ⟨rfl,rfl⟩,?_⟩;rintro n w1 (⟨rfl,rfl⟩|⟨rfl,hx,hs⟩)
  ·refine ⟨fun _=>⟨p,rfl,⟨by omega,by omega⟩,_,?_,gg,cap,rfl,fn,hf,hb,?_⟩,fun h=>absurd (odf h) (by omega)⟩
   ·have:=ha.cell;simpa [Addr.add] using this
   ·refine (hcall l w1 co vm evs node ev hl hw rfl hn).mono ?_;rintro _ w2 ⟨rfl,hx,hs⟩;exact ⟨rfl,trivial,.inr ⟨by decide,hx,hs⟩,by show (1-wr ((0:Int)+1)).toNat<((1:Int)-0).toNat;decide⟩
  ·exact ⟨fun h=>absurd (odt h) (by omega),fun _=>hQ _ hx (by simpa [em,h1] using hs)⟩
structure Nst (c:WCtx) (w w':World):Prop where
 ext:Ext c.M w w'
 wk:Wk c w w'
theorem Nst.refl (c:WCtx)(w:World):Nst c w w:=⟨Ext.refl w,Wk.refl c w⟩
theorem Nst.trans {c:WCtx}{w w' w'':World}(h:Nst c w w')(k:Nst c w' w''):Nst c w w'':=⟨h.ext.trans k.ext fun _ _ h=>h,h.wk.trans k.wk⟩
theorem Nst.of0 {c:WCtx}{w w':World}(h:EF w w'):Nst c w w':=⟨h.toM _,Wk.ofExt h fun _ _=>id⟩
theorem Nst.drew {c:WCtx}{w w1 w2:World}(h:Nst c w w1)(e:w2=w1.drew):Nst c w w2:=h.trans (Nst.of0 (by rw [e];exact (Ext.refl w1).drew))
theorem Nst.stp {c:WCtx}{w w':World}(h:Nst c w w'):Stp c vm w w':=⟨h.ext.mono fun _ _ e=>.inl e,h.wk⟩
theorem Nst.st {c:WCtx}(g:Good c){w w':World}(h:Nst c w w'){l:List Ev}(hl:c.St l w):c.St l w':=g.st l w w' hl (h.ext.mono fun _ _ e=>g.mv _ e)
theorem Wst.nst {c:WCtx}{w w':World}(g:Good c)(h:Wst c co vm evs w)(s:Nst c w w'):Wst c co vm evs w':=h.step g s.stp
theorem Nst.set {c:WCtx}{w:World}{b:Nat}{cs:List Value}{v:Value}(hwk:Wk c c.w0 w)(hM:c.M b)(hB:Blk c.w0 b T cs)(hok:b_3 c b T j v):Nst c w (w.setCell ⟨b,j,none⟩ v):=by
 obtain ⟨cs',h1,h2,h3⟩:=hwk.cells _ _ _ _ hM hB;exact ⟨Ext.setCell (X:=c.M) (Ext.refl w) (a:=⟨b,j,none⟩) (.inl hM) _,Wk.set h1 hok⟩
theorem Wk.setcell {c:WCtx}{w:World}(hwk:Wk c c.w0 w){b:Nat}{cs:List Value}(hM:c.M b)(hB:Blk c.w0 b T cs){v:Value}(hj:j<cs.length):(w.setCell ⟨b,j,none⟩ v).cell? ⟨b,j,none⟩=some v:=by
 obtain ⟨cs',h1,h2,h3⟩:=hwk.cells _ _ _ _ hM hB;have:=a_E (v:=v) (a:=⟨b,j,none⟩) h1 rfl;have hsz:j<cs'.size:=by rw [h2];simpa using hj
 exact (show At _ T ⟨b,j,none⟩ v from ⟨_,_,this,rfl,by simp [Array.getElem?_setIfInBounds,hsz]⟩).cell
def GDef (c:WCtx)(q:OA):Prop:=q=none∨∃ db d,q=some (adr db)/\PDef c.M c.w0 d db/\okDef d
def GTyp (c:WCtx)(q:OA):Prop:=q=none∨∃ tb t,q=some (adr tb)/\PTyp c.M c.w0 t tb
def GVar (c:WCtx)(q:OA):Prop:=q=none∨∃ db d,q=some (adr db)/\PVar c.M c.w0 d db
theorem i_v {c:WCtx}{b:Nat}(h:GDef c q):b_3 c b 245 5 (.pointer q):=⟨rfl,fun _=>⟨q,rfl,h⟩,fun h=>absurd h.2 (by decide),fun h=>absurd h.2 (by decide),fun h=>absurd h.1 (by decide),fun h=>absurd h.1 (by decide),fun h=>absurd h.1 (by decide)⟩
theorem o_o {c:WCtx}{b:Nat}(h:GVar c q):b_3 c b 245 6 (.pointer q):=⟨rfl,fun h=>absurd h.2 (by decide),fun _=>⟨q,rfl,h⟩,fun h=>absurd h.2 (by decide),fun h=>absurd h.1 (by decide),fun h=>absurd h.1 (by decide),fun h=>absurd h.1 (by decide)⟩
theorem i_w {c:WCtx}{b:Nat}(h:GTyp c q):b_3 c b 245 7 (.pointer q):=⟨rfl,fun h=>absurd h.2 (by decide),fun h=>absurd h.2 (by decide),fun _=>⟨q,rfl,h⟩,fun h=>absurd h.1 (by decide),fun h=>absurd h.1 (by decide),fun h=>absurd h.1 (by decide)⟩
theorem i_x {c:WCtx}{b:Nat}{v:Value}:b_3 c b 245 8 v:=⟨rfl,fun h=>absurd h.2 (by decide),fun h=>absurd h.2 (by decide),fun h=>absurd h.2 (by decide),fun h=>absurd h.1 (by decide),fun h=>absurd h.1 (by decide),fun h=>absurd h.1 (by decide)⟩
theorem o_k {c:WCtx}{b:Nat}(hx:PVar c.M c.w0 x b)(h:OptQ (PDef c.M c.w0) (lastN Def.name c.types (a_w x.t)) q):b_3 c b 254 7 (.pointer q):=⟨rfl,fun h=>absurd h.1 (by decide),fun h=>absurd h.1 (by decide),fun h=>absurd h.1 (by decide),fun _=>⟨q,rfl,fun y hy=>by rw [k_9 hy hx];exact h⟩,fun h=>absurd h.1 (by decide),fun h=>absurd h.1 (by decide)⟩
theorem o_l {c:WCtx}{b:Nat}{x:Frag}(hx:PFrag c.M c.w0 x b)(h:OptQ (PDef c.M c.w0) (lastN Def.name c.types x.on) q):b_3 c b 235 6 (.pointer q):=⟨rfl,fun h=>absurd h.1 (by decide),fun h=>absurd h.1 (by decide),fun h=>absurd h.1 (by decide),fun h=>absurd h.1 (by decide),fun h=>absurd h.1 (by decide),fun _=>⟨q,rfl,fun y hy=>by
 obtain ⟨A2,L2,C2,A3,L3,C3,pos,-, hB,-⟩:=hx;obtain ⟨B2,M2,D2,B3,M3,D3,pos',-, hB',-⟩:=hy;have e:x.on=y.on:=by simpa using (hB.at (j:=3) rfl).cell.symm.trans (hB'.at (j:=3) rfl).cell
 rw [<- e];exact h⟩⟩
theorem b_Q {c:WCtx}{b:Nat}{v:Value}(h:e_0 T j=true)(h1:T≠245)(h2:¬ (T=254/\j=7))(h3:¬ (T=231/\j=3))(h4:¬ (T=235/\j=6)):b_3 c b T j v:=
 ⟨h,fun e=>absurd e.1 h1,fun e=>absurd e.1 h1,fun e=>absurd e.1 h1,fun e=>absurd e h2,fun e=>absurd e h3,fun e=>absurd e h4⟩
theorem GDef.of {c:WCtx}(g:Good c){n:BA}(h:OptQ (PDef c.M c.w0) (lastN Def.name c.types n) q):GDef c q:=by
 cases hl:lastN Def.name c.types n with
 | none=>rw [hl] at h;exact .inl h
 | some d=>
  rw [hl] at h;obtain ⟨b,rfl,hp⟩:=h;exact .inr ⟨b,d,rfl,hp,g.okt d (g_m hl)⟩
section
variable {c:WCtx} {w:World} {b:Nat} {cs:List Value}
theorem val5 (hwk:Wk c c.w0 w)(hM:c.M b)(hB:Blk c.w0 b 245 cs)(hj:cs[5]? =some (.pointer none)):∃ q,w.cell? ⟨b,5,none⟩=some (.pointer q)/\GDef c q:=by
 obtain ⟨v',h1,h2|h2⟩:=hwk.ndn hM hB hj
 ·exact ⟨none,by rw [h1,h2],.inl rfl⟩
 ·obtain ⟨q,rfl,hq⟩:=h2.2.1 ⟨rfl,rfl⟩;exact ⟨q,h1,hq⟩
theorem val7 (hwk:Wk c c.w0 w)(hM:c.M b)(hB:Blk c.w0 b 245 cs)(hj:cs[7]? =some (.pointer none)):∃ q,w.cell? ⟨b,7,none⟩=some (.pointer q)/\GTyp c q:=by
 obtain ⟨v',h1,h2|h2⟩:=hwk.ndn hM hB hj
 ·exact ⟨none,by rw [h1,h2],.inl rfl⟩
 ·obtain ⟨q,rfl,hq⟩:=h2.2.2.2.1 ⟨rfl,rfl⟩;exact ⟨q,h1,hq⟩
theorem var7 (g:Good c)(hwk:Wk c c.w0 w)(hx:PVar c.M c.w0 x b):∃ q,w.cell? ⟨b,7,none⟩=some (.pointer q)/\GDef c q:=by
 have hx':=hx;obtain ⟨tb,q,A,L,C,pos,hM,hB,-⟩:=hx';obtain ⟨v',h1,h2|h2⟩:=hwk.ndn hM hB (j:=7) rfl
 ·exact ⟨none,by rw [h1,h2],.inl rfl⟩
 ·obtain ⟨q,rfl,hq⟩:=h2.2.2.2.2.1 ⟨rfl,rfl⟩;exact ⟨q,h1,GDef.of g (hq x hx)⟩
end
theorem PVal.blk {w:World}{x:Val}{b:Nat}(h:PVal S w x b):∃ (k:Int) (r:BA) (A:OA) (L C:Nat) (pos:OA),S b/\Blk w b 245 [.string r,.slice A L C,.int .i64 k,.pointer pos,.pointer none,.pointer none,.pointer none,.pointer none,.bool false]:=by
 cases x with
 | mk k r kids=>
  obtain ⟨A,L,C,pos,h1,h2,h3⟩:=j_Z.1 h;exact ⟨k,r,A,L,C,pos,h1,h2⟩
theorem Wst.sch {c:WCtx}{w:World}(g:Good c)(h:Wst c co vm evs w):
  w.cell? ⟨c.wb,1,none⟩=some (.pointer (some (adr c.sb)))/\w.cell? ⟨c.sb,4,none⟩=some (.map (some c.m1))/\w.cell? ⟨c.sb,5,none⟩=some (.map (some c.m2))/\
  ∀ u,∃ q,(Instr.lookup 214 (.map (some c.m1)) (.string u) false).run Tryz.prog w=.ok (.pointer q) w/\OptQ (PDef c.M c.w0) (lastN Def.name c.types u) q:=by
 obtain ⟨q1,q2,q3,s,hB,-⟩:=g.sch;refine ⟨(h.walker.at (j:=1) rfl).cell,h.wk.nd g.sb hB (j:=4) rfl rfl,h.wk.nd g.sb hB (j:=5) rfl rfl,fun u=>?_⟩;obtain ⟨q,h1,h2⟩:=tlook (h.wk.smap g.m1.1 g.m1.2.1) g.m1.2.2 u;exact ⟨q,h1,h2⟩
def VM (w:World)(b:Nat)(vs:List BA):Prop:=∃ m,SMap w b m/\∀ k,(k∈vs->mget m k=some (.bool true))/\(k∉vs->mget m k=none)
theorem VM.ext {w w':World}{b:Nat}{vs:List BA}(h:VM w b vs)(hx:Ext X w w')(hb:¬ X b):VM w' b vs:=by
 obtain ⟨m,h1,h2⟩:=h;exact ⟨m,h1.ext hx hb,h2⟩
theorem VM.not_at {w:World}{b:Nat}{vs:List BA}(h:VM w b vs){v:Value}(ha:At w T a v):a.block≠b:=by
 intro e;obtain ⟨m,⟨ents,cl,h1,-⟩,-⟩:=h;obtain ⟨cs,fr,h2,-⟩:=ha;rw [e,h1] at h2;cases h2
theorem VM.look {w:World}{b:Nat}{vs:List BA}(h:VM w b vs)(u:BA):∃ z:Bool,(Instr.lookup 208 (.map (some b)) (.string u) false).run Tryz.prog w=.ok (.bool z) w/\(z=true↔u∈vs):=by
 obtain ⟨m,h1,h2⟩:=h;have r:=a_W (t:=208) (kt:=9) (e:=4) (u:=u) (i:=Tryz.t4) (by kernel_rfl) (by kernel_rfl) (by kernel_rfl) rfl h1 false;by_cases hu:u∈vs
 ·refine ⟨true,?_,by simp [hu]⟩;rw [r];show Result.ok ((mget m u).getD (.bool false)) w=_;rw [(h2 u).1 hu];rfl
 ·refine ⟨false,?_,by simp [hu]⟩;rw [r];show Result.ok ((mget m u).getD (.bool false)) w=_;rw [(h2 u).2 hu];rfl
theorem VM.put {w:World}{b:Nat}{vs:List BA}(h:VM w b vs)(u:BA):∃ w',(Instr.mapUpdate 208 (.map (some b)) (.string u) (.bool true)).run Tryz.prog w=.ok () w'/\VM w' b (u::vs)/\Ext (fun k=>k=b) w w':=by
 obtain ⟨m,h1,h2⟩:=h;obtain ⟨w5,r5,hs5,x5⟩:=b_T (t:=208) (kt:=9) (e:=4) (u:=u) (v:=.bool true) (by kernel_rfl) (by kernel_rfl) h1;refine ⟨w5,r5,⟨_,hs5,fun k=>?_⟩,x5⟩;rw [b_F];by_cases hk:k=u
 ·simp [hk]
 ·simp only [hk,if_false,mc_,false_or];exact h2 k
structure OC where
 co:OA
 vm:Nat
 ob:Obs
structure Wd (c:WCtx) (o:OC) (vs:List BA) (l:List Ev) (w:World):Prop where
 st:Wst c o.co o.vm (evsOf o.ob) w
 vm:VM w o.vm vs
 nd:vs.Nodup
 sub:∀ n∈vs,n∈c.frags.map Frag.name
 ev:c.St l w
 vis:∀ j,Vis c o.ob w j
theorem Wd.nst {c:WCtx}{o:OC}{vs:List BA}{l:List Ev}{w w':World}(g:Good c)(h:Wd c o vs l w)(n:Nst c w w'):Wd c o vs l w':=
 ⟨h.st.nst g n,h.vm.ext n.ext h.st.vm.2.2.2.1,h.nd,h.sub,n.st g h.ev,fun j=>(h.vis j).ne n.ext fun T p gg cap _ hM _=>hM⟩
theorem Wd.v {c:WCtx}{o:OC}{vs:List BA}{l l':List Ev}{w w':World}(g:Good c)(h:Wd c o vs l w)(n:Ext c.V w w')(hl:c.St l' w'):Wd c o vs l' w':=
 ⟨h.st.step g (Stp.ofV g n),h.vm.ext n h.st.vm.2.2.2.2,h.nd,h.sub,hl,fun j=>(h.vis j).ne n fun T p gg cap _ _ hV=>hV⟩
theorem Wd.put {c:WCtx}{o:OC}{vs:List BA}{l:List Ev}{w:World}(g:Good c)(h:Wd c o vs l w){u:BA}(hu:u∉vs)(hf:u∈c.frags.map Frag.name):
  ∃ w',(Instr.mapUpdate 208 (.map (some o.vm)) (.string u) (.bool true)).run Tryz.prog w=.ok () w'/\Wd c o (u::vs) l w'/\Stp c o.vm w w':=by
 obtain ⟨w',r,hv,hx⟩:=h.vm.put u;have s:Stp c o.vm w w':=⟨hx.mono fun b _ e=>.inr (.inr e),Wk.ofExt hx fun b hM e=>h.st.vm.2.2.2.1 (e▸hM)⟩;exact ⟨w',r,⟨h.st.step g s,hv,List.nodup_cons.2 ⟨hu,h.nd⟩,fun n hn=>(mc_.1 hn).elim (fun e=>e▸hf) (h.sub n),g.st l w w' h.ev (hx.mono fun b _ e hV=>h.st.vm.2.2.2.2 (e▸hV)),fun j=>(h.vis j).ne hx fun T p gg cap ha _ _ he=>h.vm.not_at ha he⟩,s⟩
def DocEv (c:WCtx)(e:Ev):Prop:=(∃ x∈c.ops,e∈evOp c.frags x)∨∃ f∈c.frags,e∈evFr c.frags f
def cntE (ob:Obs)(l:List Ev):Nat:=(l.filter fun e=>ob.on (slot e)).length
theorem k_c (ob:Obs)(a b:List Ev):cntE ob (a++b)=cntE ob a+cntE ob b:=by simp [cntE]
theorem o_c (ob:Obs)(e:Ev):(em ob e).length=cntE ob [e]:=by
 unfold em cntE;split<;>rename_i h<;>simp [h]
def potF (c:WCtx)(ob:Obs)(vs:List BA)(f:Frag):Nat:=bif vs.any fun u=>decide (u=f.name) then 0 else cntE ob (evFr c.frags f)
def pot (c:WCtx)(ob:Obs)(vs:List BA):Nat:=(c.frags.map (potF c ob vs)).sum
theorem m_B {c:WCtx}{ob:Obs}{vs:List BA}(h:f.name∈vs):potF c ob vs f=0:=by
 have:(vs.any fun u=>decide (u=f.name))=true:=List.any_eq_true.2 ⟨_,h,by simp⟩;rw [potF,this];rfl
theorem i_B {c:WCtx}{ob:Obs}{vs:List BA}(h:f.name∉vs):potF c ob vs f=cntE ob (evFr c.frags f):=by
 have:(vs.any fun u=>decide (u=f.name))=false:=List.any_eq_false.2 fun u hu=>by
  simp only [decide_eq_true_eq];exact fun e=>h (e▸hu)
 rw [potF,this];rfl
theorem m_C (c:WCtx)(ob:Obs)(u:BA)(vs:List BA)(f:Frag):potF c ob (u::vs) f<=potF c ob vs f:=by
 by_cases h:f.name∈u::vs
 ·rw [m_B h];omega
 ·rw [i_B h,i_B fun h'=>h (List.mem_cons_of_mem _ h')];omega
theorem o_r {c:WCtx}{ob:Obs}{vs:List BA}(hf:f∈c.frags)(hn:f.name∉vs):pot c ob (f.name::vs)+cntE ob (evFr c.frags f)<=pot c ob vs:=by
 have h1:∀ xs:List Frag,(xs.map (potF c ob (f.name::vs))).sum<=(xs.map (potF c ob vs)).sum:=by
  intro xs;induction xs with
  | nil=>simp
  | cons x xs ih=>
   simp only [List.map_cons,List.sum_cons];have:=m_C c ob f.name vs x;omega
 have h2:∀ xs:List Frag,f∈xs->(xs.map (potF c ob (f.name::vs))).sum+cntE ob (evFr c.frags f)<=(xs.map (potF c ob vs)).sum:=by
  intro xs;induction xs with
  | nil=>intro h;simp at h
  | cons x xs ih=>
   intro h;simp only [List.map_cons,List.sum_cons];rcases mc_.1 h with rfl|h
   ·have:=h1 xs;rw [m_B (List.mem_cons_self ..),i_B hn];omega
   ·have:=ih h;have:=m_C c ob f.name vs x;omega
 exact h2 c.frags hf
def Wr (c:WCtx)(o:OC)(vs:List BA)(l:List Ev)(w:World)(need:List Ev)(w':World):Prop:=
 Stp c o.vm w w'/\∃ vs' es,Wd c o vs' (l++es) w'/\vs.length<=vs'.length/\(∀ e∈es,DocEv c e/\o.ob.on (slot e)=true)/\(∀ e∈need,o.ob.on (slot e)=true->e∈es)/\es.length+pot c o.ob vs'<=cntE o.ob need+pot c o.ob vs
section
variable {c:WCtx} {o:OC} {vs:List BA} {l:List Ev} {w w' w'':World} {need need':List Ev}
theorem Wr.refl (h:Wd c o vs l w):Wr c o vs l w [] w:=⟨Stp.refl c o.vm w,vs,[],by simpa using h,Nat.le_refl _,by simp,by simp,Nat.le_refl _⟩
theorem Wr.st (h:Wr c o vs l w need w'):Wst c o.co o.vm (evsOf o.ob) w':=by
 obtain ⟨-, vs',es,h2,-⟩:=h;exact h2.st
theorem Wr.nst (h:Wr c o vs l w need w')(g:Good c)(n:Nst c w' w''):Wr c o vs l w need w'':=by
 obtain ⟨h1,vs',es,h2,h3⟩:=h;exact ⟨h1.trans n.stp,vs',es,h2.nst g n,h3⟩
theorem Wr.drew (h:Wr c o vs l w need w')(g:Good c)(e:w''=w'.drew):Wr c o vs l w need w'':=h.nst g ((Nst.refl c w').drew e)
theorem Wr.then (h:Wr c o vs l w need w'){f:FuncId}{args:Array Value}(k:∀ vs' l',Wd c o vs' l' w'->vs.length<=vs'.length->CP f args w' fun e w2=>e=.returned (.tuple #[])/\Wr c o vs' l' w' need' w2):
  CP f args w' fun e w2=>e=.returned (.tuple #[])/\Wr c o vs l w (need++need') w2:=by
 obtain ⟨h1,vs',es,h2,h3,h4,h5,h6⟩:=h;refine (k vs' (l++es) h2 h3).mono ?_;rintro _ w2 ⟨rfl,k1,vs2,es2,k2,k3,k4,k5,k6⟩;refine ⟨rfl,h1.trans k1,vs2,es++es2,by rwa [<- List.append_assoc],lt_ h3 k3,fun e he=>?_,fun e he ho=>?_,by simp only [la_,k_c];omega⟩
 ·rcases ma_.1 he with he|he
  ·exact h4 e he
  ·exact k4 e he
 ·rcases ma_.1 he with he|he
  ·exact ma_.2 (.inl (h5 e he ho))
  ·exact ma_.2 (.inr (k5 e he ho))
theorem Wr.visit (h:Wr c o vs l w need w')(g:Good c){node:Value}{ev:Ev}(hk:slot ev=j)(hn:f_i c w' node ev)(hd:DocEv c ev){Q:World->Prop}(hQ:∀ w2,Wr c o vs l w (need++[ev]) w2->Q w2):
  ∃ (I:Int->World->Prop) (μ:Int->World->Nat),I (0:Int) w'/\∀ (n:Int) (w1:World),I n w1->
   (((decide (n<(o.ob.L j:Int)))=true->∃ p:Addr,o.ob.A j=some p/\(0<=n/\n<(o.ob.L j:Int))/\∃ v:Value,w1.cell? (p.add (n.toNat*1))=some v/\∃ (g:FuncId) (cap:List Value),v=.func (.func g) #[] cap.toArray/\∃ fn,Tryz.prog.funcs[g]? =some fn/\(fn.name== "runtime.NumGoroutine" ||fn.body.isNone)=false/\
    CP g ([.pointer (some (adr c.wb)),node]++cap).toArray w1 (fun e w2=>e=.returned (.tuple #[])/\True/\(I (wr (n+(1:Int))) w2/\μ (wr (n+(1:Int))) w2<μ n w1)))/\
   ((decide (n<(o.ob.L j:Int)))=false->Q w1)):=by
 obtain ⟨h1,vs',es,h2,h3,h4,h5,h6⟩:=h;refine l_o g (h2.vis j) h2.ev h2.st hk hn fun w2 hx hs=>hQ w2 ⟨h1.trans (Stp.ofV g hx),vs',es++em o.ob ev,h2.v g hx (by rwa [<- List.append_assoc]),h3,fun e he=>?_,fun e he ho=>?_,?_⟩
 ·rcases ma_.1 he with he|he
  ·exact h4 e he
  ·unfold em at he;split at he
   ·rename_i ho;obtain rfl:e=ev:=by simpa using he
    exact ⟨hd,ho⟩
   ·simp at he
 ·rcases ma_.1 he with he|he
  ·exact ma_.2 (.inl (h5 e he ho))
  ·obtain rfl:e=ev:=by simpa using he
   refine ma_.2 (.inr ?_);rw [em,if_pos ho];simp
 ·have:=o_c o.ob ev;simp only [la_,k_c];omega
theorem Wr.events (h:Wr c o vs l w need w')(j:Nat){v:Value}(hj:(evsOf o.ob)[j]? =some v):w'.cell? ⟨c.wb,0,none⟩=some (.pointer (some (adr c.eb)))/\w'.cell? ⟨c.eb,j,none⟩=some v:=
 ⟨(h.st.walker.at (j:=0) rfl).cell,(h.st.events.at (j:=j) hj).cell⟩
end
theorem g_c {l:List (BA × Val)}{x:BA × Val}(h0:0<=i)(hx:l[i.toNat]? =some x):a_L (l.take (i+1).toNat)=a_L (l.take i.toNat)++evV x.2:=by
 have h1:∀ a b,a_L (a++b)=a_L a++a_L b:=by
  intro a b;induction a with
  | nil=>rfl
  | cons s a ih=>simp [a_L,ih]
 rw [show (i+1).toNat=i.toNat+1 by omega,List.take_add_one,hx,h1];simp [a_L]
theorem e_Y {x:BA × Val}{e:Ev}(h:e∈evV x.2):∀ {l:List (BA × Val)},x∈l->e∈a_L l
 | y::l,hs=>by
  simp only [a_L];rcases mc_.1 hs with rfl|hs
  ·exact ma_.2 (.inl h)
  ·exact ma_.2 (.inr (e_Y h hs))
abbrev WV (c:WCtx)(v:Val):Prop:=∀ (vb:Nat) (w:World) (o:OC) (vs:List BA) (l:List Ev),Wd c o vs l w->PVal c.M c.w0 v vb->(∀ e∈evV v,DocEv c e)->
 CP 206 #[.pointer (some (adr c.wb)),.pointer (some (adr vb))] w fun e w'=>e=.returned (.tuple #[])/\Wr c o vs l w (evV v) w'
theorem f_u {c:WCtx}(g:Good c)(k:Int)(r:BA)(kids:List (BA × Val))(IH:∀ x∈kids,WV c x.2):WV c (.mk k r kids):=by
 intro vb w o vs l hd hp hall;have hw:=hd.st;simp only [evV] at hall ⊢;obtain ⟨A,L,C,pos,hM,hB,hkids⟩:=j_Z.1 hp;have hL:=hkids.2.2.1;have hL0:=hkids.1;refine c_W (some (adr c.wb)) (some (adr vb)) w _ fun K3 hK3=>?_;have key3:∀ w4,Wr c o vs l w [] w4->K3 w4:=by
  intro w4 n4;refine hK3 w4 fun K5 hK5=>?_;have key5:∀ w6,Wr c o vs l w (if k=9 then a_L kids else []) w6->K5 w6:=by
   intro w6 n6;refine hK5 w6 fun K7 hK7=>?_;have key7:∀ w8,Wr c o vs l w ((if k=9 then a_L kids else [])++if k=8 then a_L kids else []) w8->K7 w8:=by
    intro w8 n8;obtain ⟨z1,z2⟩:=n8.events 7 rfl;refine hK7 w8 ⟨adr c.wb,rfl,_,z1,adr c.eb,rfl,_,_,_,z2,?_⟩;exact n8.visit g (ev:=.val (.mk k r kids)) rfl ⟨vb,rfl,hp⟩ (hall _ (by simp)) fun w2 h2=>⟨rfl,by rw [<- List.append_assoc];exact h2⟩
   have s6:=n6.st;refine ⟨adr vb,rfl,k,s6.wk.nd hM hB (j:=2) rfl rfl,fun hk8=>?_,fun hk8=>key7 w6 (by rw [if_neg (c:=k=8) (by simpa using hk8),List.append_nil];exact n6)⟩;have hk8:k=8:=by simpa using hk8
   refine ⟨adr vb,rfl,A,L,C,s6.wk.nd hM hB (j:=1) rfl rfl,?_⟩;refine ⟨fun i w1=>0<=i/\i<=L/\Wr c o vs l w ((if k=9 then a_L kids else [])++a_L (kids.take i.toNat)) w1,fun i _=>((L:Int)-i).toNat,⟨by omega,by omega,by simpa [a_L] using n6⟩,?_⟩;rintro i w1 ⟨h0,hi,n1⟩;have s1:=n1.st;refine ⟨fun hlt=>?_,fun hge=>key7 w1 (by
    have hle:=odf hge;rw [tl_ (by omega)] at n1;rw [if_pos (c:=k=8) hk8];exact n1)⟩
   have hlt:=odt hlt;obtain ⟨p,x,v,hpp,hx,hc,cb,rfl,vb',pos',hMc,hBc,hpv⟩:=hkids.wget s1.wk (fun _=>rfl) h0 hlt;obtain ⟨k',r',A',L',C',pos2,hMv,hBv⟩:=hpv.blk;refine ⟨p,hpp,⟨h0,hlt⟩,_,hc,fun K34 hK34 K40 hK40=>?_⟩;have key34:∀ w',Wr c o vs l w ((if k=9 then a_L kids else [])++a_L (kids.take i.toNat)) w'->K34 w':=by
    intro w' n';have s':=n'.st;refine hK34 w' ⟨adr cb,rfl,_,s'.wk.nd hMc hBc (j:=1) rfl rfl,(n'.then fun vs' l' d' _=>IH x (mg_ hx) vb' w' o vs' l' d' hpv fun e he=>hall e (by rw [if_pos (c:=k=8) hk8];simp [e_Y he (mg_ hx)])).mono ?_⟩;rintro _ w2 ⟨rfl,n2⟩;refine ⟨rfl,trivial,?_⟩;rw [a_a h0 (by omega)];refine next h0 hlt ?_
    rw [g_c h0 hx,<- List.append_assoc];exact n2
   obtain ⟨q60,hq60,hg⟩:=val7 s1.wk hM hB rfl;refine ⟨adr vb,rfl,q60,hq60,fun hs=>?_,fun _=>hK40 false w1 ⟨nofun,fun _=>key34 w1 n1⟩⟩;rcases hg with rfl|⟨tb,t,rfl,hpt⟩
   ·cases hs
   cases t with
   | mk tn el nn=>
    simp only [PTyp] at hpt;obtain ⟨q,post,hMt,hBt,hE⟩:=hpt;have gE:GTyp c q:=by
     cases el with
     | nil=>exact .inl (by simpa [PTypE] using hE)
     | cons t l=>
      simp only [PTypE] at hE;obtain ⟨eb,rfl,ht⟩:=hE;exact .inr ⟨eb,t,rfl,ht⟩
    refine ⟨adr vb,rfl,_,hq60,adr tb,rfl,q,s1.wk.nd hMt hBt (j:=1) rfl rfl,hK40 _ w1 ⟨fun hb=>?_,fun _=>key34 w1 n1⟩⟩;intro w43 e43;have n43:=n1.drew g e43;have s43:=n43.st;obtain ⟨q47,hq47,hg47⟩:=val7 s43.wk hM hB rfl;have e47:q47=some (adr tb):=by
     rw [e43] at hq47;have:=hq47.symm.trans hq60;simpa using this
    subst e47;refine ⟨adr cb,rfl,_,s43.wk.nd hMc hBc (j:=1) rfl rfl,adr vb,rfl,_,hq47,adr tb,rfl,q,s43.wk.nd hMt hBt (j:=1) rfl rfl,adr vb',rfl,s43.wk.off hMv hBv (j:=7) (n:=1) (by simp),trivial,trivial,fun w52 e52=>?_⟩;have n51:=n43.nst g (Nst.set s43.wk hMv hBv (i_w (b:=vb') gE));have n52:=n51.drew g e52;have s52:=n52.st;obtain ⟨q56,hq56,hg56⟩:=val5 s52.wk hM hB rfl;exact ⟨adr cb,rfl,_,s52.wk.nd hMc hBc (j:=1) rfl rfl,adr vb,rfl,q56,hq56,adr vb',rfl,s52.wk.off hMv hBv (j:=5) (n:=1) (by simp),trivial,trivial,key34 _ (n52.nst g (Nst.set s52.wk hMv hBv (i_v (b:=vb') hg56)))⟩
  have s4:=n4.st;refine ⟨adr vb,rfl,k,s4.wk.nd hM hB (j:=2) rfl rfl,fun hk9=>?_,fun hk9=>key5 w4 (by rw [if_neg (c:=k=9) (by simpa using hk9)];exact n4)⟩;have hk9:k=9:=by simpa using hk9
  refine ⟨adr vb,rfl,A,L,C,s4.wk.nd hM hB (j:=1) rfl rfl,?_⟩;refine ⟨fun i w1=>0<=i/\i<=L/\Wr c o vs l w (a_L (kids.take i.toNat)) w1,fun i _=>((L:Int)-i).toNat,⟨by omega,by omega,by simpa [a_L] using n4⟩,?_⟩;rintro i w1 ⟨h0,hi,n1⟩;have s1:=n1.st;refine ⟨fun hlt=>?_,fun hge=>key5 w1 (by
   have hle:=odf hge;rw [tl_ (by omega)] at n1;rw [if_pos (c:=k=9) hk9];exact n1)⟩
  have hlt:=odt hlt;obtain ⟨p,x,v,hpp,hx,hc,cb,rfl,vb',pos',hMc,hBc,hpv⟩:=hkids.wget s1.wk (fun _=>rfl) h0 hlt;obtain ⟨k',r',A',L',C',pos2,hMv,hBv⟩:=hpv.blk;refine ⟨p,hpp,⟨h0,hlt⟩,_,hc,fun K75 hK75=>?_⟩;have key75:∀ w',Wr c o vs l w (a_L (kids.take i.toNat)) w'->K75 w':=by
   intro w' n';have s':=n'.st;refine hK75 w' ⟨adr cb,rfl,_,s'.wk.nd hMc hBc (j:=1) rfl rfl,(n'.then fun vs' l' d' _=>IH x (mg_ hx) vb' w' o vs' l' d' hpv fun e he=>hall e (by rw [if_pos (c:=k=9) hk9];simp [e_Y he (mg_ hx)])).mono ?_⟩;rintro _ w2 ⟨rfl,n2⟩;refine ⟨rfl,trivial,?_⟩;rw [a_a h0 (by omega)];refine next h0 hlt ?_
   rw [g_c h0 hx];exact n2
  obtain ⟨q82,hq82,hg⟩:=val5 s1.wk hM hB rfl;refine ⟨adr vb,rfl,q82,hq82,fun hs=>?_,fun _=>key75 w1 n1⟩;rcases hg with rfl|⟨db,d,rfl,hpd,hokd⟩
  ·cases hs
  intro w83 e83;have n83:=n1.drew g e83;have s83:=n83.st;have hq83:w83.cell? ⟨vb,5,none⟩=some (.pointer (some (adr db))):=by rw [e83];exact hq82
  obtain ⟨_,_,_,_,_,_,A3,L3,C3,_,_,_,_,_,_,pos3,hMd,hBd,-, -, hflds,-⟩:=hpd;refine ⟨adr vb,rfl,_,hq83,adr db,rfl,_,_,_,s83.wk.nd hMd hBd (j:=5) rfl rfl,adr cb,rfl,_,s83.wk.nd hMc hBc (j:=0) rfl rfl,?_⟩;refine (b_y s83.wk hflds).mono ?_;rintro _ _ ⟨q92,rfl,rfl,hq92⟩;refine ⟨q92,rfl,trivial,trivial,trivial,fun hs2=>?_,fun _=>key75 _ n83⟩;cases hf:a_h Fld.name d.fields x.1 with
  | none=>
   rw [hf] at hq92;rw [show q92=none from hq92] at hs2;cases hs2
  | some f=>
   rw [hf] at hq92;obtain ⟨fb,rfl,A1,L1,C1,qd,tb,A6,L6,C6,pos6,hMf,hBf,hargs,hdf,hty,hdirs⟩:=hq92;have hokf:=hokd.2.2.1 f (a_U hf).1;intro w93 e93;have n93:=n83.drew g e93;have s93:=n93.st;refine ⟨adr cb,rfl,_,s93.wk.nd hMc hBc (j:=1) rfl rfl,adr fb,rfl,_,s93.wk.nd hMf hBf (j:=4) rfl rfl,adr vb',rfl,s93.wk.off hMv hBv (j:=7) (n:=1) (by simp),trivial,trivial,fun K100 hK100=>?_⟩;have n99:=n93.nst g (Nst.set s93.wk hMv hBv (i_w (b:=vb') (.inr ⟨tb,f.t,rfl,hty⟩)));have key100:∀ w',Wr c o vs l w (a_L (kids.take i.toNat)) w'->K100 w':=by
    intro w' n';refine hK100 w' fun w102 e102=>?_;have n102:=n'.drew g e102;have s102:=n102.st;obtain ⟨z1,z2,z3,z4⟩:=s102.sch g;refine ⟨adr cb,rfl,_,s102.wk.nd hMc hBc (j:=1) rfl rfl,adr c.wb,rfl,_,z1,adr c.sb,rfl,_,z2,adr fb,rfl,_,s102.wk.nd hMf hBf (j:=4) rfl rfl,?_⟩;refine (a_I f.t tb w102 s102.wk hty hokf.1).mono ?_;rintro _ _ ⟨rfl,rfl⟩;obtain ⟨q114,r114,o114⟩:=z4 (a_w f.t);have g114:=GDef.of g o114;exact ⟨_,rfl,trivial,by simp,q114,r114,adr vb',rfl,s102.wk.off hMv hBv (j:=5) (n:=1) (by simp),trivial,trivial,key75 _ (n102.nst g (Nst.set s102.wk hMv hBv (i_v (b:=vb') g114)))⟩
   intro w117 e117;have n117:=n99.drew g e117;have s117:=n117.st;refine ⟨adr cb,rfl,_,s117.wk.nd hMc hBc (j:=1) rfl rfl,adr fb,rfl,qd,s117.wk.nd hMf hBf (j:=3) rfl rfl,fun hsd=>?_,fun _=>⟨adr vb',rfl,s117.wk.off hMv hBv (j:=8) (n:=1) (by simp),trivial,trivial,key100 _ (n117.nst g (Nst.set s117.wk hMv hBv (i_x (b:=vb'))))⟩⟩;cases hdl:f.dflt with
   | nil=>
    rw [hdl] at hdf;rw [show qd=none from hdf] at hsd;cases hsd
   | cons dv rest=>
    rw [hdl] at hdf;obtain ⟨dvb,rfl,hpdv⟩:=hdf;obtain ⟨kd,rd,Ad,Ld,Cd,posd,hMdv,hBdv⟩:=hpdv.blk;exact ⟨adr fb,rfl,_,s117.wk.nd hMf hBf (j:=3) rfl rfl,adr dvb,rfl,kd,s117.wk.nd hMdv hBdv (j:=2) rfl rfl,adr vb',rfl,s117.wk.off hMv hBv (j:=8) (n:=1) (by simp),trivial,trivial,key100 _ (n117.nst g (Nst.set s117.wk hMv hBv (i_x (b:=vb'))))⟩
 intro K130 hK130;refine ⟨adr vb,rfl,k,hw.wk.nd hM hB (j:=2) rfl rfl,fun _=>?_,fun _=>hK130 false w ⟨nofun,fun _=>key3 w (Wr.refl hd)⟩⟩;refine ⟨adr c.wb,rfl,o.co,(hw.walker.at (j:=4) rfl).cell,hK130 _ w ⟨fun hb=>?_,fun _=>key3 w (Wr.refl hd)⟩⟩;rcases hw.co with hco|⟨ob,x,hco,hpo⟩
 ·rw [hco] at hb;cases hb
 intro w133 e133;have n133:=(Wr.refl hd).drew g e133;have s133:=n133.st;obtain ⟨A1,L1,C1,A2,L2,C2,A4,L4,C4,poso,hMo,hBo,hvars,-⟩:=hpo;refine ⟨adr c.wb,rfl,_,(s133.walker.at (j:=4) rfl).cell,adr ob,hco,A1,L1,C1,s133.wk.nd hMo hBo (j:=3) rfl rfl,adr vb,rfl,r,s133.wk.nd hM hB (j:=0) rfl rfl,?_⟩;refine (b_g s133.wk hvars).mono ?_;rintro _ _ ⟨q142,rfl,rfl,hq⟩;have gq:GVar c q142:=by
  cases hf:a_h VarD.name x.vars r with
  | none=>rw [hf] at hq;exact .inl hq
  | some vd=>
   rw [hf] at hq;obtain ⟨bb,rfl,hpv⟩:=hq;exact .inr ⟨bb,vd,rfl,hpv⟩
 have n144:=n133.nst g (Nst.set s133.wk hM hB (o_o (b:=vb) gq));have s144:=n144.st;refine ⟨q142,rfl,trivial,trivial,adr vb,rfl,s133.wk.off hM hB (j:=6) (n:=1) (by simp),trivial,trivial,?_⟩;have hcell:=s133.wk.setcell hM hB (j:=6) (v:=.pointer q142) (by simp);refine ⟨adr vb,rfl,q142,hcell,fun hs=>?_,fun _=>key3 _ n144⟩;rcases gq with rfl|⟨db,d,rfl,hpd⟩
 ·cases hs
 obtain ⟨tb,qd,A6,L6,C6,pos6,hMd,hBd,-⟩:=hpd;exact ⟨adr vb,rfl,_,hcell,adr db,rfl,s144.wk.off hMd hBd (j:=8) (n:=1) (by simp),trivial,key3 _ (n144.nst g (Nst.set s144.wk hMd hBd (b_Q (T:=254) (j:=8) rfl (by decide) (by decide) (by decide) (by decide))))⟩
theorem d_5 {c:WCtx}(g:Good c):∀ (x:Val),WV c x
 | .mk k r kids=>f_u g k r kids fun x hx=>by
  have:SizeOf.sizeOf x.2<1+SizeOf.sizeOf k+SizeOf.sizeOf r+SizeOf.sizeOf kids:=by
   have h1:=List.sizeOf_lt_of_mem hx;cases x;simp at h1 ⊢;omega
  exact d_5 g x.2
 termination_by x=>SizeOf.sizeOf x
theorem d_R {c:WCtx}(g:Good c){o:OC}{vs:List BA}{l:List Ev}{w:World}{ad:OA}{x:Argm}{ab:Nat}(dw:Wd c o vs l w)(hall:∀ e∈evV x.v,DocEv c e)
  (hd:ad=none∨∃ db d,ad=some (adr db)/\b_u c.M c.w0 d db/\a_s d) (ha:PArg c.M c.w0 x ab):
  CP 219 #[.pointer (some (adr c.wb)),.pointer ad,.pointer (some (adr ab))] w fun e w'=>e=.returned (.tuple #[])/\Wr c o vs l w (evV x.v) w':=by
 have hw:=dw.st;obtain ⟨vb,pos,hM,hB,hv⟩:=ha;obtain ⟨k,r,A,L,C,posv,hMv,hBv⟩:=hv.blk;refine c_n (some (adr c.wb)) ad (some (adr ab)) w _ fun K4 hK4=>?_;have key4:∀ w5,Wr c o vs l w [] w5->K4 w5:=by
  intro w5 n5;have s5:=n5.st;refine hK4 w5 ⟨adr ab,rfl,_,s5.wk.nd hM hB (j:=1) rfl rfl,(n5.then fun vs' l' d' _=>d_5 g x.v vb w5 o vs' l' d' hv hall).mono ?_⟩;rintro _ w9 ⟨rfl,n9⟩;exact ⟨rfl,trivial,rfl,n9⟩
 refine ⟨fun hs=>?_,fun _=>key4 w (Wr.refl dw)⟩;rcases hd with rfl|⟨db,d,rfl,hpd,hok⟩
 ·cases hs
 obtain ⟨qd,tb,A6,L6,C6,pos6,hMd,hBd,hdf,hty,-⟩:=hpd;intro w10 e10;have n10:=(Wr.refl dw).drew g e10;have s10:=n10.st;refine ⟨adr ab,rfl,_,s10.wk.nd hM hB (j:=1) rfl rfl,adr db,rfl,_,s10.wk.nd hMd hBd (j:=3) rfl rfl,adr vb,rfl,s10.wk.off hMv hBv (j:=7) (n:=1) (by simp),trivial,trivial,fun K17 hK17=>?_⟩;have n16:=n10.nst g (Nst.set s10.wk hMv hBv (i_w (b:=vb) (.inr ⟨tb,d.t,rfl,hty⟩)));have key17:∀ w',Wr c o vs l w [] w'->K17 w':=by
  intro w' n';refine hK17 w' fun w19 e19=>?_;have n19:=n'.drew g e19;have s19:=n19.st;obtain ⟨z1,z2,z3,z4⟩:=s19.sch g;refine ⟨adr ab,rfl,_,s19.wk.nd hM hB (j:=1) rfl rfl,adr c.wb,rfl,_,z1,adr c.sb,rfl,_,z2,adr db,rfl,_,s19.wk.nd hMd hBd (j:=3) rfl rfl,?_⟩;refine (a_I d.t tb w19 s19.wk hty hok.1).mono ?_;rintro _ _ ⟨rfl,rfl⟩;obtain ⟨q31,r31,o31⟩:=z4 (a_w d.t);have g31:=GDef.of g o31;exact ⟨_,rfl,trivial,by simp,q31,r31,adr vb,rfl,s19.wk.off hMv hBv (j:=5) (n:=1) (by simp),trivial,trivial,key4 _ (n19.nst g (Nst.set s19.wk hMv hBv (i_v (b:=vb) g31)))⟩
 intro w34 e34;have n34:=n16.drew g e34;have s34:=n34.st;refine ⟨adr ab,rfl,_,s34.wk.nd hM hB (j:=1) rfl rfl,adr db,rfl,qd,s34.wk.nd hMd hBd (j:=2) rfl rfl,fun hsd=>?_,fun _=>⟨adr vb,rfl,s34.wk.off hMv hBv (j:=8) (n:=1) (by simp),trivial,trivial,key17 _ (n34.nst g (Nst.set s34.wk hMv hBv (i_x (b:=vb))))⟩⟩;cases hdl:d.dflt with
 | nil=>
  rw [hdl] at hdf;rw [show qd=none from hdf] at hsd;cases hsd
 | cons dv rest=>
  rw [hdl] at hdf;obtain ⟨dvb,rfl,hpdv⟩:=hdf;obtain ⟨kd,rd,Ad,Ld,Cd,posd,hMdv,hBdv⟩:=hpdv.blk;exact ⟨adr db,rfl,_,s34.wk.nd hMd hBd (j:=2) rfl rfl,adr dvb,rfl,kd,s34.wk.nd hMdv hBdv (j:=2) rfl rfl,adr vb,rfl,s34.wk.off hMv hBv (j:=8) (n:=1) (by simp),trivial,trivial,key17 _ (n34.nst g (Nst.set s34.wk hMv hBv (i_x (b:=vb))))⟩
theorem i_2 {c:WCtx}{xs:List ArgDef}{n:BA}(hok:∀ y∈xs,a_s y)(h:OptQ (b_u c.M c.w0) (a_h ArgDef.name xs n) q):q=none∨∃ db d,q=some (adr db)/\b_u c.M c.w0 d db/\a_s d:=by
 cases hf:a_h ArgDef.name xs n with
 | none=>rw [hf] at h;exact .inl h
 | some d=>
  rw [hf] at h;obtain ⟨b,rfl,hp⟩:=h;exact .inr ⟨b,d,rfl,hp,hok d (a_U hf).1⟩
theorem dlook {c:WCtx}{w1:World}{N:Nat}{dm:List (BA × Value)}(h:SMap w1 N dm){P:DirDef->Nat->Prop}{dirs:List DirDef}(hn:NMap DirDef.name P dirs dm)(u:BA):∃ q,(Instr.lookup 215 (.map (some N)) (.string u) false).run Tryz.prog w1=.ok (.pointer q) w1/\OptQ P (lastN DirDef.name dirs u) q:=by
 obtain ⟨q,hq,ho⟩:=hn.look u;refine ⟨q,?_,ho⟩;have:=a_W (t:=215) (kt:=9) (e:=176) (u:=u) (i:=Tryz.t176) (by kernel_rfl) (by kernel_rfl) (by kernel_rfl) rfl h false;rw [this];show Result.ok ((mget dm u).getD (.pointer none)) w1=_;rw [hq]
theorem c_t {α β:Type}(f:α->List β){xs:List α}{x:α}(h0:0<=i)(hx:xs[i.toNat]? =some x):(xs.take (i+1).toNat).flatMap f=(xs.take i.toNat).flatMap f++f x:=by
 rw [show (i+1).toNat=i.toNat+1 by omega,List.take_add_one,hx,List.flatMap_append];simp
theorem a_D {c:WCtx}(g:Good c){o:OC}{vs:List BA}{l:List Ev}{w:World}{pd:OA}{L:Nat}{xs:List Dir}{loc:BA}(dw:Wd c o vs l w)
  (hx:PDirs c.M c.w0 A L C xs) (hall:∀ e∈evDs loc xs,DocEv c e):
  CP 207 #[.pointer (some (adr c.wb)),.pointer pd,.slice A L C,.string loc] w fun e w'=>e=.returned (.tuple #[])/\Wr c o vs l w (evDs loc xs) w':=by
 have hl2:=hx.2.2.1;have hl0:=hx.1;have hw:=dw.st;refine b_8 (some (adr c.wb)) pd A L C loc w _ ⟨fun i w1=>0<=i/\i<=L/\Wr c o vs l w ((xs.take i.toNat).flatMap fun d=>b_B d.args++[.dir d loc]) w1,fun i _=>((L:Int)-i).toNat,⟨by omega,by omega,by simpa using Wr.refl dw⟩,?_⟩;rintro i w8 ⟨h0,hi,n8⟩;have s8:=n8.st;refine ⟨fun hlt=>?_,fun hge=>?_⟩
 ·have hlt:=odt hlt;obtain ⟨p,x,v,hpp,hxx,hc,db,rfl,hpx⟩:=hx.wget s8.wk (fun _=>rfl) h0 hlt;have hpx':=hpx;obtain ⟨A2,L2,C2,pos,hM,hB,hargs,-⟩:=hpx';have hL2:=hargs.2.2.1;have hL20:=hargs.1;have hmem:=mg_ hxx;refine ⟨p,hpp,⟨h0,hlt⟩,_,hc,fun w11 e11=>?_⟩;have n11:=n8.drew g e11;have s11:=n11.st;obtain ⟨z1,z2,z3,z4⟩:=s11.sch g;obtain ⟨q18,r18,o18⟩:=dlook (c:=c) (s11.wk.smap g.m2.1 g.m2.2.1) g.m2.2.2 x.name;have n20:=n11.nst g (Nst.set (v:=.pointer q18) s11.wk hM hB (b_Q (T:=179) (j:=4) rfl (by decide) (by decide) (by decide) (by decide)));have s20:=n20.st;have n22:=n20.nst g (Nst.set (v:=.pointer pd) s20.wk hM hB (b_Q (T:=179) (j:=3) rfl (by decide) (by decide) (by decide) (by decide)));have s22:=n22.st;have n24:=n22.nst g (Nst.set (v:=.string loc) s22.wk hM hB (b_Q (T:=179) (j:=5) rfl (by decide) (by decide) (by decide) (by decide)));have s24:=n24.st;refine ⟨adr c.wb,rfl,_,z1,adr c.sb,rfl,_,z3,adr db,rfl,_,s11.wk.nd hM hB (j:=0) rfl rfl,q18,r18,trivial,adr db,rfl,s11.wk.off hM hB (j:=4) (n:=1) (by simp),trivial,adr db,rfl,s20.wk.off hM hB (j:=3) (n:=1) (by simp),trivial,adr db,rfl,s22.wk.off hM hB (j:=5) (n:=1) (by simp),trivial,adr db,rfl,A2,L2,C2,s24.wk.nd hM hB (j:=1) rfl rfl,?_⟩;refine ⟨fun j w1=>0<=j/\j<=L2/\Wr c o vs l w (((xs.take i.toNat).flatMap fun d=>b_B d.args++[.dir d loc])++b_B (x.args.take j.toNat)) w1,fun j _=>((L2:Int)-j).toNat,⟨by omega,by omega,by rw [show b_B (x.args.take (0:Int).toNat)=[] from rfl,List.append_nil];exact n24⟩,?_⟩;rintro j w30 ⟨k0,kj,n30⟩;have s30:=n30.st;refine ⟨fun klt=>?_,fun kge=>?_⟩
  ·have klt:=odt klt;obtain ⟨p2,x2,v2,hpp2,hxx2,hc2,ab,rfl,harg⟩:=hargs.wget s30.wk (fun _=>rfl) k0 klt;refine ⟨p2,hpp2,⟨k0,klt⟩,_,hc2,fun K33 hK33=>?_⟩;have key33:∀ q w',Wr c o vs l w (((xs.take i.toNat).flatMap fun d=>b_B d.args++[.dir d loc])++b_B (x.args.take j.toNat)) w'->(q=none∨∃ db d,q=some (adr db)/\b_u c.M c.w0 d db/\a_s d)->K33 q w':=by
    intro q w' n' hq;refine hK33 q w' ((n'.then fun vs' l' d' _=>d_R g d' (fun e he=>hall e ?_) hq harg).mono ?_)
    ·exact ma_.2 (.inl (mf_.2 ⟨x,hmem,ma_.2 (.inl (mf_.2 ⟨x2,mg_ hxx2,he⟩))⟩))
    rintro _ w2 ⟨rfl,n2⟩;refine ⟨rfl,trivial,?_⟩;rw [a_a k0 (by omega)];refine next k0 klt ?_
    rw [b_B,c_t _ k0 hxx2,<- List.append_assoc];exact n2
   refine ⟨fun hs=>?_,fun _=>key33 none w30 n30 (.inl rfl)⟩;cases hl:lastN DirDef.name c.dirs x.name with
   | none=>
    rw [hl] at o18;rw [show q18=none from o18] at hs;cases hs
   | some dd=>
    rw [hl] at o18;obtain ⟨ddb,rfl,A1,L1,C1,A3,L3,C3,pos3,hMd,hBd,hads,-⟩:=o18;intro w38 e38;have n38:=n30.drew g e38;have s38:=n38.st;have harg':=harg;obtain ⟨vb2,pos2,hMa,hBa,-⟩:=harg';refine ⟨adr ddb,rfl,A1,L1,C1,s38.wk.nd hMd hBd (j:=2) rfl rfl,adr ab,rfl,_,s38.wk.nd hMa hBa (j:=0) rfl rfl,?_⟩;refine (a_H s38.wk hads).mono ?_;rintro _ _ ⟨q45,rfl,rfl,hq45⟩;exact ⟨q45,rfl,trivial,trivial,trivial,key33 q45 _ n38 (i_2 (g.okd dd (g_m hl)) hq45)⟩
  ·have kle:=odf kge;rw [show x.args.take j.toNat=x.args from tl_ (by omega)] at n30;obtain ⟨y1,y2⟩:=n30.events 5 rfl;refine ⟨adr c.wb,rfl,_,y1,adr c.eb,rfl,_,_,_,y2,?_⟩;refine n30.visit g (ev:=.dir x loc) rfl ⟨db,rfl,hpx⟩ (hall _ (ma_.2 (.inl (mf_.2 ⟨x,hmem,by simp⟩)))) fun w2 h2=>?_;rw [a_a h0 (by omega)];refine next h0 hlt ?_
   rw [c_t _ h0 hxx,<- List.append_assoc];exact h2
 ·have hle:=odf hge;rw [tl_ (by omega)] at n8;obtain ⟨y1,y2⟩:=n8.events 6 rfl;refine ⟨adr c.wb,rfl,_,y1,adr c.eb,rfl,_,_,_,y2,?_⟩;exact n8.visit g (ev:=.dirs xs) rfl ⟨A,L,C,rfl,hx⟩ (hall _ (by simp [evDs])) fun w2 h2=>⟨rfl,h2⟩
end Go.VC
