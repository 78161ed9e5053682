/- Part of the proof of a law of a rule over documents (MakeA), where what the arguments hold is of bulk at most 1048576. -/
import Derived.Test.YtmnhdjhlcgfpkaaGreatWideB
import Derived.Test.YtmnhdjhlcgfpkaaGreatTextD
set_option linter.unusedVariables false
set_option linter.unusedSectionVars false
set_option linter.deprecated false
namespace Go.VC
open Go Go.Proofs
variable [DB]
variable {b b2 c l mb:Nat}{X:Nat->Prop}{a:OA}{w'':World}
structure Keeps (S S':Nat->Prop) (w w':World):Prop where
 sub:∀ b,S b->b<w.heap.size->S' b
 size:w.heap.size<=w'.heap.size
 obj:∀ b o,S b->objAt w b=some o->objAt w' b=some o
theorem Ext.keeps {S S':Nat->Prop}{w w':World}(h:Ext X w w')(hS:∀ b,S b->b<w.heap.size->S' b)(hX:∀ b,S b->b<w.heap.size->¬ X b):Keeps S S' w w':=
 ⟨hS,h.size,fun b o hb ho=>h.old b o (hX b hb (a_3 ho)) ho⟩
theorem Keeps.blk {S S':Nat->Prop}{w w':World}(h:Keeps S S' w w'){T:TypeId}{cs:List Value}(hb:S b)(k:Blk w b T cs):Blk w' b T cs:=h.obj _ _ hb k
theorem Keeps.at {S S':Nat->Prop}{w w':World}(h:Keeps S S' w w'){T:TypeId}{a:Addr}{v:Value}(hb:S a.block)(k:At w T a v):At w' T a v:=by
 obtain ⟨cs,fr,h1,h2,h3⟩:=k;exact ⟨cs,fr,h.obj _ _ hb h1,h2,h3⟩
theorem Keeps.all {S S':Nat->Prop}(w:World)(hS:∀ b,S b->b<w.heap.size->S' b):Keeps S S' w w:=⟨hS,Nat.le_refl _,fun _ _ _ h=>h⟩
theorem Keeps.sp {S S':Nat->Prop}{w w':World}(h:Keeps S S' w w'){p:Addr}{i:Nat}{T:TypeId}{v:Value}(hs:S p.block)(ha:At w T (p.add i) v):S' p.block:=h.sub _ hs (by
 have:=ha.lt
 rwa [b_x] at this)
def PSl {α:Type}(S:Nat->Prop)(w:World)(T:TypeId)(P:α->Value->Prop)(A:OA)(L C:Nat)(xs:List α):Prop:=
 L=xs.length/\L<=C/\L<=4194304/\∀ (i:Nat) (x:α),xs[i]? =some x->∃ (p:Addr) (v:Value),A=some p/\S p.block/\At w T (p.add i) v/\P x v
theorem PSl.keep {α:Type}{S S':Nat->Prop}{w w':World}{T:TypeId}{P P':α->Value->Prop}{A:OA}{L C:Nat}{xs:List α}(h:Keeps S S' w w')(hx:PSl S w T P A L C xs)(hP:∀ x∈xs,∀ v,P x v->P' x v):PSl S' w' T P' A L C xs:=by
 obtain ⟨h1,h2,h3,h4⟩:=hx;refine ⟨h1,h2,h3,fun i x hi=>?_⟩;obtain ⟨p,v,hp,hs,ha,hv⟩:=h4 i x hi;exact ⟨p,v,hp,h.sp hs ha,h.at (by rw [b_x];exact hs) ha,hP x (mg_ hi) v hv⟩
theorem PSl.nil {α:Type}{S:Nat->Prop}{w:World}{T:TypeId}{P:α->Value->Prop}:PSl S w T P none 0 0 []:=⟨rfl,Nat.le_refl _,by omega,fun i x h=>by simp at h⟩
theorem PSl.get {α:Type}{S:Nat->Prop}{w:World}{T:TypeId}{P:α->Value->Prop}{A:OA}{L C:Nat}{xs:List α}(h:PSl S w T P A L C xs){i:Int}(h0:0<=i)(hi:i<(L:Int)):
  ∃ (p:Addr) (x:α) (v:Value),A=some p/\xs[i.toNat]? =some x/\S p.block/\At w T (p.add (i.toNat*1)) v/\P x v:=by
 obtain ⟨h1,h2,_,h3⟩:=h;have:i.toNat<xs.length:=by omega
 obtain ⟨p,v,hp,hs,ha,hv⟩:=h3 i.toNat _ (List.getElem?_eq_getElem this);exact ⟨p,_,v,hp,List.getElem?_eq_getElem this,hs,by rw [Nat.mul_one];exact ha,hv⟩
abbrev Ptr {α:Type}(P:α->Nat->Prop):α->Value->Prop:=fun x v=>∃ b,v=.pointer (some (adr b))/\P x b
section
variable (S:Nat->Prop) (w:World)
abbrev PStrs (A:OA)(L C:Nat)(xs:List BA):Prop:=PSl S w 9 (fun s v=>v=.string s) A L C xs
mutual
def PVal:Val->Nat->Prop
 | .mk k r kids,b=>∃ (A:OA) (L C:Nat) (pos:OA),S b/\Blk w b 200 [.string r,.slice A L C,.int .i64 k,.pointer pos,.pointer none,.pointer none,.pointer none,.pointer none,.bool false]/\
   L=kids.length/\L<=C/\L<=4194304/\PKids kids A 0
def PKids:List (BA × Val)->OA->Nat->Prop
 | [],_,_=>True
 | (n,v)::l,A,i=>(∃ (p:Addr) (u:Value),A=some p/\S p.block/\At w 276 (p.add i) u/\∃ cb,u=.pointer (some (adr cb))/\∃ (vb:Nat) (pos:OA),S cb/\Blk w cb 278 [.string n,.pointer (some (adr vb)),.pointer pos,.pointer none]/\
   PVal v vb)/\PKids l A (i+1)
end
def PKid (x:BA × Val)(cb:Nat):Prop:=∃ (vb:Nat) (pos:OA),S cb/\Blk w cb 278 [.string x.1,.pointer (some (adr vb)),.pointer pos,.pointer none]/\PVal S w x.2 vb
mutual
def PTyp:Typ->Nat->Prop
 | .mk n el nn,b=>∃ (q pos:OA),S b/\Blk w b 262 [.string n,.pointer q,.bool nn,.pointer pos]/\PTypE el q
def PTypE:List Typ->OA->Prop
 | [],q=>q=none
 | t::_,q=>∃ eb,q=some (adr eb)/\PTyp t eb
end
def f_Q (l:List Val)(q:OA):Prop:=match l with
 | []=>q=none
 | v::_=>∃ b,q=some (adr b)/\PVal S w v b
def PArg (x:Argm)(b:Nat):Prop:=∃ (vb:Nat) (pos:OA),S b/\Blk w b 394 [.string x.name,.pointer (some (adr vb)),.pointer pos,.pointer none]/\PVal S w x.v vb
abbrev PArgs (A:OA)(L C:Nat)(xs:List Argm):Prop:=PSl S w 393 (Ptr (PArg S w)) A L C xs
def PPos (q:OA):Prop:=∃ (pb:Nat) (v0 v1 v4:Value) (n m:Int),q=some (adr pb)/\S pb/\Blk w pb 344 [v0,v1,.int .i64 n,.int .i64 m,v4]
def PDir (x:Dir)(b:Nat):Prop:=∃ (A:OA) (L C:Nat) (pos:OA),S b/\Blk w b 350 [.string x.name,.slice A L C,.pointer pos,.pointer none,.pointer none,.string E0]/\PArgs S w A L C x.args/\PPos S w pos
abbrev PDirs (A:OA)(L C:Nat)(xs:List Dir):Prop:=PSl S w 266 (Ptr (PDir S w)) A L C xs
mutual
def PSel:Sel->Value->Prop
 | .mk k al n on args dirs kids,v=>
  (k=0/\∃ (b:Nat) (A1:OA) (L1 C1:Nat) (A2:OA) (L2 C2:Nat) (A3:OA) (L3 C3:Nat) (pos:OA),v=.iface 155 (.pointer (some (adr b)))/\S b/\
   Blk w b 167 [.string al,.string n,.slice A1 L1 C1,.slice A2 L2 C2,.slice A3 L3 C3,.pointer pos,.pointer none,.pointer none,.pointer none]/\PArgs S w A1 L1 C1 args/\PDirs S w A2 L2 C2 dirs/\L3=kids.length/\L3<=C3/\L3<=4194304/\PSels' kids A3 0)∨
  (k=1/\∃ (b:Nat) (A2:OA) (L2 C2:Nat) (pos:OA),v=.iface 180 (.pointer (some (adr b)))/\S b/\
   Blk w b 183 [.string n,.slice A2 L2 C2,.pointer none,.pointer none,.pointer pos,.pointer none]/\PDirs S w A2 L2 C2 dirs)∨
  (k=2/\∃ (b:Nat) (A2:OA) (L2 C2:Nat) (A3:OA) (L3 C3:Nat) (pos:OA),v=.iface 190 (.pointer (some (adr b)))/\S b/\
   Blk w b 192 [.string on,.slice A2 L2 C2,.slice A3 L3 C3,.pointer none,.pointer pos,.pointer none]/\PDirs S w A2 L2 C2 dirs/\L3=kids.length/\L3<=C3/\L3<=4194304/\PSels' kids A3 0)
def PSels':List Sel->OA->Nat->Prop
 | [],_,_=>True
 | t::l,A,i=>(∃ (p:Addr) (v:Value),A=some p/\S p.block/\At w 334 (p.add i) v/\PSel t v)/\PSels' l A (i+1)
end
abbrev PSels (A:OA)(L C:Nat)(xs:List Sel):Prop:=PSl S w 334 (PSel S w) A L C xs
def PVar (x:VarD)(b:Nat):Prop:=∃ (tb:Nat) (q:OA) (A:OA) (L C:Nat) (pos:OA),S b/\
 Blk w b 264 [.string E0,.string x.name,.pointer (some (adr tb)),.pointer q,.slice A L C,.pointer pos,.pointer none,.pointer none,.bool false]/\PTyp S w x.t tb/\f_Q S w x.dflt q/\PDirs S w A L C x.dirs
abbrev PVars (A:OA)(L C:Nat)(xs:List VarD):Prop:=PSl S w 198 (Ptr (PVar S w)) A L C xs
def POp (x:OpD)(b:Nat):Prop:=∃ (A1:OA) (L1 C1:Nat) (A2:OA) (L2 C2:Nat) (A3:OA) (L3 C3:Nat) (pos:OA),S b/\
 Blk w b 237 [.string E0,.string x.kind,.string x.name,.slice A1 L1 C1,.slice A2 L2 C2,.slice A3 L3 C3,.pointer pos,.pointer none]/\PVars S w A1 L1 C1 x.vars/\PDirs S w A2 L2 C2 x.dirs/\PSels S w A3 L3 C3 x.kids
abbrev POps (A:OA)(L C:Nat)(xs:List OpD):Prop:=PSl S w 225 (Ptr (POp S w)) A L C xs
def PFrag (x:Frag)(b:Nat):Prop:=∃ (A2:OA) (L2 C2:Nat) (A3:OA) (L3 C3:Nat) (pos:OA),S b/\
 Blk w b 187 [.string E0,.string x.name,.slice none 0 0,.string x.on,.slice A2 L2 C2,.slice A3 L3 C3,.pointer none,.pointer pos,.pointer none]/\PDirs S w A2 L2 C2 x.dirs/\PSels S w A3 L3 C3 x.kids
abbrev h_r (A:OA)(L C:Nat)(xs:List Frag):Prop:=PSl S w 181 (Ptr (PFrag S w)) A L C xs
def b_u (x:ArgDef)(b:Nat):Prop:=∃ (q:OA) (tb:Nat) (A:OA) (L C:Nat) (pos:OA),S b/\
 Blk w b 391 [.string x.doc,.string x.name,.pointer q,.pointer (some (adr tb)),.slice A L C,.pointer pos,.pointer none,.pointer none]/\f_Q S w x.dflt q/\PTyp S w x.t tb/\PDirs S w A L C x.dirs
abbrev a_1 (A:OA)(L C:Nat)(xs:List ArgDef):Prop:=PSl S w 389 (Ptr (b_u S w)) A L C xs
def PFld (x:Fld)(b:Nat):Prop:=∃ (A1:OA) (L1 C1:Nat) (q:OA) (tb:Nat) (A:OA) (L C:Nat) (pos:OA),S b/\
 Blk w b 176 [.string x.doc,.string x.name,.slice A1 L1 C1,.pointer q,.pointer (some (adr tb)),.slice A L C,.pointer pos,.pointer none,.pointer none]/\a_1 S w A1 L1 C1 x.args/\f_Q S w x.dflt q/\PTyp S w x.t tb/\PDirs S w A L C x.dirs
abbrev PFlds (A:OA)(L C:Nat)(xs:List Fld):Prop:=PSl S w 164 (Ptr (PFld S w)) A L C xs
def PEnum (x:EnumV)(b:Nat):Prop:=∃ (A:OA) (L C:Nat) (pos:OA),S b/\Blk w b 388 [.string x.doc,.string x.name,.slice A L C,.pointer pos,.pointer none,.pointer none]/\PDirs S w A L C x.dirs
abbrev i_W (A:OA)(L C:Nat)(xs:List EnumV):Prop:=PSl S w 386 (Ptr (PEnum S w)) A L C xs
def PDef (x:Def)(b:Nat):Prop:=∃ (A1:OA) (L1 C1:Nat) (A2:OA) (L2 C2:Nat) (A3:OA) (L3 C3:Nat) (A4:OA) (L4 C4:Nat) (A5:OA) (L5 C5:Nat) (pos:OA),S b/\
 Blk w b 274 [.string x.kind,.string x.doc,.string x.name,.slice A1 L1 C1,.slice A2 L2 C2,.slice A3 L3 C3,.slice A4 L4 C4,.slice A5 L5 C5,.pointer pos,.slice none 0 0,.bool false,.pointer none,.pointer none,.pointer none]/\
 PDirs S w A1 L1 C1 x.dirs/\PStrs S w A2 L2 C2 x.ifaces/\PFlds S w A3 L3 C3 x.fields/\PStrs S w A4 L4 C4 x.types/\i_W S w A5 L5 C5 x.enums
abbrev PDefs (A:OA)(L C:Nat)(xs:List Def):Prop:=PSl S w 165 (Ptr (PDef S w)) A L C xs
def a_Q (x:DirDef)(b:Nat):Prop:=∃ (A1:OA) (L1 C1:Nat) (A2:OA) (L2 C2:Nat) (pos:OA),S b/\
 Blk w b 295 [.string x.doc,.string x.name,.slice A1 L1 C1,.slice none 0 0,.slice A2 L2 C2,.bool x.rep,.pointer pos,.pointer none,.pointer none]/\a_1 S w A1 L1 C1 x.args/\
 PSl S w 348 (fun s v=>v=.string s) A2 L2 C2 x.locs
abbrev d_w (A:OA)(L C:Nat)(xs:List DirDef):Prop:=PSl S w 292 (Ptr (a_Q S w)) A L C xs
end
theorem i_X {S:Nat->Prop}{w:World}:∀ {kids:List (BA × Val)} {A:OA} {i:Nat},PKids S w kids A i↔∀ (j:Nat) (x:BA × Val),kids[j]? =some x->∃ (p:Addr) (v:Value),A=some p/\S p.block/\At w 276 (p.add (i+j)) v/\Ptr (PKid S w) x v
 | [],A,i=>by simp [PKids]
 | (n,v)::l,A,i=>by
  simp only [PKids];rw [i_X];constructor
  ·rintro ⟨h1,h2⟩ j x hx;cases j with
   | zero=>
    obtain rfl:(n,v)=x:=by simpa using hx
    exact h1
   | succ j=>
    have:=h2 j x (by simpa using hx)
    rwa [show i+1+j=i+(j+1) by omega] at this
  ·intro h;refine ⟨h 0 (n,v) rfl,fun j x hx=>?_⟩;have:=h (j+1) x (by simpa using hx)
   rwa [show i+(j+1)=i+1+j by omega] at this
theorem j_Z {S:Nat->Prop}{w:World}{k:Int}{r:BA}{kids:List (BA × Val)}:PVal S w (.mk k r kids) b↔∃ (A:OA) (L C:Nat) (pos:OA),S b/\
  Blk w b 200 [.string r,.slice A L C,.int .i64 k,.pointer pos,.pointer none,.pointer none,.pointer none,.pointer none,.bool false]/\PSl S w 276 (Ptr (PKid S w)) A L C kids:=by
 simp only [PVal,PSl];rw [show (PKids S w kids)=fun A i=>PKids S w kids A i from rfl];simp only [i_X,Nat.zero_add]
theorem PSels'_get {S:Nat->Prop}{w:World}:∀ {el:List Sel} {A:OA} {i:Nat},PSels' S w el A i↔∀ (j:Nat) (x:Sel),el[j]? =some x->∃ (p:Addr) (v:Value),A=some p/\S p.block/\At w 334 (p.add (i+j)) v/\PSel S w x v
 | [],A,i=>by simp [PSels']
 | t::l,A,i=>by
  simp only [PSels'];rw [PSels'_get];constructor
  ·rintro ⟨h1,h2⟩ j x hx;cases j with
   | zero=>
    obtain rfl:t=x:=by simpa using hx
    exact h1
   | succ j=>
    have:=h2 j x (by simpa using hx)
    rwa [show i+1+j=i+(j+1) by omega] at this
  ·intro h;refine ⟨h 0 t rfl,fun j x hx=>?_⟩;have:=h (j+1) x (by simpa using hx)
   rwa [show i+(j+1)=i+1+j by omega] at this
theorem PSels'_iff {S:Nat->Prop}{w:World}{kids:List Sel}{A:OA}{L C:Nat}:(L=kids.length/\L<=C/\L<=4194304/\PSels' S w kids A 0)↔PSels S w A L C kids:=by
 simp only [PSl];rw [PSels'_get];simp only [Nat.zero_add]
section
variable {S S':Nat->Prop} {w w':World}
mutual
theorem PVal.keep (h:Keeps S S' w w'):∀ {x:Val} {b:Nat},PVal S w x b->PVal S' w' x b
 | .mk k r kids,b,hx=>by
  simp only [PVal] at hx ⊢;obtain ⟨A,L,C,pos,h1,h2,h3,h4,h5,h6⟩:=hx;exact ⟨A,L,C,pos,h.sub _ h1 h2.lt,h.blk h1 h2,h3,h4,h5,PKids.keep h h6⟩
theorem PKids.keep (h:Keeps S S' w w'):∀ {x:List (BA × Val)} {A:OA} {i:Nat},PKids S w x A i->PKids S' w' x A i
 | [],_,_,_=>trivial
 | (n,v)::l,A,i,hx=>by
  simp only [PKids] at hx ⊢;obtain ⟨⟨p,u,hp,hs,ha,cb,hu,vb,pos,h1,h2,h3⟩,h4⟩:=hx;exact ⟨⟨p,u,hp,h.sp hs ha,h.at (by rw [b_x];exact hs) ha,cb,hu,vb,pos,h.sub _ h1 h2.lt,h.blk h1 h2,PVal.keep h h3⟩,PKids.keep h h4⟩
end
theorem PKid.keep (h:Keeps S S' w w'){x:BA × Val}:PKid S w x b->PKid S' w' x b
 | ⟨vb,pos,h1,h2,h3⟩=>⟨vb,pos,h.sub _ h1 h2.lt,h.blk h1 h2,h3.keep h⟩
mutual
theorem PTyp.keep (h:Keeps S S' w w'):∀ {x:Typ} {b:Nat},PTyp S w x b->PTyp S' w' x b
 | .mk n el nn,b,hx=>by
  simp only [PTyp] at hx ⊢;obtain ⟨q,pos,h1,h2,h3⟩:=hx;exact ⟨q,pos,h.sub _ h1 h2.lt,h.blk h1 h2,PTypE.keep h h3⟩
theorem PTypE.keep (h:Keeps S S' w w'):∀ {x:List Typ} {q:OA},PTypE S w x q->PTypE S' w' x q
 | [],_,hx=>hx
 | t::_,q,hx=>by
  simp only [PTypE] at hx ⊢;obtain ⟨eb,h1,h2⟩:=hx;exact ⟨eb,h1,PTyp.keep h h2⟩
end
theorem f_Q.keep (h:Keeps S S' w w'):∀ {l:List Val} {q:OA},f_Q S w l q->f_Q S' w' l q
 | [],_,hx=>hx
 | v::_,q,⟨b,h1,h2⟩=>⟨b,h1,h2.keep h⟩
theorem PArg.keep (h:Keeps S S' w w'){x:Argm}:PArg S w x b->PArg S' w' x b
 | ⟨vb,pos,h1,h2,h3⟩=>⟨vb,pos,h.sub _ h1 h2.lt,h.blk h1 h2,h3.keep h⟩
theorem Ptr.keep {α:Type}{P P':α->Nat->Prop}(h:∀ x b,P x b->P' x b){x:α}{v:Value}:Ptr P x v->Ptr P' x v
 | ⟨b,h1,h2⟩=>⟨b,h1,h x b h2⟩
theorem PArgs.keep (h:Keeps S S' w w'){A:OA}{L C:Nat}{xs:List Argm}(hx:PArgs S w A L C xs):PArgs S' w' A L C xs:=PSl.keep h hx fun _ _ _=>Ptr.keep fun _ _=>PArg.keep h
theorem PPos.keep (h:Keeps S S' w w'){q:OA}:PPos S w q->PPos S' w' q
 | ⟨pb,v0,v1,v4,n,m,e,h1,h2⟩=>⟨pb,v0,v1,v4,n,m,e,h.sub _ h1 h2.lt,h.blk h1 h2⟩
theorem PDir.keep (h:Keeps S S' w w'){x:Dir}:PDir S w x b->PDir S' w' x b
 | ⟨A,L,C,pos,h1,h2,h3,h4⟩=>⟨A,L,C,pos,h.sub _ h1 h2.lt,h.blk h1 h2,PArgs.keep h h3,h4.keep h⟩
theorem PDirs.keep (h:Keeps S S' w w'){A:OA}{L C:Nat}{xs:List Dir}(hx:PDirs S w A L C xs):PDirs S' w' A L C xs:=PSl.keep h hx fun _ _ _=>Ptr.keep fun _ _=>PDir.keep h
mutual
theorem PSel.keep (h:Keeps S S' w w'):∀ {x:Sel} {v:Value},PSel S w x v->PSel S' w' x v
 | .mk k al n on args dirs kids,v,hx=>by
  simp only [PSel] at hx ⊢;rcases hx with ⟨hk,b,A1,L1,C1,A2,L2,C2,A3,L3,C3,pos,hv,h1,h2,h3,h4,h5,h6,h7,h8⟩|⟨hk,b,A2,L2,C2,pos,hv,h1,h2,h3⟩|⟨hk,b,A2,L2,C2,A3,L3,C3,pos,hv,h1,h2,h3,h5,h6,h7,h8⟩
  ·exact .inl ⟨hk,b,A1,L1,C1,A2,L2,C2,A3,L3,C3,pos,hv,h.sub _ h1 h2.lt,h.blk h1 h2,PArgs.keep h h3,PDirs.keep h h4,h5,h6,h7,PSels'.keep h h8⟩
  ·exact .inr (.inl ⟨hk,b,A2,L2,C2,pos,hv,h.sub _ h1 h2.lt,h.blk h1 h2,PDirs.keep h h3⟩)
  ·exact .inr (.inr ⟨hk,b,A2,L2,C2,A3,L3,C3,pos,hv,h.sub _ h1 h2.lt,h.blk h1 h2,PDirs.keep h h3,h5,h6,h7,PSels'.keep h h8⟩)
theorem PSels'.keep (h:Keeps S S' w w'):∀ {x:List Sel} {A:OA} {i:Nat},PSels' S w x A i->PSels' S' w' x A i
 | [],_,_,_=>trivial
 | t::l,A,i,hx=>by
  simp only [PSels'] at hx ⊢;obtain ⟨⟨p,v,hp,hs,ha,h1⟩,h4⟩:=hx;exact ⟨⟨p,v,hp,h.sp hs ha,h.at (by rw [b_x];exact hs) ha,PSel.keep h h1⟩,PSels'.keep h h4⟩
end
theorem PSels.keep (h:Keeps S S' w w'){A:OA}{L C:Nat}{xs:List Sel}(hx:PSels S w A L C xs):PSels S' w' A L C xs:=PSl.keep h hx fun _ _ _=>PSel.keep h
theorem PStrs.keep (h:Keeps S S' w w'){A:OA}{L C:Nat}{xs:List BA}(hx:PStrs S w A L C xs):PStrs S' w' A L C xs:=PSl.keep h hx fun _ _ _ e=>e
theorem PVar.keep (h:Keeps S S' w w'){x:VarD}:PVar S w x b->PVar S' w' x b
 | ⟨tb,q,A,L,C,pos,h1,h2,h3,h4,h5⟩=>⟨tb,q,A,L,C,pos,h.sub _ h1 h2.lt,h.blk h1 h2,h3.keep h,h4.keep h,PDirs.keep h h5⟩
theorem PVars.keep (h:Keeps S S' w w'){A:OA}{L C:Nat}{xs:List VarD}(hx:PVars S w A L C xs):PVars S' w' A L C xs:=PSl.keep h hx fun _ _ _=>Ptr.keep fun _ _=>PVar.keep h
theorem POp.keep (h:Keeps S S' w w'){x:OpD}:POp S w x b->POp S' w' x b
 | ⟨A1,L1,C1,A2,L2,C2,A3,L3,C3,pos,h1,h2,h3,h4,h5⟩=>⟨A1,L1,C1,A2,L2,C2,A3,L3,C3,pos,h.sub _ h1 h2.lt,h.blk h1 h2,PVars.keep h h3,PDirs.keep h h4,PSels.keep h h5⟩
theorem POps.keep (h:Keeps S S' w w'){A:OA}{L C:Nat}{xs:List OpD}(hx:POps S w A L C xs):POps S' w' A L C xs:=PSl.keep h hx fun _ _ _=>Ptr.keep fun _ _=>POp.keep h
theorem PFrag.keep (h:Keeps S S' w w'){x:Frag}:PFrag S w x b->PFrag S' w' x b
 | ⟨A2,L2,C2,A3,L3,C3,pos,h1,h2,h4,h5⟩=>⟨A2,L2,C2,A3,L3,C3,pos,h.sub _ h1 h2.lt,h.blk h1 h2,PDirs.keep h h4,PSels.keep h h5⟩
theorem h_r.keep (h:Keeps S S' w w'){A:OA}{L C:Nat}{xs:List Frag}(hx:h_r S w A L C xs):h_r S' w' A L C xs:=PSl.keep h hx fun _ _ _=>Ptr.keep fun _ _=>PFrag.keep h
theorem b_u.keep (h:Keeps S S' w w'){x:ArgDef}:b_u S w x b->b_u S' w' x b
 | ⟨q,tb,A,L,C,pos,h1,h2,h3,h4,h5⟩=>⟨q,tb,A,L,C,pos,h.sub _ h1 h2.lt,h.blk h1 h2,h3.keep h,h4.keep h,PDirs.keep h h5⟩
theorem a_1.keep (h:Keeps S S' w w'){A:OA}{L C:Nat}{xs:List ArgDef}(hx:a_1 S w A L C xs):a_1 S' w' A L C xs:=PSl.keep h hx fun _ _ _=>Ptr.keep fun _ _=>b_u.keep h
theorem PFld.keep (h:Keeps S S' w w'){x:Fld}:PFld S w x b->PFld S' w' x b
 | ⟨A1,L1,C1,q,tb,A,L,C,pos,h1,h2,h0,h3,h4,h5⟩=>⟨A1,L1,C1,q,tb,A,L,C,pos,h.sub _ h1 h2.lt,h.blk h1 h2,a_1.keep h h0,h3.keep h,h4.keep h,PDirs.keep h h5⟩
theorem PFlds.keep (h:Keeps S S' w w'){A:OA}{L C:Nat}{xs:List Fld}(hx:PFlds S w A L C xs):PFlds S' w' A L C xs:=PSl.keep h hx fun _ _ _=>Ptr.keep fun _ _=>PFld.keep h
theorem PEnum.keep (h:Keeps S S' w w'){x:EnumV}:PEnum S w x b->PEnum S' w' x b
 | ⟨A,L,C,pos,h1,h2,h3⟩=>⟨A,L,C,pos,h.sub _ h1 h2.lt,h.blk h1 h2,PDirs.keep h h3⟩
theorem i_W.keep (h:Keeps S S' w w'){A:OA}{L C:Nat}{xs:List EnumV}(hx:i_W S w A L C xs):i_W S' w' A L C xs:=PSl.keep h hx fun _ _ _=>Ptr.keep fun _ _=>PEnum.keep h
theorem PDef.keep (h:Keeps S S' w w'){x:Def}:PDef S w x b->PDef S' w' x b
 | ⟨A1,L1,C1,A2,L2,C2,A3,L3,C3,A4,L4,C4,A5,L5,C5,pos,h1,h2,h3,h4,h5,h6,h7⟩=>⟨A1,L1,C1,A2,L2,C2,A3,L3,C3,A4,L4,C4,A5,L5,C5,pos,h.sub _ h1 h2.lt,h.blk h1 h2,PDirs.keep h h3,PStrs.keep h h4,PFlds.keep h h5,PStrs.keep h h6,i_W.keep h h7⟩
theorem PDefs.keep (h:Keeps S S' w w'){A:OA}{L C:Nat}{xs:List Def}(hx:PDefs S w A L C xs):PDefs S' w' A L C xs:=PSl.keep h hx fun _ _ _=>Ptr.keep fun _ _=>PDef.keep h
theorem a_Q.keep (h:Keeps S S' w w'){x:DirDef}:a_Q S w x b->a_Q S' w' x b
 | ⟨A1,L1,C1,A2,L2,C2,pos,h1,h2,h3,h4⟩=>⟨A1,L1,C1,A2,L2,C2,pos,h.sub _ h1 h2.lt,h.blk h1 h2,a_1.keep h h3,PSl.keep h h4 fun _ _ _ e=>e⟩
theorem d_w.keep (h:Keeps S S' w w'){A:OA}{L C:Nat}{xs:List DirDef}(hx:d_w S w A L C xs):d_w S' w' A L C xs:=PSl.keep h hx fun _ _ _=>Ptr.keep fun _ _=>a_Q.keep h
end
def Bld {α:Type}(T:TypeId)(P:(Nat->Prop)->World->α->Value->Prop)(base:Nat)(w:World)(A:OA)(L C:Nat)(xs:List α):Prop:=
 OwnR T 1 (fun x cs=>∃ v,cs=[v]/\P (fun b=>base<=b/\b<w.heap.size/\¬ blkOf A b) w x v) base w A L C xs
def Stays {α:Type}(P:(Nat->Prop)->World->α->Value->Prop):Prop:=∀ (S S':Nat->Prop) (w w':World) (x:α) (v:Value),Keeps S S' w w'->P S w x v->P S' w' x v
theorem Bld.nil {α:Type}{T:TypeId}{P:(Nat->Prop)->World->α->Value->Prop}{base:Nat}{w:World}:Bld T P base w none 0 0 []:=OwnR.nil
section
variable {α:Type} {T:TypeId} {P:(Nat->Prop)->World->α->Value->Prop} {base:Nat} {w w':World} {A:OA} {L C:Nat} {xs:List α}
theorem Bld.keep (hP:Stays P)(h:Bld T P base w A L C xs)(hx:Ext X w w')(hX:∀ b,base<=b->b<w.heap.size->¬ X b):Bld T P base w' A L C xs:=
 (OwnR.keep h hx fun b hb=>hX b (OwnR.ge h b hb).1 (OwnR.ge h b hb).2).mono fun x _ cs ⟨v,h1,h2⟩=>⟨v,h1,hP _ _ _ _ _ _ (hx.keeps (fun b hb _=>⟨hb.1,Nat.lt_of_lt_of_le hb.2.1 hx.size,hb.2.2⟩) fun b hb hl=>hX b hb.1 hl) h2⟩
theorem Bld.push (hP:Stays P)(t:TypeId)(i:TypeInfo)(z:Value)(bytes:Nat)(ht:Tryz.prog.underlying t=some (.slice T))(hi:Tryz.prog.info? T=some i)(hz:i.zero=some z)
  (hsize:i.size=1) (hby:i.bytes=bytes) (hzs:z.cells.size=1) (h3:bytes<=4096) (h:Bld T P base w A L C xs) (hb:base<=w.heap.size) {x:α} {v:Value} (hv:v.oneCell'=true) (hsv:a_v v) {S:Nat->Prop} (hS:∀ b,S b->b<w.heap.size->base<=b/\¬ blkOf A b) (hpx:P S w x v)
  (h2:L+1<=16777216) (ty:TypeId) (fs:Array Bool):
  ∃ (A':OA) (C':Nat) (w':World),(Go.builtin .append #[t,t] ty fs #[.slice A L C,.slice (some (adr w.heap.size)) 1 1]).run Tryz.prog (w.alloc (.cells #[v] T))=.ok (.value (.slice A' (L+1) C')) w'/\
   Bld T P base w' A' (L+1) C' (xs++[x])/\Ext (blkOf A) w w'/\(∀ T',T'≠T->KeepT T' (w.alloc (.cells #[v] T)) w')/\(∀ b,blkOf A' b->blkOf A b∨w.heap.size<b):=by
 have h':OwnR T 1 (fun x cs=>∃ v,cs=[v]/\P (fun b=>base<=b/\b<w.heap.size/\¬ blkOf A b) w x v) base w A L C xs:=h;obtain ⟨A',C',w',r,o,xx,k,n⟩:=h'.one (x:=x) (cs:=[v]) t i z bytes ht hi hz hsize hby hzs (by omega) h3 hb rfl (fun u hu=>by
  obtain rfl:u=v:=by simpa using hu
  exact hsv) ⟨v,rfl,hP _ _ _ _ _ _ (Keeps.all w fun b hb hl=>⟨(hS b hb hl).1,hl,(hS b hb hl).2⟩) hpx⟩ h2 ty fs
 refine ⟨A',C',w',r,?_,xx,k,n⟩;refine o.mono fun y _ cs ⟨u,h1,h2⟩=>⟨u,h1,hP _ _ _ _ _ _ (xx.keeps (fun b hb _=>⟨hb.1,Nat.lt_of_lt_of_le hb.2.1 xx.size,fun hA=>?_⟩) fun b hb hl=>hb.2.2) h2⟩;rcases n b hA with hA|hA
 ·exact hb.2.2 hA
 ·omega
theorem Bld.done (h:Bld T P base w A L C xs)(hP:Stays P)(hl:L<=4194304):PSl (fun b=>base<=b) w T (P (fun b=>base<=b) w) A L C xs:=by
 have h':OwnR T 1 (fun x cs=>∃ v,cs=[v]/\P (fun b=>base<=b/\b<w.heap.size/\¬ blkOf A b) w x v) base w A L C xs:=h;obtain ⟨g1,g2,g3,-⟩:=h'.sl (by omega) hl;refine ⟨g1,g2,g3,fun i x hi=>?_⟩;have hge:=h'.ge;obtain ⟨cells,o,f⟩:=h';obtain ⟨p,hp,cs,⟨v,rfl,hv⟩,hat⟩:=o.elem f (by omega) hi;refine ⟨p,v,hp,(hge p.block ⟨p,hp,rfl⟩).1,?_,hP _ _ _ _ _ _ (Keeps.all w fun b hb _=>hb.1) hv⟩;have:=hat 0 v rfl
 rwa [Nat.mul_one,Nat.add_zero] at this
end
def Mk (w:World)(mb:Nat):Prop:=DB.B<=mb/\∃ (src:OA) (n:Int),Blk w mb 140 [.pointer src,.int .i64 n,.bool false]
theorem Mk.ext {w w':World}(h:Mk w mb)(hx:Ext X w w')(hb:¬ X mb):Mk w' mb:=by
 obtain ⟨h0,src,n,h⟩:=h;exact ⟨h0,src,n,h.ext hx hb⟩
theorem Mk.lt {w:World}(h:Mk w mb):mb<w.heap.size:=by
 obtain ⟨h0,src,n,h⟩:=h;exact h.lt
abbrev New (w:World):Nat->Prop:=fun b=>w.heap.size<=b
structure Made (mb:Nat) (w w':World):Prop where
 ext:Ext (XM mb) w w'
 mkr:Mk w' mb
theorem Made.keep {w w':World}(h:Made mb w w')(hm:Mk w mb):Keep w w':=by
 obtain ⟨h0,src,n,hm⟩:=hm;exact h.ext.keep1 hm (by decide) h0
theorem Made.keepT {w w':World}(h:Made mb w w')(hm:Mk w mb)(T:TypeId)(hT:T≠140):KeepT T w w':=by
 obtain ⟨h0,src,n,hm⟩:=hm;exact h.ext.keepT1 hm hT
theorem Made.trans {w w':World}(h:Made mb w w')(k:Made mb w' w''):Made mb w w'':=⟨h.ext.trans k.ext fun _ _ h=>h,k.mkr⟩
theorem Made.pre {w w':World}(h:EF w w')(k:Made mb w' w''):Made mb w w'':=⟨(h.toM _).trans k.ext fun _ _ h=>h,k.mkr⟩
theorem Made.then {w w':World}(h:Made mb w w')(k:EF w' w''):Made mb w w'':=⟨h.ext.then k,h.mkr.ext k id⟩
theorem Made.blk {w w':World}(h:Made mb w w'){T:TypeId}{cs:List Value}(hb:Blk w b T cs)(hne:b≠mb):Blk w' b T cs:=hb.ext h.ext hne
theorem r_6 {w:World}(hm:Mk w mb):CP 142 #[.pointer (some (adr mb))] w fun e w'=>∃ q,e=.returned (.pointer q)/\Made mb w w'/\PPos (New w) w' q:=by
 obtain ⟨h0,src,n,hm⟩:=hm;refine f_y (some (adr mb)) w _ ⟨adr mb,rfl,n,(hm.at (j:=1) rfl).cell,adr mb,rfl,hm.off (j:=1) (n:=1) (by simp) (q:=fun _=>false) rfl,trivial,fun w6 e6=>?_⟩;have hx5:Ext (XM mb) w (w.setCell ((adr mb).add 1) (.int .i64 (wr (n+1)))):=Ext.setCell (X:=XM mb) (Ext.refl w) (a:=(adr mb).add 1) (.inl rfl) _;have hm5:Blk (w.setCell ((adr mb).add 1) (.int .i64 (wr (n+1)))) mb 140 [.pointer src,.int .i64 (wr (n+1)),.bool false]:=hm.set 1 _;have hx6:Ext (XM mb) w w6:=by rw [e6];exact hx5.drew
 have hm6:Blk w6 mb 140 [.pointer src,.int .i64 (wr (n+1)),.bool false]:=by rw [e6];exact hm5
 clear e6;refine ⟨adr mb,rfl,_,(hm6.at (j:=1) rfl).cell,adr mb,rfl,_,(hm6.at (j:=0) rfl).cell,trivial,trivial,trivial,trivial,_,rfl,⟨hx6.alloc _,h0,_,_,hm6.ext ((Ext.refl (X:=fun _=>False) w6).alloc _) id⟩,w6.heap.size,_,_,_,_,_,rfl,hx6.size,Blk.made w6 344 [.int .i64 0,.int .i64 0,.int .i64 (wr (n+1)),.int .i64 1,.pointer src]⟩
theorem a_c {w:World}(hm:Mk w mb):CP 142 #[.pointer (some (adr mb))] w fun e w'=>∃ q,e=.returned (.pointer q)/\Made mb w w':=(r_6 hm).mono (by
 rintro _ w' ⟨q,rfl,h,-⟩;exact ⟨q,rfl,h⟩)
abbrev X2 (b1 b2:Nat):Nat->Prop:=fun k=>k=b1∨k=b2
theorem Ext.at2 {w w':World}{b1:Nat}(hx:Ext (X2 b1 b2) w w'){T1 T2:TypeId}{cs1 cs2:List Value}(h1:Blk w b1 T1 cs1)(h2:Blk w b2 T2 cs2){T:TypeId}{a:Addr}{v:Value}(hT1:T≠T1)(hT2:T≠T2)(h:At w T a v):At w' T a v:=
 hx.at (fun e=>by
  obtain ⟨cs',fr,g1,_⟩:=h;rcases e with e|e
  ·rw [e,show objAt w b1=_ from h1] at g1;simp only [Option.some.injEq,Obj.cells.injEq] at g1;exact hT1 g1.2.1.symm
  ·rw [e,show objAt w b2=_ from h2] at g1;simp only [Option.some.injEq,Obj.cells.injEq] at g1;exact hT2 g1.2.1.symm) h
theorem Ext.keep2 {w w':World}{b1:Nat}(hx:Ext (X2 b1 b2) w w'){T1 T2:TypeId}{cs1 cs2:List Value}(h1:Blk w b1 T1 cs1)(h2:Blk w b2 T2 cs2)(d1:dataT T1=false)(d2:dataT T2=false)(hB1:DB.B<=b1)(hB2:DB.B<=b2):Keep w w':=
 fun T T' a v hT ho h=>ho.elim (fun e=>by
  subst e;exact hx.at2 h1 h2 (fun e=>by rw [e,d1] at hT;cases hT) (fun e=>by rw [e,d2] at hT;cases hT) h) fun hl=>hx.at (fun e=>by
  rcases e with e|e
  ·omega
  ·omega) h
theorem Made.ext2 {w w':World}(h:Made mb w w'):Ext (X2 mb b2) w w':=h.ext.mono fun _ _ e=>.inl e
theorem Made.keeps {w w':World}(h:Made mb w w'){S S':Nat->Prop}(hS:∀ b,S b->b<w.heap.size->S' b)(hm:∀ b,S b->b≠mb):Keeps S S' w w':=h.ext.keeps hS fun b hb _ e=>hm b hb e
theorem e_S:Stays fun S w=>Ptr (PKid S w):=fun _ _ _ _ _ _ h=>Ptr.keep fun _ _=>PKid.keep h
abbrev MkVal (x:Val):Prop:=∀ (k:Int) (r:BA) (a:OA) (l c:Nat) (w:World) (mb:Nat),RVal w x k r a l c->okVal x->Mk w mb->
 CP 202 #[.pointer (some (adr mb)),.agg #[.int .i64 k,.string r,.slice a l c]] w fun e w'=>∃ b,e=.returned (.pointer (some (adr b)))/\Made mb w w'/\PVal (New w) w' x b
theorem d_d (k:Int)(r:BA)(kids:List (BA × Val))(IH:∀ x∈kids,MkVal x.2):MkVal (.mk k r kids):=by
 intro k' r' a l c w mb hv hok hm;obtain ⟨rfl,rfl,hl⟩:=e_U.1 hv;obtain ⟨el,gl⟩:=hl.len;simp only [okVal] at hok;obtain ⟨k0,k9,hkids,-⟩:=hok;rw [e_3] at hkids;refine f_A (some (adr mb)) k' r' a l c w _ ⟨trivial,fun K6 hK6=>?_⟩;have hx5:EF w (w.alloc (.cells #[.int .i64 k',.string r',.slice a l c] 115)):=(Ext.refl w).alloc _;have go:K6 (w.alloc (.cells #[.int .i64 k',.string r',.slice a l c] 115)):=by
  refine hK6 _ fun w8 e8=>?_;have hx8:EF w w8:=by rw [e8];exact hx5.drew
  clear e8;have hm8:=hm.ext hx8 id;refine (a_c hm8).mono ?_;rintro _ w10 ⟨q,rfl,d10⟩;refine ⟨q,rfl,⟨d10.keepT hm8 _ (by decide),trivial⟩,by simp,trivial,trivial,trivial,trivial,?_⟩;have hB12:=Blk.made w10 200 [.string r',.slice none 0 0,.int .i64 k',.pointer q,.pointer none,.pointer none,.pointer none,.pointer none,.bool false];have hx12:EF w10 (w10.alloc (.cells #[.string r',.slice none 0 0,.int .i64 k',.pointer q,.pointer none,.pointer none,.pointer none,.pointer none,.bool false] 200)):=(Ext.refl w10).alloc _;have hz12:(w10.alloc (.cells #[.string r',.slice none 0 0,.int .i64 k',.pointer q,.pointer none,.pointer none,.pointer none,.pointer none,.bool false] 200)).heap.size=w10.heap.size+1:=by simp
  generalize (w10.alloc (.cells #[.string r',.slice none 0 0,.int .i64 k',.pointer q,.pointer none,.pointer none,.pointer none,.pointer none,.bool false] 200))=w12 at hB12 hx12 hz12 ⊢;have d12:Made mb w w12:=(Made.pre hx8 d10).then hx12;have hmb12:=d12.mkr;have hmlt:=hm.lt;have hz:=d12.ext.size;have hz10:w.heap.size<=w10.heap.size:=(Made.pre hx8 d10).ext.size;generalize hnb:w10.heap.size=nb at hB12 hz12 hz10 ⊢;have hne:nb≠mb:=by omega
  refine ⟨fun i w1=>0<=i/\i<=l/\Ext (X2 mb nb) w12 w1/\Mk w1 mb/\∃ (A:OA) (L C:Nat),Blk w1 nb 200 [.string r',.slice A L C,.int .i64 k',.pointer q,.pointer none,.pointer none,.pointer none,.pointer none,.bool false]/\L=i.toNat/\Bld 276 (fun S w=>Ptr (PKid S w)) w12.heap.size w1 A L C (kids.take i.toNat),
   fun i _=>((l:Int)-i).toNat,⟨by omega,by omega,Ext.refl _,hmb12,none,0,0,hB12,rfl,by simpa using Bld.nil⟩,?_⟩
  rintro i w1 ⟨h0,hi,hx,hm1,A,L,C,hB,rfl,hbl⟩;have hbase:=hx.size;refine ⟨fun hlt=>?_,fun hge=>?_⟩
  ·have hlt:=odt hlt;have hk1:Keep w w1:=(d12.keep hm).trans (by
    obtain ⟨hB0,src,n,hmm⟩:=hmb12;exact hx.keep2 hmm hB12 (by decide) (by decide) hB0 (by omega))
   obtain ⟨p,x,hp,hxs,cs,hc,kk,rr,aa,ll,cc,rfl,hxv⟩:=(SlL.keep hk1 (by decide) hl fun _ _ _ h=>h).get h0 hlt;obtain ⟨⟨_,_,hc0⟩,hcs0,⟨_,_,hc1⟩,hcs1,⟨_,_,hc2⟩,hcs2,⟨_,_,hc3⟩,hcs3,-⟩:=hc;have hxv1:=hxv.keep hk1;refine ⟨p,hp,⟨h0,hlt⟩,_,hc0.cell,_,hc1.cell,_,hc2.cell,_,_,_,hc3.cell,trivial,trivial,fun w24 e24=>?_⟩;have hx24:EF w1 w24:=by rw [e24];exact ((Ext.refl w1).alloc _).drew
   clear e24;have hm24:=hm1.ext hx24 id;have hB24:=hB.ext hx24 id;refine ⟨A,i.toNat,C,(hB24.at (j:=1) rfl).cell,?_⟩;refine (IH x (mg_ hxs) kk rr aa ll cc w24 mb (hxv1.keep hx24.keep) (hkids x (mg_ hxs)) hm24).mono ?_;rintro _ w27 ⟨vb,rfl,d27,hpv⟩;have hB27:=d27.blk hB24 hne;refine ⟨_,rfl,⟨d27.keepT hm24 _ (by decide),d27.keepT hm24 _ (by decide),trivial⟩,⟨rfl,((hB27.at (j:=1) rfl).cell).trans ((hB24.at (j:=1) rfl).cell).symm,trivial⟩,?_⟩;refine (a_c d27.mkr).mono ?_;rintro _ w30 ⟨q31,rfl,d30⟩;have hB30:=d30.blk hB27 hne;have hC:=Blk.made w30 278 [.string x.1,.pointer (some (adr vb)),.pointer q31,.pointer none];have hx32:EF w30 (w30.alloc (.cells #[.string x.1,.pointer (some (adr vb)),.pointer q31,.pointer none] 278)):=(Ext.refl w30).alloc _;refine ⟨q31,rfl,⟨d30.keepT d27.mkr _ (by decide),d30.keepT d27.mkr _ (by decide),trivial⟩,⟨rfl,((hB30.at (j:=1) rfl).cell).trans ((hB27.at (j:=1) rfl).cell).symm,trivial⟩,trivial,trivial,?_⟩;dsimp only;generalize hcb:w30.heap.size=cb at hC;generalize hw32:(w30.alloc (.cells #[.string x.1,.pointer (some (adr vb)),.pointer q31,.pointer none] 278))=w32 at hC hx32 ⊢;have hB32:=hB30.ext hx32 id;have dd:Made mb w1 w32:=(((Made.pre hx24 d27).trans d30).then hx32);have hm32:=dd.mkr;have hz24:=hx24.size;have hz27:=d27.ext.size;have hz30:=d30.ext.size;have hbl32:Bld 276 (fun S w=>Ptr (PKid S w)) w12.heap.size w32 A i.toNat C (kids.take i.toNat):=hbl.keep e_S dd.ext fun b hb _ e=>by
    have:b=mb:=e;omega
   obtain ⟨A',C',w35,r35,bl35,x35,k35,n35⟩:=hbl32.push e_S 196 Tryz.t276 _ _ (by kernel_rfl) (by kernel_rfl) rfl (by kernel_rfl) rfl (by kernel_rfl) (by decide) (lt_ hbase dd.ext.size) (x:=x) (v:=.pointer (some (adr cb))) rfl (a_G rfl)
    (S:=New w24) (fun b hb _=>⟨by omega,fun hA=>by
     have:=(OwnR.ge hbl b hA).2;have:w24.heap.size<=b:=hb;omega⟩) ⟨cb,rfl,vb,q31,by show w24.heap.size<=cb;omega,hC,hpv.keep ((d30.then hx32).keeps (fun _ h _=>h) fun b hb e=>by
      have:w24.heap.size<=b:=hb;have:=hm24.lt;omega)⟩ (by omega) 196 #[false,false]
   have hnA:¬ blkOf A nb:=OwnR.ne hbl32 (.inl (by omega));have hmA:¬ blkOf A mb:=OwnR.ne hbl32 (.inl (by omega));have hB35:=hB32.ext x35 hnA;have hx33:EF w32 (w32.alloc (.cells #[.pointer (some (adr cb))] 276)):=(Ext.refl w32).alloc _;refine ⟨⟨((hB32.at (j:=1) rfl).cell).trans ((hB30.at (j:=1) rfl).cell).symm,trivial⟩,trivial,⟨(((hB32.ext hx33 id).at (j:=1) rfl).cell).trans ((hB32.at (j:=1) rfl).cell).symm,trivial⟩,A',i.toNat+1,C',w35,?_,⟨k35 _ (by decide),k35 _ (by decide),trivial⟩,trivial,
    hB35.off (j:=1) (n:=1) (by simp) (q:=fun T=>(Nat.beq 115 T||(Nat.beq 256 T||false))) rfl,trivial,trivial,?_⟩
   ·rw [<- hcb] at r35;rw [<- hcb];exact r35
   have hset:Ext (XM nb) w35 (w35.setCell ((adr nb).add 1) (.slice A' (i.toNat+1) C')):=Ext.setCell (X:=XM nb) (Ext.refl w35) (a:=(adr nb).add 1) (.inl rfl) _;rw [a_a h0 (by omega)];refine next h0 hlt ⟨?_,(dd.mkr.ext x35 hmA).ext hset fun e=>hne e.symm,A',i.toNat+1,C',hB35.set 1 _,by omega,?_⟩
   ·exact ((hx.trans dd.ext2 fun _ _ h=>h).trans x35 fun b hb hbl'=>(OwnR.ne hbl32 (.inl hb) hbl').elim).trans (hset.mono fun _ _ e=>.inr e) fun _ _ h=>h
   ·rw [show (i+1).toNat=i.toNat+1 by omega,List.take_succ,hxs];exact bl35.keep e_S hset fun b hb _ e=>by
     have:b=nb:=e;omega
  ·have hle:=odf hge;rw [tl_ (by omega)] at hbl;have hdone:=hbl.done e_S (by omega);refine ⟨nb,rfl,⟨d12.ext.trans hx fun b hb e=>?_,hm1⟩,j_Z.2 ⟨A,i.toNat,C,q,hz10,hB,PSl.keep (Keeps.all w1 fun b hb _=>by
    have:w12.heap.size<=b:=hb;show w.heap.size<=b;omega) hdone fun x _ v=>Ptr.keep fun _ _=>PKid.keep (Keeps.all w1 fun b hb _=>by
    have:w12.heap.size<=b:=hb;show w.heap.size<=b;omega)⟩⟩
   rcases e with e|e
   ·exact e
   ·omega
 intro K37 hK37;refine ⟨fun _=>hK37 _ _ ⟨fun h9=>?_,fun _=>go⟩,fun h=>?_⟩
 ·have:=odt h9;omega
 ·have:=odt h;omega
theorem b_Y:∀ (x:Val),MkVal x
 | .mk k r kids=>d_d k r kids fun x hx=>by
  have:SizeOf.sizeOf x.2<1+SizeOf.sizeOf k+SizeOf.sizeOf r+SizeOf.sizeOf kids:=by
   have h1:=List.sizeOf_lt_of_mem hx;cases x;simp at h1 ⊢;omega
  exact b_Y x.2
 termination_by x=>SizeOf.sizeOf x
theorem b_z {xs:List Val}{w:World}(hl:RVals w a l c xs)(hok:g_t xs)(hm:Mk w mb):
  CP 184 #[.pointer (some (adr mb)),.slice a l c] w fun e w'=>∃ q,e=.returned (.pointer q)/\Made mb w w'/\f_Q (New w) w' xs q:=by
 obtain ⟨el,gl⟩:=hl.len;refine e_I (some (adr mb)) a l c w _ ⟨fun h=>?_,fun h=>?_⟩
 ·have:l=0:=by
   have:(l:Int)=0:=by simpa using h
   omega
  subst this;obtain rfl:xs=[]:=List.length_eq_zero_iff.1 el.symm;exact ⟨none,rfl,⟨Ext.refl _,hm⟩,rfl⟩
 ·have hl0:l≠0:=by
   intro e;subst e;simp at h
  have hl1:l=1:=by
   have:=hok.1;omega
  intro K3 hK3;obtain ⟨hB0,src,n,hmm⟩:=hm;refine ⟨adr mb,rfl,false,(hmm.at (j:=2) rfl).cell,fun _=>⟨adr mb,rfl,hmm.off (j:=2) (n:=1) (by simp) (q:=fun _=>false) rfl,trivial,?_⟩,fun h=>by cases h⟩;subst hl1;have hset:Ext (XM mb) w (w.setCell ((adr mb).add 2) (.bool (decide (((1:Nat):Int)>0+1)))):=Ext.setCell (X:=XM mb) (Ext.refl w) (a:=(adr mb).add 2) (.inl rfl) _;have hms:Blk (w.setCell ((adr mb).add 2) (.bool (decide (((1:Nat):Int)>0+1)))) mb 140 [.pointer src,.int .i64 n,.bool false]:=hmm.set 2 (.bool (decide (((1:Nat):Int)>0+1)));have d4:Made mb w (w.setCell ((adr mb).add 2) (.bool (decide (((1:Nat):Int)>0+1)))):=⟨hset,hB0,_,_,hms⟩;show K3 (w.setCell ((adr mb).add 2) (.bool (decide (((1:Nat):Int)>0+1))));refine hK3 _ ?_;generalize (w.setCell ((adr mb).add 2) (.bool (decide (((1:Nat):Int)>0+1))))=w4 at d4 hms;obtain ⟨p,x,hp,hxs,cs,hc,k,r,a',l',c',rfl,hv⟩:=(RVals.keep (d4.keep ⟨hB0,_,_,hmm⟩) hl).get (i:=0) (by omega) (by omega);obtain ⟨⟨_,_,hc0⟩,hcs0,⟨_,_,hc1⟩,hcs1,⟨_,_,hc2⟩,hcs2,-⟩:=hc;refine ⟨p,hp,⟨by omega,by omega⟩,_,hc0.cell,_,hc1.cell,_,_,_,hc2.cell,?_⟩;refine (b_Y x k r a' l' c' w4 mb hv (hok.2 x (mg_ hxs)) d4.mkr).mono ?_;rintro _ w10 ⟨b,rfl,d10,hpv⟩;refine ⟨_,rfl,trivial,_,rfl,d4.trans d10,?_⟩
  match xs,hxs with
  | y::_,hxs=>
   obtain rfl:y=x:=by simpa using hxs
   exact ⟨b,rfl,hpv.keep (Keeps.all w10 fun b hb _=>lt_ d4.ext.size hb)⟩
abbrev MkTyp (x:Typ):Prop:=∀ (n:BA) (a:OA) (l c:Nat) (nn:Bool) (w:World) (mb:Nat),RTyp w x n a l c nn->okTyp x->Mk w mb->
 CP 183 #[.pointer (some (adr mb)),.agg #[.string n,.slice a l c,.bool nn]] w fun e w'=>∃ b,e=.returned (.pointer (some (adr b)))/\Made mb w w'/\PTyp (New w) w' x b
theorem i_A {n:BA}{el:List Typ}{nn:Bool}(h:okTyp (.mk n el nn)):(el=[]/\n≠E0)∨∃ t,el=[t]/\n=E0/\okTyp t:=by
 match el,h with
 | [],h=>exact .inl ⟨rfl,by simpa [okTyp] using h⟩
 | [t],h=>exact .inr ⟨t,rfl,by simpa [okTyp] using h⟩
theorem d_c (n:BA)(el:List Typ)(nn:Bool)(IH:∀ x∈el,MkTyp x):MkTyp (.mk n el nn):=by
 intro n' a l c nn' w mb hv hok hm;obtain ⟨rfl,rfl,hl⟩:=b_M.1 hv;obtain ⟨e1,gl⟩:=hl.len;refine f_z (some (adr mb)) n' a l c nn' w _ ⟨trivial,fun K6 hK6=>?_⟩;have hx5:EF w (w.alloc (.cells #[.string n',.slice a l c,.bool nn'] 63)):=(Ext.refl w).alloc _;have hm5:=hm.ext hx5 id;obtain ⟨hB0,src,num,hmm⟩:=hm5;have hbad:(!((n'.toList==(⟨#[]⟩:BA).toList)==((l:Int)==(1:Int))))=false/\(l<=1):=by
  rcases i_A hok with ⟨rfl,hne⟩|⟨t,rfl,rfl,-⟩
  ·simp only [List.length_nil] at e1;subst e1;rw [show (n'.toList==(⟨#[]⟩:BA).toList)=false from a_f.2 hne];exact ⟨rfl,by omega⟩
  ·simp only [List.length_cons,List.length_nil,Nat.zero_add] at e1;subst e1;simp
 have hset:Ext (XM mb) (w.alloc (.cells #[.string n',.slice a l c,.bool nn'] 63)) ((w.alloc (.cells #[.string n',.slice a l c,.bool nn'] 63)).setCell ((adr mb).add 2) (.bool false)):=Ext.setCell (X:=XM mb) (Ext.refl _) (a:=(adr mb).add 2) (.inl rfl) _;have hms:Blk ((w.alloc (.cells #[.string n',.slice a l c,.bool nn'] 63)).setCell ((adr mb).add 2) (.bool false)) mb 140 [.pointer src,.int .i64 num,.bool false]:=hmm.set 2 (.bool false);have d7:Made mb w ((w.alloc (.cells #[.string n',.slice a l c,.bool nn'] 63)).setCell ((adr mb).add 2) (.bool false)):=Made.pre hx5 ⟨hset,hB0,_,_,hms⟩;refine ⟨adr mb,rfl,false,(hmm.at (j:=2) rfl).cell,fun _=>⟨fun _=>⟨adr mb,rfl,hmm.off (j:=2) (n:=1) (by simp) (q:=fun T=>(Nat.beq 63 T||false)) rfl,trivial,?_⟩,fun h=>?_⟩,fun h=>by cases h⟩
 ·rw [hbad.1];dsimp only;generalize ((w.alloc (.cells #[.string n',.slice a l c,.bool nn'] 63)).setCell ((adr mb).add 2) (.bool false))=w7 at d7 hms ⊢;refine hK6 _ fun w8 e8=>?_;have d8:Made mb w w8:=by rw [e8];exact d7.then (Ext.refl w7).drew
  clear e8;refine (a_c d8.mkr).mono ?_;rintro _ w10 ⟨q,rfl,d10⟩;refine ⟨q,rfl,⟨d10.keepT d8.mkr _ (by decide),trivial⟩,by simp,trivial,trivial,trivial,trivial,fun K13 hK13=>?_⟩;have hB:=Blk.made w10 262 [.string n',.pointer none,.bool nn',.pointer q];have hx12:EF w10 (w10.alloc (.cells #[.string n',.pointer none,.bool nn',.pointer q] 262)):=(Ext.refl w10).alloc _;have d12:=(d8.trans d10).then hx12;have hz10:=(d8.trans d10).ext.size;have hmlt:=hm.lt;refine ⟨fun h=>?_,fun h=>?_⟩
  ·have hl0:=odt h;rcases i_A hok with ⟨rfl,hne⟩|⟨t,rfl,rfl,hot⟩
   ·simp at e1;omega
   obtain ⟨p,x,hp,hxs,cs,hc,k',a',l',c',nn2,rfl,hv1⟩:=(SlL.keep (d12.keep hm) (by decide) hl fun _ _ _ h=>h).get (i:=0) (by omega) (by omega);obtain ⟨⟨_,_,hc0⟩,hcs0,⟨_,_,hc1⟩,hcs1,⟨_,_,hc2⟩,hcs2,-⟩:=hc;obtain rfl:t=x:=by simpa using hxs
   refine ⟨p,hp,⟨by omega,by omega⟩,_,hc0.cell,_,_,_,hc1.cell,_,hc2.cell,?_⟩;refine (IH t (by simp) k' a' l' c' nn2 _ mb (hv1.keep (d12.keep hm)) hot d12.mkr).mono ?_;rintro _ w20 ⟨eb,rfl,d20,hpt⟩;have hB20:=d20.blk hB (by omega);refine ⟨_,rfl,⟨d20.keepT d12.mkr _ (by decide),trivial⟩,hB20.off (j:=1) (n:=1) (by simp) (q:=fun T=>(Nat.beq 63 T||false)) rfl,trivial,hK13 _ ?_⟩;have hset2:Ext (XM w10.heap.size) w20 (w20.setCell ((adr w10.heap.size).add 1) (.pointer (some (adr eb)))):=Ext.setCell (X:=XM w10.heap.size) (Ext.refl w20) (a:=(adr w10.heap.size).add 1) (.inl rfl) _;refine ⟨_,rfl,⟨(d12.trans d20).ext.trans hset2 fun b hb e=>?_,d20.mkr.ext hset2 fun e=>?_⟩,?_⟩
   ·have:b=w10.heap.size:=e;omega
   ·have:mb=w10.heap.size:=e;omega
   ·simp only [PTyp,PTypE];refine ⟨_,_,hz10,hB20.set 1 _,eb,rfl,hpt.keep (hset2.keeps (fun b hb _=>lt_ d12.ext.size hb) fun b hb _ e=>?_)⟩;have h1:b=w10.heap.size:=e;have h2:(w10.alloc (.cells #[.string (⟨#[]⟩:BA),.pointer none,.bool nn',.pointer q] 262)).heap.size<=b:=hb;simp at h2;omega
  ·have hl0:=odf h;rcases i_A hok with ⟨rfl,hne⟩|⟨t,rfl,rfl,hot⟩
   ·refine hK13 _ ⟨_,rfl,d12,?_⟩;simp only [PTyp,PTypE];exact ⟨_,_,hz10,hB,rfl⟩
   ·simp at e1;omega
 ·have:=odt h;omega
theorem b_m:∀ (x:Typ),MkTyp x
 | .mk n el nn=>d_c n el nn fun x hx=>by
  have:SizeOf.sizeOf x<SizeOf.sizeOf (Typ.mk n el nn):=by
   have h1:=List.sizeOf_lt_of_mem hx;simp;omega
  exact b_m x
 termination_by x=>SizeOf.sizeOf x
def LSt {α:Type}(T:TypeId)(P:(Nat->Prop)->World->α->Value->Prop)(mb:Nat)(w:World)(A:OA)(L C:Nat)(xs:List α)(w1:World):Prop:=Made mb w w1/\Bld T P w.heap.size w1 A L C xs
theorem LSt.push {α:Type}{T:TypeId}{P:(Nat->Prop)->World->α->Value->Prop}{w:World}{A:OA}{L C:Nat}{xs:List α}{w1:World}(h:LSt T P mb w A L C xs w1)
  (hP:Stays P) (t:TypeId) (i:TypeInfo) (z:Value) (bytes:Nat) (ht:Tryz.prog.underlying t=some (.slice T)) (hi:Tryz.prog.info? T=some i) (hz:i.zero=some z)
  (hsize:i.size=1) (hby:i.bytes=bytes) (hzs:z.cells.size=1) (h3:bytes<=4096) (hmb:mb<w.heap.size) {wN:World} (d:Made mb w1 wN) {x:α} {v:Value} (hv:v.oneCell'=true) (hsv:a_v v) (hpx:P (New w1) wN x v) (h2:L+1<=16777216) (ty:TypeId) (fs:Array Bool):
  ∃ (A':OA) (C':Nat) (w':World),(Go.builtin .append #[t,t] ty fs #[.slice A L C,.slice (some (adr wN.heap.size)) 1 1]).run Tryz.prog (wN.alloc (.cells #[v] T))=.ok (.value (.slice A' (L+1) C')) w'/\
   LSt T P mb w A' (L+1) C' (xs++[x]) w'/\(∀ T',T'≠T->KeepT T' (wN.alloc (.cells #[v] T)) w'):=by
 obtain ⟨h1,h2'⟩:=h;have z1:=h1.ext.size;have bN:Bld T P w.heap.size wN A L C xs:=h2'.keep hP d.ext fun b hb _ e=>by
  have:b=mb:=e;omega
 obtain ⟨A',C',w',r,b',x',k',-⟩:=bN.push hP t i z bytes ht hi hz hsize hby hzs h3 (lt_ z1 d.ext.size) hv hsv (S:=New w1) (fun b hb _=>⟨lt_ z1 hb,fun hA=>by
  have:=(OwnR.ge h2' b hA).2;have:w1.heap.size<=b:=hb;omega⟩) hpx h2 ty fs
 exact ⟨A',C',w',r,⟨⟨(h1.trans d).ext.trans x' fun b hb hbl=>(OwnR.ne bN (.inl hb) hbl).elim,d.mkr.ext x' (OwnR.ne bN (.inl hmb))⟩,b'⟩,k'⟩
theorem Made.up {w1 wp wj wN:World}(h:Made mb wj wN)(hz:w1.heap.size<=wp.heap.size)(hmb:mb<wp.heap.size):Keeps (New wp) (New w1) wj wN:=
 h.keeps (fun b hb _=>lt_ hz hb) fun b hb e=>by
  have:wp.heap.size<=b:=hb;omega
theorem h_Y:Stays fun S w=>Ptr (PArg S w):=fun _ _ _ _ _ _ h=>Ptr.keep fun _ _=>PArg.keep h
theorem h_0:Stays fun S w=>Ptr (PDir S w):=fun _ _ _ _ _ _ h=>Ptr.keep fun _ _=>PDir.keep h
theorem h_3:Stays fun S w=>Ptr (PVar S w):=fun _ _ _ _ _ _ h=>Ptr.keep fun _ _=>PVar.keep h
theorem e_Q:Stays fun S w=>Ptr (b_u S w):=fun _ _ _ _ _ _ h=>Ptr.keep fun _ _=>b_u.keep h
theorem c_D {xs:List Argm}{w:World}(hl:c_1 w a l c xs)(hok:e_E xs)(hm:Mk w mb):
  CP 185 #[.pointer (some (adr mb)),.slice a l c] w fun e w'=>∃ (A:OA) (L C:Nat),e=.returned (.slice A L C)/\Made mb w w'/\PArgs (New w) w' A L C xs:=by
 obtain ⟨el,gl⟩:=hl.len;have hmlt:=hm.lt;refine e_6 (some (adr mb)) a l c w _ ⟨fun A L C i w1=>0<=i/\i<=l/\L=i.toNat/\LSt 393 (fun S w=>Ptr (PArg S w)) mb w A L C (xs.take i.toNat) w1,fun _ _ _ i _=>((l:Int)-i).toNat,⟨by omega,by omega,rfl,⟨Ext.refl _,hm⟩,by simpa using Bld.nil⟩,?_⟩;rintro A L C i w1 ⟨h0,hi,rfl,hst⟩;have hmk1:=hst.1.mkr;have hz1:=hst.1.ext.size;refine ⟨fun hlt=>?_,fun hge=>?_⟩
 ·have hlt:=odt hlt;obtain ⟨p,x,hp,hxs,cs,hc,kk,rr,aa,ll,cc,rfl,hv⟩:=(c_1.keep (hst.1.keep hm) hl).get h0 hlt;obtain ⟨⟨_,_,hc0⟩,hcs0,⟨_,_,hc1⟩,hcs1,⟨_,_,hc2⟩,hcs2,⟨_,_,hc3⟩,hcs3,-⟩:=hc;have hxm:=mg_ hxs;refine ⟨p,hp,⟨h0,hlt⟩,_,hc0.cell,_,hc1.cell,_,hc2.cell,_,_,_,hc3.cell,trivial,trivial,fun w2 e2=>?_⟩;have hx2:EF w1 w2:=by rw [e2];exact ((Ext.refl w1).alloc _).drew
  clear e2;have d2:Made mb w1 w2:=⟨hx2.toM _,hmk1.ext hx2 id⟩;refine (b_Y x.v kk rr aa ll cc w2 mb (hv.keep (d2.keep hmk1)) (hok x hxm).2 d2.mkr).mono ?_;rintro _ w3 ⟨vb,rfl,e3,f3⟩;refine ⟨_,rfl,⟨e3.keepT d2.mkr _ (by decide),trivial⟩,by simp,?_⟩;have d3:=d2.trans e3;have z3:=d2.ext.size;refine (a_c d3.mkr).mono ?_;rintro _ w4 ⟨q,rfl,e4⟩;refine ⟨q,rfl,⟨e4.keepT d3.mkr _ (by decide),trivial⟩,by simp,?_⟩;have d4:=d3.trans e4;have z4:=d3.ext.size;refine ⟨trivial,trivial,trivial,trivial,trivial,?_⟩;have hB:=Blk.made w4 394 [.string x.name,.pointer (some (adr vb)),.pointer q,.pointer none];have hxN:EF w4 (w4.alloc (.cells #[.string x.name,.pointer (some (adr vb)),.pointer q,.pointer none] 394)):=(Ext.refl _).alloc _;have zN:=d4.ext.size;dsimp only;generalize hnb:w4.heap.size=nb at hB zN ⊢;generalize (w4.alloc (.cells #[.string x.name,.pointer (some (adr vb)),.pointer q,.pointer none] 394))=wN at hB hxN ⊢;have dN:=d4.then hxN;have g3:Made mb w3 wN:=(e4).then hxN;have u3:Keeps (New w2) (New w1) w3 wN:=g3.up z3 (by omega);obtain ⟨A',C',w',r,st',k'⟩:=hst.push (T:=393) h_Y 157 Tryz.t393 _ _ (by kernel_rfl) (by kernel_rfl) rfl (by kernel_rfl) rfl (by kernel_rfl) (by decide) hmlt dN (x:=x) (v:=.pointer (some (adr nb))) rfl (a_G rfl)
   ⟨nb,rfl,vb,q,by show w1.heap.size<=nb;omega,hB,f3.keep u3⟩ (by omega) 157 #[false,false]
  refine ⟨A',i.toNat+1,C',w',r,⟨k' _ (by decide),trivial⟩,trivial,trivial,?_⟩;rw [a_a h0 (by omega)];refine next h0 hlt ⟨by omega,?_⟩
  rw [show (i+1).toNat=i.toNat+1 by omega,List.take_succ,hxs];exact st'
 ·have hle:=odf hge;rw [tl_ (by omega)] at hst;exact ⟨A,_,C,rfl,hst.1,hst.2.done h_Y (by omega)⟩
theorem a_k {xs:List Dir}{w:World}(hl:RDirs w a l c xs)(hok:b_4 xs)(hm:Mk w mb):
  CP 144 #[.pointer (some (adr mb)),.slice a l c] w fun e w'=>∃ (A:OA) (L C:Nat),e=.returned (.slice A L C)/\Made mb w w'/\PDirs (New w) w' A L C xs:=by
 obtain ⟨el,gl⟩:=hl.len;have hmlt:=hm.lt;refine e_8 (some (adr mb)) a l c w _ ⟨fun A L C i w1=>0<=i/\i<=l/\L=i.toNat/\LSt 266 (fun S w=>Ptr (PDir S w)) mb w A L C (xs.take i.toNat) w1,fun _ _ _ i _=>((l:Int)-i).toNat,⟨by omega,by omega,rfl,⟨Ext.refl _,hm⟩,by simpa using Bld.nil⟩,?_⟩;rintro A L C i w1 ⟨h0,hi,rfl,hst⟩;have hmk1:=hst.1.mkr;have hz1:=hst.1.ext.size;refine ⟨fun hlt=>?_,fun hge=>?_⟩
 ·have hlt:=odt hlt;obtain ⟨p,x,hp,hxs,cs,hc,aa,ll,cc,rfl,hv⟩:=(RDirs.keep (hst.1.keep hm) hl).get h0 hlt;obtain ⟨⟨_,_,hc0⟩,hcs0,⟨_,_,hc1⟩,hcs1,-⟩:=hc;have hxm:=mg_ hxs;refine ⟨p,hp,⟨h0,hlt⟩,_,hc0.cell,_,_,_,hc1.cell,trivial,trivial,fun w2 e2=>?_⟩;have hx2:EF w1 w2:=by rw [e2];exact ((Ext.refl w1).alloc _).drew
  clear e2;have d2:Made mb w1 w2:=⟨hx2.toM _,hmk1.ext hx2 id⟩;refine (c_D (hv.keep (d2.keep hmk1)) (hok x hxm) d2.mkr).mono ?_;rintro _ w3 ⟨A3,L3,C3,rfl,e3,f3⟩;refine ⟨_,_,_,rfl,⟨e3.keepT d2.mkr _ (by decide),trivial⟩,by simp,?_⟩;have d3:=d2.trans e3;have z3:=d2.ext.size;refine (r_6 d3.mkr).mono ?_;rintro _ w4 ⟨q,rfl,e4,f4⟩;refine ⟨q,rfl,⟨e4.keepT d3.mkr _ (by decide),trivial⟩,by simp,?_⟩;have d4:=d3.trans e4;have z4:=d3.ext.size;refine ⟨trivial,trivial,trivial,trivial,trivial,?_⟩;have hB:=Blk.made w4 350 [.string x.name,.slice A3 L3 C3,.pointer q,.pointer none,.pointer none,.string E0];have hxN:EF w4 (w4.alloc (.cells #[.string x.name,.slice A3 L3 C3,.pointer q,.pointer none,.pointer none,.string E0] 350)):=(Ext.refl _).alloc _;have zN:=d4.ext.size;dsimp only;generalize hnb:w4.heap.size=nb at hB zN ⊢;generalize (w4.alloc (.cells #[.string x.name,.slice A3 L3 C3,.pointer q,.pointer none,.pointer none,.string E0] 350))=wN at hB hxN ⊢;have dN:=d4.then hxN;have g3:Made mb w3 wN:=(e4).then hxN;have u3:Keeps (New w2) (New w1) w3 wN:=g3.up z3 (by omega);have u4:Keeps (New w3) (New w1) w4 wN:=(Made.pre hxN ⟨Ext.refl _,dN.mkr⟩).up z4 (by omega);obtain ⟨A',C',w',r,st',k'⟩:=hst.push (T:=266) h_0 159 Tryz.t266 _ _ (by kernel_rfl) (by kernel_rfl) rfl (by kernel_rfl) rfl (by kernel_rfl) (by decide) hmlt dN (x:=x) (v:=.pointer (some (adr nb))) rfl (a_G rfl)
   ⟨nb,rfl,A3,L3,C3,q,by show w1.heap.size<=nb;omega,hB,PArgs.keep u3 f3,f4.keep u4⟩ (by omega) 159 #[false,false]
  refine ⟨A',i.toNat+1,C',w',r,⟨k' _ (by decide),trivial⟩,trivial,trivial,?_⟩;rw [a_a h0 (by omega)];refine next h0 hlt ⟨by omega,?_⟩
  rw [show (i+1).toNat=i.toNat+1 by omega,List.take_succ,hxs];exact st'
 ·have hle:=odf hge;rw [tl_ (by omega)] at hst;exact ⟨A,_,C,rfl,hst.1,hst.2.done h_0 (by omega)⟩
theorem e_W {xs:List VarD}{w:World}(hl:RVars w a l c xs)(hok:∀ x∈xs,okVar x)(hm:Mk w mb):
  CP 143 #[.pointer (some (adr mb)),.slice a l c] w fun e w'=>∃ (A:OA) (L C:Nat),e=.returned (.slice A L C)/\Made mb w w'/\PVars (New w) w' A L C xs:=by
 obtain ⟨el,gl⟩:=hl.len;have hmlt:=hm.lt;refine f_a (some (adr mb)) a l c w _ ⟨fun A L C i w1=>0<=i/\i<=l/\L=i.toNat/\LSt 198 (fun S w=>Ptr (PVar S w)) mb w A L C (xs.take i.toNat) w1,fun _ _ _ i _=>((l:Int)-i).toNat,⟨by omega,by omega,rfl,⟨Ext.refl _,hm⟩,by simpa using Bld.nil⟩,?_⟩;rintro A L C i w1 ⟨h0,hi,rfl,hst⟩;have hmk1:=hst.1.mkr;have hz1:=hst.1.ext.size;refine ⟨fun hlt=>?_,fun hge=>?_⟩
 ·have hlt:=odt hlt;obtain ⟨p,x,hp,hxs,cs,hc,nm,b1,m1,d1,nn,b2,m2,d0,b3,m3,d3,rfl,hv1,hv2,hv3⟩:=(RVars.keep (hst.1.keep hm) hl).get h0 hlt;obtain ⟨⟨_,_,hc0⟩,hcs0,⟨_,_,hc1⟩,hcs1,⟨_,_,hc2⟩,hcs2,⟨_,_,hc3⟩,hcs3,⟨_,_,hc4⟩,hcs4,⟨_,_,hc5⟩,hcs5,-⟩:=hc;have hxm:=mg_ hxs;refine ⟨p,hp,⟨h0,hlt⟩,_,hc0.cell,_,hc1.cell,_,_,_,hc2.cell,_,hc3.cell,_,_,_,hc4.cell,_,_,_,hc5.cell,trivial,trivial,fun w2 e2=>?_⟩;have hx2:EF w1 w2:=by rw [e2];exact ((Ext.refl w1).alloc _).drew
  clear e2;have d2:Made mb w1 w2:=⟨hx2.toM _,hmk1.ext hx2 id⟩;refine (b_m x.t nm b1 m1 d1 nn w2 mb (hv1.keep (d2.keep hmk1)) (hok x hxm).1 d2.mkr).mono ?_;rintro _ w3 ⟨tb,rfl,e3,f3⟩;refine ⟨_,rfl,⟨e3.keepT d2.mkr _ (by decide),trivial⟩,by simp,?_⟩;have d3:=d2.trans e3;have z3:=d2.ext.size;refine (b_z (hv2.keep (d3.keep hmk1)) (hok x hxm).2.1 d3.mkr).mono ?_;rintro _ w4 ⟨q4,rfl,e4,f4⟩;refine ⟨q4,rfl,⟨e4.keepT d3.mkr _ (by decide),trivial⟩,by simp,?_⟩;have d4:=d3.trans e4;have z4:=d3.ext.size;refine (a_k (hv3.keep (d4.keep hmk1)) (hok x hxm).2.2.1 d4.mkr).mono ?_;rintro _ w5 ⟨A5,L5,C5,rfl,e5,f5⟩;refine ⟨_,_,_,rfl,⟨e5.keepT d4.mkr _ (by decide),trivial⟩,by simp,?_⟩;have d5:=d4.trans e5;have z5:=d4.ext.size;refine (a_c d5.mkr).mono ?_;rintro _ w6 ⟨q,rfl,e6⟩;refine ⟨q,rfl,⟨e6.keepT d5.mkr _ (by decide),trivial⟩,by simp,?_⟩;have d6:=d5.trans e6;have z6:=d5.ext.size;refine ⟨trivial,trivial,trivial,trivial,trivial,?_⟩;have hB:=Blk.made w6 264 [.string E0,.string x.name,.pointer (some (adr tb)),.pointer q4,.slice A5 L5 C5,.pointer q,.pointer none,.pointer none,.bool false];have hxN:EF w6 (w6.alloc (.cells #[.string E0,.string x.name,.pointer (some (adr tb)),.pointer q4,.slice A5 L5 C5,.pointer q,.pointer none,.pointer none,.bool false] 264)):=(Ext.refl _).alloc _;have zN:=d6.ext.size;dsimp only;generalize hnb:w6.heap.size=nb at hB zN ⊢;generalize (w6.alloc (.cells #[.string E0,.string x.name,.pointer (some (adr tb)),.pointer q4,.slice A5 L5 C5,.pointer q,.pointer none,.pointer none,.bool false] 264))=wN at hB hxN ⊢;have dN:=d6.then hxN;have g3:Made mb w3 wN:=(((e4).trans e5).trans e6).then hxN;have u3:Keeps (New w2) (New w1) w3 wN:=g3.up z3 (by omega);have g4:Made mb w4 wN:=((e5).trans e6).then hxN;have u4:Keeps (New w3) (New w1) w4 wN:=g4.up z4 (by omega);have g5:Made mb w5 wN:=(e6).then hxN;have u5:Keeps (New w4) (New w1) w5 wN:=g5.up z5 (by omega);obtain ⟨A',C',w',r,st',k'⟩:=hst.push (T:=198) h_3 185 Tryz.t198 _ _ (by kernel_rfl) (by kernel_rfl) rfl (by kernel_rfl) rfl (by kernel_rfl) (by decide) hmlt dN (x:=x) (v:=.pointer (some (adr nb))) rfl (a_G rfl)
   ⟨nb,rfl,tb,q4,A5,L5,C5,q,by show w1.heap.size<=nb;omega,hB,f3.keep u3,f4.keep u4,PDirs.keep u5 f5⟩ (by omega) 185 #[false,false]
  refine ⟨A',i.toNat+1,C',w',r,⟨k' _ (by decide),trivial⟩,trivial,trivial,?_⟩;rw [a_a h0 (by omega)];refine next h0 hlt ⟨by omega,?_⟩
  rw [show (i+1).toNat=i.toNat+1 by omega,List.take_succ,hxs];exact st'
 ·have hle:=odf hge;rw [tl_ (by omega)] at hst;exact ⟨A,_,C,rfl,hst.1,hst.2.done h_3 (by omega)⟩
theorem b_0 {xs:List ArgDef}{w:World}(hl:a_R w a l c xs)(hok:∀ x∈xs,a_s x)(hm:Mk w mb):
  CP 182 #[.pointer (some (adr mb)),.slice a l c] w fun e w'=>∃ (A:OA) (L C:Nat),e=.returned (.slice A L C)/\Made mb w w'/\a_1 (New w) w' A L C xs:=by
 obtain ⟨el,gl⟩:=hl.len;have hmlt:=hm.lt;refine d_N (some (adr mb)) a l c w _ ⟨fun A L C i w1=>0<=i/\i<=l/\L=i.toNat/\LSt 389 (fun S w=>Ptr (b_u S w)) mb w A L C (xs.take i.toNat) w1,fun _ _ _ i _=>((l:Int)-i).toNat,⟨by omega,by omega,rfl,⟨Ext.refl _,hm⟩,by simpa using Bld.nil⟩,?_⟩;rintro A L C i w1 ⟨h0,hi,rfl,hst⟩;have hmk1:=hst.1.mkr;have hz1:=hst.1.ext.size;refine ⟨fun hlt=>?_,fun hge=>?_⟩
 ·have hlt:=odt hlt;obtain ⟨p,x,hp,hxs,cs,hc,nm,b1,m1,d1,nn,b2,m2,d0,b3,m3,d3,rfl,hv1,hv2,hv3⟩:=(a_R.keep (hst.1.keep hm) hl).get h0 hlt;obtain ⟨⟨_,_,hc0⟩,hcs0,⟨_,_,hc1⟩,hcs1,⟨_,_,hc2⟩,hcs2,⟨_,_,hc3⟩,hcs3,⟨_,_,hc4⟩,hcs4,⟨_,_,hc5⟩,hcs5,⟨_,_,hc6⟩,hcs6,-⟩:=hc;have hxm:=mg_ hxs;refine ⟨p,hp,⟨h0,hlt⟩,_,hc0.cell,_,hc1.cell,_,hc2.cell,_,_,_,hc3.cell,_,hc4.cell,_,_,_,hc5.cell,_,_,_,hc6.cell,trivial,trivial,fun w2 e2=>?_⟩;have hx2:EF w1 w2:=by rw [e2];exact ((Ext.refl w1).alloc _).drew
  clear e2;have d2:Made mb w1 w2:=⟨hx2.toM _,hmk1.ext hx2 id⟩;refine (b_m x.t nm b1 m1 d1 nn w2 mb (hv1.keep (d2.keep hmk1)) (hok x hxm).1 d2.mkr).mono ?_;rintro _ w3 ⟨tb,rfl,e3,f3⟩;refine ⟨_,rfl,⟨e3.keepT d2.mkr _ (by decide),trivial⟩,by simp,?_⟩;have d3:=d2.trans e3;have z3:=d2.ext.size;refine (b_z (hv2.keep (d3.keep hmk1)) (hok x hxm).2.1 d3.mkr).mono ?_;rintro _ w4 ⟨q4,rfl,e4,f4⟩;refine ⟨q4,rfl,⟨e4.keepT d3.mkr _ (by decide),trivial⟩,by simp,?_⟩;have d4:=d3.trans e4;have z4:=d3.ext.size;refine (a_k (hv3.keep (d4.keep hmk1)) (hok x hxm).2.2 d4.mkr).mono ?_;rintro _ w5 ⟨A5,L5,C5,rfl,e5,f5⟩;refine ⟨_,_,_,rfl,⟨e5.keepT d4.mkr _ (by decide),trivial⟩,by simp,?_⟩;have d5:=d4.trans e5;have z5:=d4.ext.size;refine (a_c d5.mkr).mono ?_;rintro _ w6 ⟨q,rfl,e6⟩;refine ⟨q,rfl,⟨e6.keepT d5.mkr _ (by decide),trivial⟩,by simp,?_⟩;have d6:=d5.trans e6;have z6:=d5.ext.size;refine ⟨trivial,trivial,trivial,trivial,trivial,?_⟩;have hB:=Blk.made w6 391 [.string x.doc,.string x.name,.pointer q4,.pointer (some (adr tb)),.slice A5 L5 C5,.pointer q,.pointer none,.pointer none];have hxN:EF w6 (w6.alloc (.cells #[.string x.doc,.string x.name,.pointer q4,.pointer (some (adr tb)),.slice A5 L5 C5,.pointer q,.pointer none,.pointer none] 391)):=(Ext.refl _).alloc _;have zN:=d6.ext.size;dsimp only;generalize hnb:w6.heap.size=nb at hB zN ⊢;generalize (w6.alloc (.cells #[.string x.doc,.string x.name,.pointer q4,.pointer (some (adr tb)),.slice A5 L5 C5,.pointer q,.pointer none,.pointer none] 391))=wN at hB hxN ⊢;have dN:=d6.then hxN;have g3:Made mb w3 wN:=(((e4).trans e5).trans e6).then hxN;have u3:Keeps (New w2) (New w1) w3 wN:=g3.up z3 (by omega);have g4:Made mb w4 wN:=((e5).trans e6).then hxN;have u4:Keeps (New w3) (New w1) w4 wN:=g4.up z4 (by omega);have g5:Made mb w5 wN:=(e6).then hxN;have u5:Keeps (New w4) (New w1) w5 wN:=g5.up z5 (by omega);obtain ⟨A',C',w',r,st',k'⟩:=hst.push (T:=389) e_Q 172 Tryz.t389 _ _ (by kernel_rfl) (by kernel_rfl) rfl (by kernel_rfl) rfl (by kernel_rfl) (by decide) hmlt dN (x:=x) (v:=.pointer (some (adr nb))) rfl (a_G rfl)
   ⟨nb,rfl,q4,tb,A5,L5,C5,q,by show w1.heap.size<=nb;omega,hB,f4.keep u4,f3.keep u3,PDirs.keep u5 f5⟩ (by omega) 172 #[false,false]
  refine ⟨A',i.toNat+1,C',w',r,⟨k' _ (by decide),trivial⟩,trivial,trivial,?_⟩;rw [a_a h0 (by omega)];refine next h0 hlt ⟨by omega,?_⟩
  rw [show (i+1).toNat=i.toNat+1 by omega,List.take_succ,hxs];exact st'
 ·have hle:=odf hge;rw [tl_ (by omega)] at hst;exact ⟨A,_,C,rfl,hst.1,hst.2.done e_Q (by omega)⟩
end Go.VC
