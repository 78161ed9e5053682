/- Part of the proof of a law of a rule over documents (BaseC), where what the arguments hold is of bulk at most 1048576. -/
import Derived.Test.YtdakokhbeoohlaaGreatDoorBaseB
import Derived.RowKit3
import Derived.Maps.AppendAt
import Derived.Laws.StructEq
set_option linter.unusedVariables false
set_option linter.unusedSimpArgs false
set_option linter.unusedSectionVars false
set_option linter.deprecated false
namespace Go.VC
open Go
structure Ext (X:Nat->Prop) (w w':World):Prop where
 old:∀ b o,¬ X b->objAt w b=some o->objAt w' b=some o
 size:w.heap.size<=w'.heap.size
 os:w'.os=w.os
 out:w'.output=w.output
abbrev EF (w w':World):Prop:=Ext (fun _=>False) w w'
abbrev Pure' (w w':World):Prop:=EF w w'
theorem a_3 {w:World}{b:Nat}{o:Obj}(h:objAt w b=some o):b<w.heap.size:=(Array.getElem?_eq_some_iff.1 h).1
theorem Ext.refl {X:Nat->Prop}(w:World):Ext X w w:=⟨fun _ _ _ h=>h,Nat.le_refl _,rfl,rfl⟩
theorem Ext.trans {X Y:Nat->Prop}{w w1 w2:World}(h:Ext X w w1)(k:Ext Y w1 w2)(hY:∀ b,b<w.heap.size->Y b->X b):Ext X w w2:=
 ⟨fun b o hx hb=>k.old b o (fun hy=>hx (hY b (a_3 hb) hy)) (h.old b o hx hb),lt_ h.size k.size,k.os.trans h.os,k.out.trans h.out⟩
theorem Ext.then {X:Nat->Prop}{w w1 w2:World}(h:Ext X w w1)(k:EF w1 w2):Ext X w w2:=h.trans k fun _ _ f=>f.elim
theorem Ext.mono {X Y:Nat->Prop}{w w1:World}(h:Ext X w w1)(hY:∀ b,b<w.heap.size->X b->Y b):Ext Y w w1:=
 ⟨fun b o hy hb=>h.old b o (fun hx=>hy (hY b (a_3 hb) hx)) hb,h.size,h.os,h.out⟩
theorem b_R (w:World)(o:Obj)(b:Nat):objAt (w.alloc o) b=if b=w.heap.size then some o else objAt w b:=by
 simp only [objAt,World.alloc,Array.getElem?_push]
theorem Ext.alloc {X:Nat->Prop}{w w1:World}(h:Ext X w w1)(o:Obj):Ext X w (w1.alloc o):=
 ⟨fun b o' hx hb=>by
  have:=h.old b o' hx hb;rw [b_R,if_neg (Nat.ne_of_lt (a_3 this))];exact this,by simp;have:=h.size;omega,h.os,h.out⟩
theorem Ext.drew {X:Nat->Prop}{w w1:World}(h:Ext X w w1):Ext X w w1.drew:=⟨h.old,h.size,h.os,h.out⟩
theorem b_o {w:World}{a:Addr}{v:Value}{b:Nat}(h:a.block≠b):objAt (w.setCell a v) b=objAt w b:=by
 simp [objAt,World.setCell,Array.getElem?_modify,h]
theorem Ext.setCell {X:Nat->Prop}{w w1:World}(h:Ext X w w1){a:Addr}(ha:X a.block∨w.heap.size<=a.block)(v:Value):Ext X w (w1.setCell a v):=
 ⟨fun b o hx hb=>by
  have hne:a.block≠b:=fun e=>by
   subst e;rcases ha with ha|ha
   ·exact hx ha
   ·have:=a_3 hb;omega
  rw [b_o hne];exact h.old b o hx hb,by simp;exact h.size,h.os,h.out⟩
theorem i_y {w:World}{b k:Nat}{cs:List Value}{t:TypeId}(h:b≠k):objAt (setB w b cs t) k=objAt w k:=by
 simp [objAt,setB,h]
theorem Ext.setB {X:Nat->Prop}{w w1:World}(h:Ext X w w1){b:Nat}(ha:X b∨w.heap.size<=b)(cs:List Value)(t:TypeId):Ext X w (setB w1 b cs t):=
 ⟨fun k o hx hb=>by
  have hne:b≠k:=fun e=>by
   subst e;rcases ha with ha|ha
   ·exact hx ha
   ·have:=a_3 hb;omega
  rw [i_y hne];exact h.old k o hx hb,by simp [VC.setB];exact h.size,h.os,h.out⟩
theorem Ext.keepT {w w1:World}(h:EF w w1)(T:TypeId):KeepT T w w1:=fun b _ _ hb=>h.old b _ id hb
def At (w:World)(T:TypeId)(a:Addr)(v:Value):Prop:=∃ (cs:Array Value) (fr:Nat × Nat),objAt w a.block=some (.cells cs T fr)/\a.spot=none/\cs[a.off]? =some v
theorem At.cell {w:World}{T:TypeId}{a:Addr}{v:Value}(h:At w T a v):w.cell? a=some v:=by
 obtain ⟨cs,fr,h1,h2,h3⟩:=h;simp only [objAt] at h1;simp [World.cell?,h1,h2,h3]
theorem At.lt {w:World}{T:TypeId}{a:Addr}{v:Value}(h:At w T a v):a.block<w.heap.size:=by
 obtain ⟨cs,fr,h1,h2,h3⟩:=h;exact a_3 h1
theorem Ext.at {X:Nat->Prop}{w w1:World}(h:Ext X w w1){T:TypeId}{a:Addr}{v:Value}(hx:¬ X a.block)(ha:At w T a v):At w1 T a v:=by
 obtain ⟨cs,fr,h1,h2,h3⟩:=ha;exact ⟨cs,fr,h.old _ _ hx h1,h2,h3⟩
theorem Ext.cell {X:Nat->Prop}{w w1:World}(h:Ext X w w1){T:TypeId}{a:Addr}{v:Value}(ha:At w T a v)(hx:¬ X a.block):w1.cell? a=some v:=(h.at hx ha).cell
def Sl {α:Type}(n:Nat)(R:Addr->α->Prop)(a:OA)(l c:Nat)(xs:List α):Prop:=
 l=xs.length/\l<=c/\l<=4194304/\∀ (i:Nat) (x:α),xs[i]? =some x->∃ p,a=some p/\R (p.add (i*n)) x
theorem Sl.get {α:Type}{n:Nat}{R:Addr->α->Prop}{a:OA}{l c:Nat}{xs:List α}(h:Sl n R a l c xs){i:Int}(h0:0<=i)(hi:i<(l:Int)):
  ∃ (p:Addr) (x:α),a=some p/\xs[i.toNat]? =some x/\R (p.add (i.toNat*n)) x:=by
 obtain ⟨h1,h2,_,h3⟩:=h;have:i.toNat<xs.length:=by omega
 obtain ⟨p,hp,hr⟩:=h3 i.toNat _ (List.getElem?_eq_getElem this);exact ⟨p,_,hp,List.getElem?_eq_getElem this,hr⟩
theorem Sl.mono {α:Type}{n:Nat}{R R':Addr->α->Prop}{a:OA}{l c:Nat}{xs:List α}(h:Sl n R a l c xs)(hr:∀ p x,x∈xs->R p x->R' p x):Sl n R' a l c xs:=by
 obtain ⟨h1,h2,h4,h3⟩:=h;refine ⟨h1,h2,h4,fun i x hx=>?_⟩;obtain ⟨p,hp,hq⟩:=h3 i x hx;exact ⟨p,hp,hr _ _ (mg_ hx) hq⟩
theorem n_L {α:Type}{Q:α->Prop}{xs:List α}{n:Nat}{x:α}(h:∀ y∈xs.take n,Q y)(hx:xs[n]? =some x)(hq:Q x):∀ y∈xs.take (n+1),Q y:=by
 intro y hy;rw [List.take_succ,hx] at hy;rcases ma_.1 hy with hy|hy
 ·exact h y hy
 ·obtain rfl:y=x:=by simpa using hy
  exact hq
theorem a_g {α:Type}{Q:α->Prop}{xs:List α}{i:Int}{x:α}(h0:0<=i)(h:∀ y∈xs.take i.toNat,Q y)(hx:xs[i.toNat]? =some x)(hq:Q x):∀ y∈xs.take (i+1).toNat,Q y:=by
 rw [show (i+1).toNat=i.toNat+1 by omega];exact n_L h hx hq
theorem a_o {α:Type}{Q:α->Prop}{xs:List α}{i:Int}{l:Nat}(e:l=xs.length)(hge:decide (i<(l:Int))=false)(h:∀ y∈xs.take i.toNat,Q y):∀ y∈xs,Q y:=by
 have:=odf hge;rw [tl_ (by omega)] at h;exact h
theorem next {i:Int}{l:Nat}{G:Prop}(h0:0<=i)(hlt:i<(l:Int))(hg:G):((0<=i+1/\i+1<=(l:Int)/\G)/\((l:Int)-(i+1)).toNat<((l:Int)-i).toNat):=
 ⟨⟨by omega,by omega,hg⟩,by omega⟩
theorem a_a {n:Int}(h:0<=n)(h':n<4611686018427387904):wr (n+1)=n+1:=by
 have e:(n+1) % 2 ^ 64=n+1:=by omega
 simp only [IntKind.wrap,IntKind.bits,IntKind.signed,e,Bool.true_and,decide_eq_true_eq];rw [if_neg (by omega)]
inductive Val where
 | mk (k:Int) (raw:BA) (kids:List (BA × Val))
inductive Typ where
 | mk (name:BA) (elem:List Typ) (nn:Bool)
structure Argm where
 name:BA
 v:Val
structure Dir where
 name:BA
 args:List Argm
inductive Sel where
 | mk (kind:Int) (als name on:BA) (args:List Argm) (dirs:List Dir) (kids:List Sel)
structure VarD where
 name:BA
 t:Typ
 dflt:List Val
 dirs:List Dir
structure OpD where
 kind:BA
 name:BA
 vars:List VarD
 dirs:List Dir
 kids:List Sel
structure Frag where
 name:BA
 on:BA
 dirs:List Dir
 kids:List Sel
structure ArgDef where
 doc:BA
 name:BA
 t:Typ
 dflt:List Val
 dirs:List Dir
structure Fld where
 doc:BA
 name:BA
 args:List ArgDef
 dflt:List Val
 t:Typ
 dirs:List Dir
structure EnumV where
 doc:BA
 name:BA
 dirs:List Dir
structure Def where
 kind:BA
 doc:BA
 name:BA
 dirs:List Dir
 ifaces:List BA
 fields:List Fld
 types:List BA
 enums:List EnumV
structure RootD where
 op:BA
 t:BA
structure SchemaDef where
 doc:BA
 dirs:List Dir
 roots:List RootD
structure DirDef where
 doc:BA
 name:BA
 args:List ArgDef
 locs:List BA
 rep:Bool
structure Named where
 name:BA
 names:List BA
def dataT (T:TypeId):Bool:=[27,44,90,92,155,99,9].any (Nat.beq T)
class DB where
 B:Nat
variable [DB]
def okT (T T':TypeId)(b:Nat):Prop:=T'=T∨b<DB.B
abbrev Keep (w w':World):Prop:=∀ T T' a v,dataT T=true->okT T T' a.block->At w T' a v->At w' T' a v
theorem Ext.keep {w w':World}(h:EF w w'):Keep w w':=fun _ _ _ _ _ _ ha=>h.at id ha
theorem Keep.refl (w:World):Keep w w:=fun _ _ _ _ _ _ h=>h
theorem Keep.trans {w w1 w2:World}(h:Keep w w1)(k:Keep w1 w2):Keep w w2:=fun T T' a v ht ho ha=>k T T' a v ht ho (h T T' a v ht ho ha)
def a_v:Value->Prop
 | .string s=>s.size<=4194304
 | v=>v.oneCell'=true
theorem a_v.one:∀ {v:Value},a_v v->v.oneCell'=true
 | .string _,_=>rfl
 | .bool _,h| .int _ _,h| .float _ _,h| .complex _ _ _,h| .pointer _,h| .slice _ _ _,h| .map _,h| .nilIface,h| .iface _ _,h| .nilFunc,h| .func _ _ _,h| .chan _,h| .agg _,h| .tuple _,h=>h
def a_x (w:World)(T:TypeId)(p:Addr):Nat->List Value->Prop
 | _,[]=>True
 | j,v::l=>(∃ T',okT T T' (adj p j).block/\At w T' (adj p j) v)/\a_v v/\a_x w T p (j+1) l
theorem a_x.keep {w w':World}(h:Keep w w'){T:TypeId}(ht:dataT T=true){p:Addr}:∀ {j:Nat} {l:List Value},a_x w T p j l->a_x w' T p j l
 | _,[],_=>trivial
 | _,_::_,⟨⟨T',ho,h1⟩,h0,h2⟩=>⟨⟨T',ho,h _ _ _ _ ht ho h1⟩,h0,a_x.keep h ht h2⟩
def SlL {α:Type}(w:World)(T n:Nat)(R:α->List Value->Prop)(a:OA)(l c:Nat)(xs:List α):Prop:=
 Sl n (fun p x=>∃ cs,a_x w T p 0 cs/\R x cs) a l c xs
theorem SlL.get {α:Type}{w:World}{T n:Nat}{R:α->List Value->Prop}{a:OA}{l c:Nat}{xs:List α}(h:SlL w T n R a l c xs){i:Int}(h0:0<=i)(hi:i<(l:Int)):
  ∃ (p:Addr) (x:α),a=some p/\xs[i.toNat]? =some x/\∃ cs,a_x w T (p.add (i.toNat*n)) 0 cs/\R x cs:=Sl.get h h0 hi
theorem SlL.len {α:Type}{w:World}{T n:Nat}{R:α->List Value->Prop}{a:OA}{l c:Nat}{xs:List α}(h:SlL w T n R a l c xs):l=xs.length/\l<=4194304:=⟨h.1,h.2.2.1⟩
theorem SlL.keep {α:Type}{w w':World}(h:Keep w w'){T n:Nat}(ht:dataT T=true){R R':α->List Value->Prop}{a:OA}{l c:Nat}{xs:List α}
  (hx:SlL w T n R a l c xs) (hr:∀ x∈xs,∀ cs,R x cs->R' x cs):SlL w' T n R' a l c xs:=
 Sl.mono hx fun _ x hm ⟨cs,h1,h2⟩=>⟨cs,a_x.keep h ht h1,hr x hm cs h2⟩
def RStrs (w:World)(a:OA)(l c:Nat)(xs:List BA):Prop:=SlL w 9 1 (fun s cs=>cs=[.string s]) a l c xs
theorem RStrs.keep {w w':World}(h:Keep w w'){a:OA}{l c:Nat}{x:List BA}(hx:RStrs w a l c x):RStrs w' a l c x:=
 SlL.keep h (by decide) hx fun _ _ _ e=>e
def RRoot (x:RootD)(cs:List Value):Prop:=cs=[.string x.op,.string x.t]
def b_J (w:World)(x:Named)(cs:List Value):Prop:=∃ (a1:OA) (l1 c1:Nat),cs=[.string x.name,.slice a1 l1 c1]/\RStrs w a1 l1 c1 x.names
section
variable {w w':World} {a:OA} {l c:Nat} {cs:List Value}
theorem b_J.keep (h:Keep w w'){x:Named}:b_J w x cs->b_J w' x cs
 | ⟨a1,l1,c1,h1,h2⟩=>⟨a1,l1,c1,h1,h2.keep h⟩
end
mutual
def spS:Sel->List BA
 | .mk k al n on args dirs kids=>if k=1 then [n] else spL kids
def spL:List Sel->List BA
 | []=>[]
 | s::l=>spS s++spL l
end
def spTot (ops:List OpD)(frags:List Frag):Nat:=(ops.map fun x=>(spL x.kids).length).sum+(frags.map fun x=>(spL x.kids).length).sum
end Go.VC
namespace Go.VC
open Go Go.Proofs
variable [DB]
def Own (base:Nat)(w:World)(T n:Nat)(a:OA)(l c:Nat)(xs:List Value):Prop:=w.ownsRow base T n (.slice a l c) l xs
theorem Own.nil (base:Nat)(w:World)(T n:Nat):Own base w T n none 0 0 []:=World.ownsRow_nil w base T n
theorem Own.made (base:Nat)(w:World)(T n l:Nat)(cur:Array Value)(hb:base<=w.heap.size)(hm:l<=maxLen)(hs:cur.size=l*n):
  Own base (w.alloc (.cells cur T)) T n (some (adr w.heap.size)) l l cur.toList:=
 ⟨by rw [Array.length_toList];exact hs,.inr ⟨w.heap.size,l,cur,rfl,hb,(MapKept.heap_alloc w _).1,Nat.le_refl _,hm,hs,by rw [<- hs,<- Array.length_toList];exact List.take_length⟩⟩
def blkOf (a:OA):Nat->Prop:=fun b=>∃ p,a=some p/\p.block=b
theorem Own.base {base:Nat}{w:World}{T n:Nat}{a:OA}{l c:Nat}{xs:List Value}(h:Own base w T n a l c xs):∀ b,blkOf a b->base<=b/\b<w.heap.size:=by
 rintro b ⟨p,rfl,rfl⟩;exact World.ownsRow.lt h _ rfl
theorem Own.keep {base:Nat}{w w':World}{T n:Nat}{a:OA}{l c:Nat}{xs:List Value}{X:Nat->Prop}(h:Own base w T n a l c xs)(hx:Ext X w w')(hn:∀ b,blkOf a b->¬ X b):Own base w' T n a l c xs:=by
 obtain ⟨h1,h2⟩:=h;refine ⟨h1,h2.elim .inl fun ⟨g,cap,cur,e1,e2,e3,e4⟩=>.inr ⟨g,cap,cur,e1,e2,?_,e4⟩⟩;simp only [Value.slice.injEq] at e1;exact hx.old g _ (hn g ⟨_,e1.1,rfl⟩) e3
theorem Own.at {base:Nat}{w:World}{T n:Nat}{a:OA}{l c:Nat}{xs:List Value}(h:Own base w T n a l c xs){j:Nat}{u:Value}(hu:xs[j]? =some u):∃ p,a=some p/\At w T (p.add j) u:=by
 obtain ⟨h1,h2|⟨g,cap,cur,e1,e2,e3,e4,e5,e6,e7⟩⟩:=h
 ·obtain ⟨h2,rfl⟩:=h2;have:xs=[]:=List.length_eq_zero_iff.1 (by simpa using h1);subst this;simp at hu
 ·simp only [Value.slice.injEq] at e1;refine ⟨_,e1.1,?_⟩;rw [Addr.add_lit];refine ⟨cur,(0,0),e3,rfl,?_⟩;have hj:j<xs.length:=(List.getElem?_eq_some_iff.1 hu).1;rw [<- e7] at hu;simp only [List.getElem?_take] at hu;rw [if_pos (by omega)] at hu;simp only [Nat.zero_add];rw [<- Array.getElem?_toList];exact hu
theorem Own.len {base:Nat}{w:World}{T n:Nat}{a:OA}{l c:Nat}{xs:List Value}(h:Own base w T n a l c xs):xs.length=l*n/\l<=c:=by
 obtain ⟨h1,h2|⟨g,cap,cur,e1,e2,e3,e4,e5,e6,e7⟩⟩:=h
 ·obtain ⟨h2,rfl⟩:=h2;simp only [Value.slice.injEq] at h2;exact ⟨h1,by omega⟩
 ·simp only [Value.slice.injEq] at e1;exact ⟨h1,by omega⟩
theorem Ext.of_grown {w w':World}{row:Option Nat}(h:w.grownBy w' row){X:Nat->Prop}(hX:∀ k,row=some k->X k):Ext X w w':=
 ⟨fun b o hx hb=>by
  have:=h.block b (a_3 hb) fun e=>hx (hX b e.symm);exact this.trans hb,h.size,h.os,h.output⟩
theorem c_a (t T:TypeId)(i:TypeInfo)(z:Value)(n bytes:Nat)(ht:Tryz.prog.underlying t=some (.slice T))(hi:Tryz.prog.info? T=some i)(hz:i.zero=some z)
  (hsize:i.size=n) (hby:i.bytes=bytes) (hzs:z.cells.size=n) (hn:0<n) {base:Nat} {w:World} {a:OA} {l c:Nat} {xs:List Value} (hown:Own base w T n a l c xs) (hb:base<=w.heap.size)
  {p:Addr} {l' c':Nat} {news:List Value} (hl:news.length=l'*n) (hnews:∀ j u,news[j]? =some u->w.cell? (p.add j)=some u) (h1:∀ u∈news,u.oneCell'=true)
  (h2:l+l'<=16777216) (h3:bytes<=4096) (ty:TypeId) (cs:Array Bool):
  ∃ (A:OA) (C:Nat) (w':World),(Go.builtin .append #[t,t] ty cs #[.slice a l c,.slice (some p) l' c']).run Tryz.prog w=.ok (.value (.slice A (l+l') C)) w'/\
   Own base w' T n A (l+l') C (xs++news)/\Ext (blkOf a) w w'/\(∀ b,blkOf A b->blkOf a b∨b=w.heap.size):=by
 have hbytes:(l+l')*bytes<=140737488355328:=by
  have:(l+l')*bytes<=16777216*4096:=Nat.mul_le_mul h2 h3;omega
 obtain ⟨v',w',e1,e2,e3,e4,e5⟩:=run_append_own_at (P:=Tryz.prog) w base t ty T i z n bytes ht hi hz hsize hby hzs hn (.slice a l c) l xs hown p l' c' news hl hnews h1 (by simp only [maxLen];omega) hbytes hb;have hv:∃ A C,v'=.slice A (l+l') C:=by
  obtain ⟨_,h|⟨g,cap,cur,h,_⟩⟩:=e2
  ·exact ⟨none,0,by rw [h.1,h.2]⟩
  ·exact ⟨_,_,h⟩
 obtain ⟨A,C,rfl⟩:=hv;have hX:∀ k,(Value.slice a l c).ownBlock=some k->blkOf a k:=by
  intro k hk;cases a with
  | none=>cases hk
  | some q=>exact ⟨q,rfl,by simpa [Value.ownBlock] using hk⟩
 refine ⟨A,C,w',?_,e2,Ext.of_grown e3 hX,?_⟩
 ·simp only [Go.builtin,Sem.run_bind,e1,Result.andThen_ok,Sem.run_pure]
 ·rintro b ⟨q,rfl,rfl⟩;rcases e5 with e5|e5
  ·exact .inl (hX _ e5.symm)
  ·exact .inr (by simpa [Value.ownBlock] using e5)
theorem Own.keepT {base:Nat}{w w':World}{T n:Nat}{a:OA}{l c:Nat}{xs:List Value}(h:Own base w T n a l c xs)(hx:Ext (blkOf a) w w'){T':TypeId}(hT:T'≠T):KeepT T' w w':=by
 intro b cs fr hb;refine hx.old b _ (fun hbl=>?_) hb;obtain ⟨h1,h2|⟨g,cap,cur,e1,e2,e3,e4⟩⟩:=h
 ·obtain ⟨p,hp,rfl⟩:=hbl;rw [hp] at h2;simp at h2
 ·simp only [Value.slice.injEq] at e1;obtain ⟨p,hp,rfl⟩:=hbl;rw [e1.1] at hp;cases hp;rw [show objAt w g=some (.cells cur T (0,0)) from e3] at hb;simp only [Option.some.injEq,Obj.cells.injEq] at hb;exact hT hb.2.1.symm
theorem d_u (t T:TypeId)(i:TypeInfo)(ht:Tryz.prog.underlying t=some (.slice T))(hi:Tryz.prog.info? T=some i){w:World}{a:OA}{l c c':Nat}(hlc:l<=c)(ty:TypeId)(cs:Array Bool):
  (Go.builtin .append #[t,t] ty cs #[.slice a l c,.slice none 0 c']).run Tryz.prog w=.ok (.value (.slice a l c)) w:=by
 have h:(Builtin.append_ #[t,t] ty #[.slice a l c,.slice none 0 c']).run Tryz.prog w=.ok (.slice a l c) w:=by
  cases a<;>simp [Builtin.append_,run_underlying ht,sizeOf,typeInfo,hi,Builtin.lenOf,Builtin.firstCells,hlc,storeCells]
 simp only [Go.builtin,Sem.run_bind,h,Result.andThen_ok,Sem.run_pure]
end Go.VC
namespace Go.VC
open Go Go.Proofs
abbrev XM (d:Nat):Nat->Prop:=fun k=>k=d
def Blk (w:World)(b:Nat)(T:TypeId)(cs:List Value):Prop:=objAt w b=some (.cells cs.toArray T (0,0))
theorem Blk.at {w:World}{b:Nat}{T:TypeId}{cs:List Value}(h:Blk w b T cs){j:Nat}{v:Value}(hj:cs[j]? =some v):At w T ⟨b,j,none⟩ v:=⟨_,_,h,rfl,by simpa using hj⟩
theorem Blk.lt {w:World}{b:Nat}{T:TypeId}{cs:List Value}(h:Blk w b T cs):b<w.heap.size:=a_3 h
theorem Blk.ext {X:Nat->Prop}{w w':World}{b:Nat}{T:TypeId}{cs:List Value}(h:Blk w b T cs)(hx:Ext X w w')(hb:¬ X b):Blk w' b T cs:=hx.old _ _ hb h
theorem Blk.made (w:World)(T:TypeId)(cs:List Value):Blk (w.alloc (.cells cs.toArray T)) w.heap.size T cs:=by
 unfold Blk;rw [b_R,if_pos rfl]
theorem a_E {w:World}{a:Addr}{v:Value}{cs:Array Value}{T:TypeId}{fr:Nat × Nat}(h:objAt w a.block=some (.cells cs T fr))(hs:a.spot=none):objAt (w.setCell a v) a.block=some (.cells (cs.setIfInBounds a.off v) T fr):=by
 have h':w.heap[a.block]? =some (.cells cs T fr):=h;simp [objAt,World.setCell,Array.getElem?_modify,h',hs]
theorem Blk.set {w:World}{b:Nat}{T:TypeId}{cs:List Value}(h:Blk w b T cs)(j:Nat)(v:Value):Blk (w.setCell ⟨b,j,none⟩ v) b T (cs.set j v):=by
 have:=a_E (v:=v) (a:=⟨b,j,none⟩) h rfl;unfold Blk;rw [this];simp
theorem Blk.setB {w:World}{b:Nat}{T:TypeId}{cs cs':List Value}(h:Blk w b T cs):Blk (setB w b cs' T) b T cs':=by
 unfold Blk;simp [objAt,VC.setB,h.lt]
theorem Blk.off {w:World}{b:Nat}{T:TypeId}{cs:List Value}(h:Blk w b T cs){j n:Nat}(hj:j+n<=cs.length){q:TypeId->Bool}(hq:q T=false):
  ∃ (cs:Array Value) (T:TypeId),objAt w b=some (.cells cs T (0,0))/\(none:Option Nat)=none/\j+n<=cs.size/\q T=false:=⟨_,_,h,rfl,by simpa using hj,hq⟩
theorem Ext.at1 {w w':World}{b:Nat}(hx:Ext (XM b) w w'){T0:TypeId}{cs:List Value}(hb:Blk w b T0 cs){T:TypeId}{a:Addr}{v:Value}(hT:T≠T0)(h:At w T a v):At w' T a v:=
 hx.at (fun e=>by
  obtain ⟨cs',fr,h1,_⟩:=h;rw [show a.block=b from e,show objAt w b=_ from hb] at h1;simp only [Option.some.injEq,Obj.cells.injEq] at h1;exact hT h1.2.1.symm) h
variable [DB]
inductive Flat {α:Type} (n:Nat) (R:α->List Value->Prop):List α->List Value->Prop
 | nil:Flat n R [] []
 | cons {x:α} {cs:List Value} {xs:List α} {cells:List Value}:cs.length=n->(∀ v∈cs,a_v v)->R x cs->Flat n R xs cells->Flat n R (x::xs) (cs++cells)
theorem Flat.len {α:Type}{n:Nat}{R:α->List Value->Prop}{xs:List α}{cells:List Value}(h:Flat n R xs cells):cells.length=xs.length*n:=by
 induction h with
 | nil=>simp
 | cons h1 _ _ _ ih=>simp [h1,ih,Nat.add_mul];omega
theorem Flat.small {α:Type}{n:Nat}{R:α->List Value->Prop}{xs:List α}{cells:List Value}(h:Flat n R xs cells):∀ v∈cells,a_v v:=by
 induction h with
 | nil=>simp
 | cons _ h2 _ _ ih=>
  intro v hv;rcases ma_.1 hv with hv|hv
  ·exact h2 v hv
  ·exact ih v hv
theorem Flat.append {α:Type}{n:Nat}{R:α->List Value->Prop}{xs ys:List α}{c1 c2:List Value}(h:Flat n R xs c1)(k:Flat n R ys c2):Flat n R (xs++ys) (c1++c2):=by
 induction h with
 | nil=>simpa using k
 | cons h1 h2 h3 _ ih=>rw [List.cons_append,List.append_assoc];exact .cons h1 h2 h3 ih
theorem Flat.mono {α:Type}{n:Nat}{R R':α->List Value->Prop}{xs:List α}{cells:List Value}(h:Flat n R xs cells)(hr:∀ x∈xs,∀ cs,R x cs->R' x cs):Flat n R' xs cells:=by
 induction h with
 | nil=>exact .nil
 | cons h1 h2 h3 _ ih=>exact .cons h1 h2 (hr _ (by simp) _ h3) (ih fun x hx=>hr x (by simp [hx]))
theorem Flat.get {α:Type}{n:Nat}{R:α->List Value->Prop}{xs:List α}{cells:List Value}(h:Flat n R xs cells):∀ (i:Nat) (x:α),xs[i]? =some x->
  ∃ cs,cs.length=n/\(∀ v∈cs,a_v v)/\R x cs/\∀ j u,cs[j]? =some u->cells[i*n+j]? =some u:=by
 induction h with
 | nil=>intro i x hx;simp at hx
 | @cons x0 cs0 xs0 cells0 h1 h2 h3 h4 ih=>
  intro i x hx;cases i with
  | zero=>
   obtain rfl:x0=x:=by simpa using hx
   refine ⟨cs0,h1,h2,h3,fun j u hu=>?_⟩;have:=(List.getElem?_eq_some_iff.1 hu).1;rw [List.getElem?_append_left (by omega)];simpa using hu
  | succ i=>
   obtain ⟨cs,g1,g2,g3,g4⟩:=ih i x (by simpa using hx);refine ⟨cs,g1,g2,g3,fun j u hu=>?_⟩;rw [List.getElem?_append_right (by rw [h1,Nat.add_mul];omega)];rw [show (i+1)*n+j-cs0.length=i*n+j by rw [h1,Nat.add_mul];omega];exact g4 j u hu
theorem h_D {w:World}{T:TypeId}{p:Addr}:∀ (cs:List Value) (j:Nat),(∀ k u,cs[k]? =some u->At w T (adj p (j+k)) u/\a_v u)->a_x w T p j cs
 | [],_,_=>trivial
 | v::l,j,h=>⟨⟨T,.inl rfl,(h 0 v rfl).1⟩,(h 0 v rfl).2,h_D l (j+1) fun k u hu=>by
   have:=h (k+1) u (by simpa using hu)
   rwa [show j+(k+1)=j+1+k by omega] at this⟩
theorem a_x.get {w:World}{T:TypeId}{p:Addr}:∀ {cs:List Value} {j:Nat},a_x w T p j cs->∀ k u,cs[k]? =some u->(∃ T',okT T T' (adj p (j+k)).block/\At w T' (adj p (j+k)) u)/\a_v u
 | [],_,_,k,u,hu=>by simp at hu
 | v::l,j,⟨h1,h2,h3⟩,k,u,hu=>by
  cases k with
  | zero=>
   obtain rfl:v=u:=by simpa using hu
   exact ⟨h1,h2⟩
  | succ k=>
   have:=h3.get k u (by simpa using hu)
   rwa [show j+(k+1)=j+1+k by omega]
theorem add_add' (a:Addr)(m n:Nat):(a.add m).add n=a.add (m+n):=by
 unfold Addr.add;by_cases hm:m=0<;>by_cases hn:n=0<;>simp [hm,hn];omega
theorem Own.sl {α:Type}{base:Nat}{w:World}{T n:Nat}{a:OA}{l c:Nat}{cells:List Value}(h:Own base w T n a l c cells){R:α->List Value->Prop}{xs:List α}
  (hf:Flat n R xs cells) (hn:0<n) (hl:l<=4194304):SlL w T n R a l c xs:=by
 have e:l=xs.length:=by
  have h1:=h.len.1;rw [hf.len] at h1;exact (Nat.eq_of_mul_eq_mul_right hn h1).symm
 refine ⟨e,h.len.2,hl,fun i x hx=>?_⟩;obtain ⟨cs,g1,g2,g3,g4⟩:=hf.get i x hx;have hp:∃ p,a=some p:=by
  cases cs with
  | nil=>simp at g1;omega
  | cons v r=>
   obtain ⟨p,hp,_⟩:=h.at (g4 0 v rfl);exact ⟨p,hp⟩
 obtain ⟨p,hp⟩:=hp;refine ⟨p,hp,cs,h_D cs 0 fun k u hu=>?_,g3⟩;obtain ⟨p',hp',ha⟩:=h.at (g4 k u hu);obtain rfl:p=p':=by rw [hp] at hp';exact Option.some.inj hp'
 refine ⟨?_,g2 u (mg_ hu)⟩;rw [Nat.zero_add,c_2,add_add'];exact ha
theorem Own.elem {α:Type}{base:Nat}{w:World}{T n:Nat}{a:OA}{l c:Nat}{cells:List Value}(h:Own base w T n a l c cells){R:α->List Value->Prop}{xs:List α}
  (hf:Flat n R xs cells) (hn:0<n) {i:Nat} {x:α} (hx:xs[i]? =some x):∃ p,a=some p/\∃ cs,R x cs/\∀ j v,cs[j]? =some v->At w T (p.add (i*n+j)) v:=by
 obtain ⟨cs,g1,g2,g3,g4⟩:=hf.get i x hx;have hp:∃ p,a=some p:=by
  cases cs with
  | nil=>simp at g1;omega
  | cons v r=>
   obtain ⟨p,hp,_⟩:=h.at (g4 0 v rfl);exact ⟨p,hp⟩
 obtain ⟨p,hp⟩:=hp;refine ⟨p,hp,cs,g3,fun k u hu=>?_⟩;obtain ⟨p',hp',ha⟩:=h.at (g4 k u hu);obtain rfl:p=p':=by rw [hp] at hp';exact Option.some.inj hp'
 exact ha
theorem SlL.flat {α:Type}{w:World}{T n:Nat}{R:α->List Value->Prop}{a:OA}{l c:Nat}{xs:List α}(h:SlL w T n R a l c xs)(hlen:∀ x cs,R x cs->cs.length=n):
  ∃ cells,Flat n R xs cells/\∀ j u,cells[j]? =some u->∃ p,a=some p/\∃ T',At w T' (p.add j) u:=by
 obtain ⟨e,_,_,h⟩:=h;have key:∀ (k:Nat) (ys:List α),(∀ i x,ys[i]? =some x->xs[k+i]? =some x)->∃ cells,Flat n R ys cells/\∀ j u,cells[j]? =some u->∃ p,a=some p/\∃ T',At w T' (p.add (k*n+j)) u:=by
  intro k ys;induction ys generalizing k with
  | nil=>intro _;exact ⟨[],.nil,fun j u hu=>by simp at hu⟩
  | cons y ys ih=>
   intro hk;obtain ⟨p,hp,cs,hc,hr⟩:=h k y (by have:=hk 0 y rfl;simpa using this);obtain ⟨cells,hf,hcell⟩:=ih (k+1) fun i x hx=>by
    have:=hk (i+1) x (by simpa using hx)
    rwa [show k+(i+1)=k+1+i by omega] at this
   have hcl:=hlen y cs hr;refine ⟨cs++cells,.cons hcl (fun v hv=>?_) hr hf,fun j u hu=>?_⟩
   ·obtain ⟨q,hq,rfl⟩:=List.getElem_of_mem hv;exact (hc.get q _ (List.getElem?_eq_getElem hq)).2
   ·rcases Nat.lt_or_ge j n with hj|hj
    ·rw [List.getElem?_append_left (by omega)] at hu;refine ⟨p,hp,?_⟩;obtain ⟨T',-, this⟩:=(hc.get j u hu).1;refine ⟨T',?_⟩
     rwa [Nat.zero_add,c_2,add_add'] at this
    ·rw [List.getElem?_append_right (by omega)] at hu;obtain ⟨p',hp',ha⟩:=hcell (j-cs.length) u hu;refine ⟨p',hp',?_⟩
     rwa [show (k+1)*n+(j-cs.length)=k*n+j by rw [hcl,Nat.add_mul];omega] at ha
 obtain ⟨cells,h1,h2⟩:=key 0 xs fun i x hx=>by simpa using hx
 exact ⟨cells,h1,fun j u hu=>by simpa using h2 j u hu⟩
theorem c_7 {α:Type}(t T:TypeId)(i:TypeInfo)(z:Value)(n bytes:Nat)(ht:Tryz.prog.underlying t=some (.slice T))(hi:Tryz.prog.info? T=some i)(hz:i.zero=some z)
  (hsize:i.size=n) (hby:i.bytes=bytes) (hzs:z.cells.size=n) (hn:0<n) (h3:bytes<=4096) {base:Nat} {w:World} {a:OA} {l c:Nat} {cells:List Value} {R:α->List Value->Prop} {xs ys:List α}
  (hown:Own base w T n a l c cells) (hb:base<=w.heap.size) (hf:Flat n R xs cells) {a':OA} {l' c':Nat} (hl:SlL w T n R a' l' c' ys) (hlen:∀ x cs,R x cs->cs.length=n)
  (h2:l+l'<=16777216) (ty:TypeId) (cs:Array Bool):
  ∃ (A:OA) (C:Nat) (w':World),(Go.builtin .append #[t,t] ty cs #[.slice a l c,.slice a' l' c']).run Tryz.prog w=.ok (.value (.slice A (l+l') C)) w'/\
   (∃ cells',Own base w' T n A (l+l') C cells'/\Flat n R (xs++ys) cells')/\Ext (blkOf a) w w'/\(∀ b,blkOf A b->blkOf a b∨b=w.heap.size):=by
 obtain ⟨news,hfn,hnews⟩:=hl.flat hlen;have e:=hl.len.1;cases a' with
 | none=>
  have hys:ys=[]:=by
   cases ys with
   | nil=>rfl
   | cons y ys=>
    obtain ⟨p,hp,_⟩:=hl.2.2.2 0 y rfl;cases hp
  subst hys;simp only [List.length_nil] at e;subst e;exact ⟨a,c,w,d_u t T i ht hi hown.len.2 ty cs,⟨cells,hown,by simpa using hf⟩,Ext.refl w,fun b hb=>.inl hb⟩
 | some p=>
  obtain ⟨A,C,w',h1,h2,h3,h4⟩:=c_a t T i z n bytes ht hi hz hsize hby hzs hn hown hb (p:=p) (c':=c') (by rw [hfn.len,e]) (fun j u hu=>by
   obtain ⟨p',hp',_,ha⟩:=hnews j u hu;cases hp';exact ha.cell) (fun u hu=>(hfn.small u hu).one) h2 h3 ty cs
  exact ⟨A,C,w',h1,⟨_,h2,hf.append hfn⟩,h3,h4⟩
def SMap (w:World)(b:Nat)(m:List (BA × Value)):Prop:=
 ∃ (ents:Array MapEntry) (cl:Nat),objAt w b=some (.map ents cl)/\ents.toList.map (fun e=>(e.key,e.val))=m.map fun x=>(Value.string x.1,x.2)
def mget (m:List (BA × Value))(u:BA):Option Value:=(m.find? fun x=>u==x.1).map (·.2)
def mput:List (BA × Value)->BA->Value->List (BA × Value)
 | [],u,v=>[(u,v)]
 | x::m,u,v=>if (u==x.1)=true then (x.1,v)::m else x::mput m u v
theorem SMap.ext {X:Nat->Prop}{w w':World}{b:Nat}{m:List (BA × Value)}(h:SMap w b m)(hx:Ext X w w')(hb:¬ X b):SMap w' b m:=by
 obtain ⟨ents,cl,h1,h2⟩:=h;exact ⟨ents,cl,hx.old b _ hb h1,h2⟩
theorem SMap.lt {w:World}{b:Nat}{m:List (BA × Value)}(h:SMap w b m):b<w.heap.size:=by
 obtain ⟨ents,cl,h1,h2⟩:=h;exact a_3 h1
theorem SMap.made (w:World):SMap (w.alloc (.map #[] 0)) w.heap.size []:=⟨#[],0,by rw [b_R,if_pos rfl],rfl⟩
end Go.VC
