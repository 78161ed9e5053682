/- Part of the proof of a law of a rule over documents (SpecC), where what the arguments hold is of bulk at most 1048576. -/
import Derived.Test.YtdakokhbeoohlaaGreatDoorSpecB
import Derived.Test.YtdakokhbeoohlaaGreatDoorBaseC
set_option linter.unusedVariables false
set_option linter.unusedSectionVars false
namespace Go.VC
open Go Go.Proofs
variable [DB]
variable {w':World}
def BMap (w:World)(b:Nat):Prop:=∃ m,SMap w b m/\∀ x∈m,∃ z,x.2=.bool z
theorem BMap.ext {X:Nat->Prop}{w:World}{b:Nat}(h:BMap w b)(hx:Ext X w w')(hb:¬ X b):BMap w' b:=by
  obtain ⟨m,h1,h2⟩:=h;exact ⟨m,h1.ext hx hb,h2⟩
theorem a_q {base:Nat}{w:World}{T n:Nat}{a:OA}{l c:Nat}{xs:List Value}(h:Own base w T n a l c xs){k:Nat}(hk:k<base∨w.heap.size<=k):¬ blkOf a k:=fun hb=>by
  have:=h.base k hb;omega
theorem Ext.ok1 {w:World}{b:Nat}(hx:Ext (XM b) w w'){T0:TypeId}{cs:List Value}(hb:Blk w b T0 cs){T T':TypeId}{a:Addr}{v:Value}(hT:T≠T0)(hB:DB.B<=b)(ho:okT T T' a.block)(h:At w T' a v):At w' T' a v:=
 ho.elim (fun e=>by
  subst e;exact hx.at1 hb hT h) fun hl=>hx.at (fun e=>by
  have:a.block=b:=e;omega) h
theorem b_x (a:Addr)(n:Nat):(a.add n).block=a.block:=by unfold Addr.add;split<;>rfl
theorem a_x.imp {w:World}{T:TypeId}{p:Addr}(h:∀ T' v j,At w T' (adj p j) v->At w' T' (adj p j) v):∀ {cs:List Value} {j:Nat},a_x w T p j cs->a_x w' T p j cs
 | [],_,_=>trivial
 | _::_,j,⟨⟨T',ho,h1⟩,h0,h2⟩=>⟨⟨T',ho,h T' _ j h1⟩,h0,h2.imp h⟩
theorem SlL.ext {α:Type}{X:Nat->Prop}{w:World}{T n:Nat}{R:α->List Value->Prop}{p:Addr}{l c:Nat}{xs:List α}(h:SlL w T n R (some p) l c xs)(hx:Ext X w w')(hp:¬ X p.block):SlL w' T n R (some p) l c xs:=by
 obtain ⟨h1,h2,h3,h4⟩:=h;refine ⟨h1,h2,h3,fun i x hi=>?_⟩;obtain ⟨q,hq,cs,hc,hr⟩:=h4 i x hi;cases hq;refine ⟨p,rfl,cs,hc.imp fun T' v j g=>hx.at ?_ g,hr⟩;rw [c_2,add_add',b_x];exact hp
def Two (base:Nat)(w:World)(A:OA)(L C:Nat)(xs:List BA)(B:OA)(M D:Nat)(ys:List BA):Prop:=
 (∃ cells,Own base w 9 1 A L C cells/\Flat 1 RS xs cells)/\(∃ cells,Own base w 9 1 B M D cells/\Flat 1 RS ys cells)/\∀ b,blkOf A b->¬ blkOf B b
section
variable {base:Nat} {w:World} {A:OA} {L C:Nat} {xs:List BA} {B:OA} {M D:Nat} {ys:List BA}
theorem Two.keep (h:Two base w A L C xs B M D ys)(hx:EF w w'):Two base w' A L C xs B M D ys:=by
 obtain ⟨⟨c1,o1,f1⟩,⟨c2,o2,f2⟩,h3⟩:=h;exact ⟨⟨c1,o1.keep hx fun _ _=>id,f1⟩,⟨c2,o2.keep hx fun _ _=>id,f2⟩,h3⟩
end
def a_F (types:List Def)(defs:List SchemaDef):List RootD:=
 match defs with
 | [d]=>d.roots
 | _=>[(⟨⟨#[113,117,101,114,121]⟩,⟨#[81,117,101,114,121]⟩⟩:RootD),⟨⟨#[109,117,116,97,116,105,111,110]⟩,⟨#[77,117,116,97,116,105,111,110]⟩⟩,⟨⟨#[115,117,98,115,99,114,105,112,116,105,111,110]⟩,⟨#[83,117,98,115,99,114,105,112,116,105,111,110]⟩⟩].filter fun r=>(findD types r.t).2
def k_n (types:List Def)(roots:List RootD):Prop:=(roots.map (·.op)).Nodup/\(roots.map (·.t)).Nodup/\a_5∈roots.map (·.op)/\∀ r∈roots,(findD types r.t).1.kind=a_V
section
variable {w0 w:World} {A:OA} {L C:Nat} {xs:List BA} {B:OA} {M D:Nat} {ys:List BA}
theorem Two.ext0 (h:Two w0.heap.size w A L C xs B M D ys)(hx0:EF w0 w)(hx:Ext (blkOf A) w w'):EF w0 w':=by
 obtain ⟨⟨c1,o1,f1⟩,-, -⟩:=h;exact hx0.trans hx fun b hb hbl=>a_q o1 (.inl hb) hbl
theorem Two.ne {base:Nat}(h:Two base w A L C xs B M D ys){k:Nat}(hk:w.heap.size<=k):¬ blkOf A k:=by
 obtain ⟨⟨c1,o1,f1⟩,-, -⟩:=h;exact a_q o1 (.inr hk)
end
abbrev def3:List RootD:=[⟨⟨#[113,117,101,114,121]⟩,⟨#[81,117,101,114,121]⟩⟩,⟨⟨#[109,117,116,97,116,105,111,110]⟩,⟨#[77,117,116,97,116,105,111,110]⟩⟩,⟨⟨#[115,117,98,115,99,114,105,112,116,105,111,110]⟩,⟨#[83,117,98,115,99,114,105,112,116,105,111,110]⟩⟩]
def i_z (types:List Def)(x:DirDef):Prop:=x.name∉giv/\(x.args.map (·.name)).Nodup/\(∀ y∈x.args,e_2 types y)/\x.locs.Nodup
structure OkSchema (types:List Def) (dirs:List DirDef) (defs:List SchemaDef):Prop where
 ok:∀ x∈types,okDef x
 simple:∀ x∈types,d_H types x
 few:types.length<=30/\dirs.length<=12
 small:∀ x∈types,x.fields.length+x.types.length+x.enums.length+x.ifaces.length<=12
 names:(types.map (·.name)).Nodup/\∀ s∈types.map (·.name),s≠E0/\s∉scal
 args:∀ x∈dirs,∀ y∈x.args,a_s y
 okdirs:∀ x∈dirs,i_z types x
 marks:(dirs.map (·.name)).Nodup/\∀ s∈dirs.map (·.name),s≠E0/\s∉scal
 roots:k_n types (a_F types defs)
 kept:∀ x∈types,s_4 types x
end Go.VC
