/- Part of the proof of a law of a rule over documents (SpecB), where what the arguments hold is of bulk at most 1048576. -/
import Derived.Test.YtdakokhbeoohlaaGreatDoorSpecA
set_option linter.unusedVariables false
set_option linter.unusedSectionVars false
set_option linter.deprecated false
namespace Go.VC
open Go Go.Proofs
variable [DB]
def noDef:Def:=⟨E0,E0,E0,[],[],[],[],[]⟩
def a_A (n:BA):Def:=⟨d_m,E0,n,[],[],[],[],[]⟩
def findD (types:List Def)(name:BA):Def × Bool:=
 match types.find? (fun d=>d.name.toList==name.toList) with
 | some d=>(d,true)
 | none=>if scal.any (fun s=>s.toList==name.toList) then (a_A name,true) else (noDef,false)
theorem SlL.nil {α:Type}(w:World)(T n:Nat)(R:α->List Value->Prop):SlL w T n R none 0 0 []:=⟨rfl,Nat.le_refl _,by omega,fun i x h=>by simp at h⟩
def g_l (k:BA):Prop:=k=d_m∨k=kEnum∨k=b_f
abbrev RS:BA->List Value->Prop:=fun s cs=>cs=[.string s]
def e_2 (types:List Def)(x:ArgDef):Prop:=g_l (findD types (a_n x.t)).1.kind/\x.dflt=[]/\x.dirs=[]
def rootD (roots:List RootD)(op:BA):BA:=
 match roots.find? (fun r=>r.op.toList==op.toList) with
 | some r=>r.t
 | none=>E0
def s_4 (types:List Def)(x:Def):Prop:=∀ s∈x.ifaces,∀ m∈(findD types s).1.ifaces,m∈x.ifaces
def n_Y (types:List Def)(kind:BA)(f:Fld):Prop:=
 f.dirs=[]/\f.dflt=[]/\(f.args.map (·.name)).Nodup/\(∀ y∈f.args,e_2 types y)/\
 (kind=b_f->g_l (findD types (a_n f.t)).1.kind)/\(kind≠b_f->(findD types (a_n f.t)).1.kind≠E0/\(findD types (a_n f.t)).1.kind≠b_f)
def d_H (types:List Def)(x:Def):Prop:=
 ((x.fields.map (·.name))++x.enums.map (·.name)).Nodup/\(∀ f∈x.fields,n_Y types x.kind f)/\(∀ e∈x.enums,e.dirs=[])/\
 (∀ s∈x.types,(findD types s).1.kind=a_V)/\(∀ s∈x.ifaces,(findD types s).1.kind=b_i/\s≠x.name)/\x.types.Nodup/\x.ifaces.Nodup/\x.dirs=[]
end Go.VC
