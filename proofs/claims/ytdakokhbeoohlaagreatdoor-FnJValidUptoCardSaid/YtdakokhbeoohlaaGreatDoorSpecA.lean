/- Part of the proof of a law of a rule over documents (SpecA), where what the arguments hold is of bulk at most 1048576. -/
import Derived.Test.YtdakokhbeoohlaaGreatDoorLexB
import Derived.Test.YtdakokhbeoohlaaGreatDoorBaseC
import Derived.Test.YtdakokhbeoohlaaGreatDoorTextC
import Derived.Test.YtdakokhbeoohlaaGreatDoorTextE
set_option linter.unusedVariables false
set_option linter.unusedSectionVars false
namespace Go.VC
open Go Go.Proofs
variable [DB]
abbrev E0:BA:=⟨#[]⟩
mutual
def okVal:Val->Prop
 | .mk k _ kids=>0<=k/\k<=9/\h_O kids/\(k=9->∀ x∈kids,x.1≠E0)/\(k<8->kids=[])
def h_O:List (BA × Val)->Prop
 | []=>True
 | (_,v)::l=>okVal v/\h_O l
end
mutual
def fixV:Val->Prop
 | .mk k _ kids=>k≠0/\fixK kids
def fixK:List (BA × Val)->Prop
 | []=>True
 | (_,v)::l=>fixV v/\fixK l
end
def okF (fixed:Bool)(v:Val):Prop:=okVal v/\(fixed=true->fixV v)
def okTyp:Typ->Prop
 | .mk n [] _=>n≠E0
 | .mk n [t] _=>n=E0/\okTyp t
 | _=>False
def e_E (l:List Argm):Prop:=∀ x∈l,x.name≠E0/\okVal x.v
def b_4 (l:List Dir):Prop:=∀ x∈l,e_E x.args
def g_t (l:List Val):Prop:=l.length<=1/\∀ x∈l,okVal x
def okAF (fixed:Bool)(l:List Argm):Prop:=∀ x∈l,x.name≠E0/\okF fixed x.v
def okVar (x:VarD):Prop:=okTyp x.t/\g_t x.dflt/\b_4 x.dirs/\x.name≠⟨#[]⟩/\(∀ v∈x.dflt,fixV v)/\∀ d∈x.dirs,∀ a∈d.args,fixV a.v
mutual
def okSel:Sel->Prop
 | .mk k _ _ _ args dirs kids=>(k=0∨k=1∨k=2)/\e_E args/\b_4 dirs/\a_z kids/\(k=1->args=[]/\kids=[])/\(k=2->args=[])
def a_z:List Sel->Prop
 | []=>True
 | s::l=>okSel s/\a_z l
end
abbrev a_5:BA:=⟨#[113,117,101,114,121]⟩
abbrev bMut:BA:=⟨#[109,117,116,97,116,105,111,110]⟩
abbrev bSub:BA:=⟨#[115,117,98,115,99,114,105,112,116,105,111,110]⟩
def n_X (k:BA):Prop:=k=a_5∨k=bMut∨k=bSub
def okOp (x:OpD):Prop:=n_X x.kind/\(∀ v∈x.vars,okVar v)/\b_4 x.dirs/\a_z x.kids
def b_j (x:Frag):Prop:=b_4 x.dirs/\a_z x.kids/\x.name≠⟨#[]⟩
def a_s (x:ArgDef):Prop:=okTyp x.t/\g_t x.dflt/\b_4 x.dirs
def okFld (x:Fld):Prop:=okTyp x.t/\g_t x.dflt/\b_4 x.dirs/\∀ y∈x.args,a_s y
def e_1 (k:BA):Prop:=
 k=⟨#[83,67,65,76,65,82]⟩∨k=⟨#[79,66,74,69,67,84]⟩∨k=⟨#[73,78,84,69,82,70,65,67,69]⟩∨k=⟨#[73,78,80,85,84,95,79,66,74,69,67,84]⟩∨k=⟨#[85,78,73,79,78]⟩∨k=⟨#[69,78,85,77]⟩
def g_s (x:Def):Prop:=x.fields=[]∨x.kind=⟨#[79,66,74,69,67,84]⟩∨x.kind=⟨#[73,78,84,69,82,70,65,67,69]⟩∨x.kind=⟨#[73,78,80,85,84,95,79,66,74,69,67,84]⟩
def okDef (x:Def):Prop:=e_1 x.kind/\b_4 x.dirs/\(∀ f∈x.fields,okFld f)/\(∀ e∈x.enums,b_4 e.dirs)/\g_s x
open Classical in
 noncomputable def minN (p:Nat->Prop):Nat:=if h:∃ n,p n/\∀ m,p m->n<=m then Classical.choose h else 0
def a_n:Typ->BA
 | .mk n [] _=>n
 | .mk _ (t::_) _=>a_n t
abbrev scal:List BA:=[⟨#[73,110,116]⟩,⟨#[70,108,111,97,116]⟩,⟨#[83,116,114,105,110,103]⟩,⟨#[66,111,111,108,101,97,110]⟩,⟨#[73,68]⟩]
abbrev giv:List BA:=[⟨#[115,107,105,112]⟩,⟨#[105,110,99,108,117,100,101]⟩,⟨#[100,101,112,114,101,99,97,116,101,100]⟩,⟨#[115,112,101,99,105,102,105,101,100,66,121]⟩,⟨#[111,110,101,79,102]⟩,⟨#[100,101,102,101,114]⟩,⟨#[115,116,114,101,97,109]⟩]
abbrev d_m:BA:=⟨#[83,67,65,76,65,82]⟩
abbrev kEnum:BA:=⟨#[69,78,85,77]⟩
abbrev b_f:BA:=⟨#[73,78,80,85,84,95,79,66,74,69,67,84]⟩
abbrev a_V:BA:=⟨#[79,66,74,69,67,84]⟩
abbrev b_i:BA:=⟨#[73,78,84,69,82,70,65,67,69]⟩
abbrev d_n:BA:=⟨#[85,78,73,79,78]⟩
theorem RStrs.take {w:World}{a:OA}{l c:Nat}{xs:List BA}(h:RStrs w a l c xs){i:Int}(h0:0<=i)(hi:i<(l:Int)):
  RStrs w (if c=(0:Int).toNat then a else Option.map (·.add ((0:Int).toNat*1)) a) (i.toNat-(0:Int).toNat) (c-(0:Int).toNat) (xs.take i.toNat):=by
 obtain ⟨e,e2,e3,h⟩:=h;have ha:(if c=(0:Int).toNat then a else Option.map (·.add ((0:Int).toNat*1)) a)=a:=by
  split
  ·rfl
  ·cases a<;>simp [Addr.add]
 rw [ha];refine ⟨by simp;omega,by simp;omega,by simp;omega,fun j x hx=>?_⟩;rw [List.getElem?_take] at hx;split at hx
 ·exact h j x hx
 ·cases hx
end Go.VC
