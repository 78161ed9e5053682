/- Part of the proof of a law of a rule over documents (LexA), where what the arguments hold is of bulk at most 1048576. -/
import Derived.Test.YtdakokhbeoohlaaGreatDoorTextA
import Derived.Test.YtdakokhbeoohlaaGreatDoorBaseC
import Derived.Laws.StructEq
import Derived.Test.YtdakokhbeoohlaaGreatDoorTextB
import Derived.Laws.Cover4
import Derived.Laws.IdiomStrings
import Derived.Laws.Concat
set_option linter.unusedVariables false
set_option linter.unusedSectionVars false
namespace Go.VC
open Go Go.Proofs
variable [DB]
variable {a:BA}{Q:Prop}
theorem c_A (a b:BA):(a.toList==b.toList)=decide (a=b):=by
 by_cases h:a=b
 ·subst h;simp
 ·have hne:a.toList≠b.toList:=fun e=>h (by
   rw [ByteArray.toList_eq,ByteArray.toList_eq] at e;cases a;cases b;simp only [ByteArray.mk.injEq];exact Array.toList_inj.1 e)
  simp [h,hne]
theorem a_b {b:BA}:(a.toList==b.toList)=true↔a=b:=by rw [c_A];simp
theorem a_f {b:BA}:(a.toList==b.toList)=false↔a≠b:=by rw [c_A];simp
abbrev RetB (w:World)(Q:Bool->Prop):Ending->World->Prop:=fun e w'=>∃ b,e=.returned (.bool b)/\EF w w'/\Q b
theorem RetB.base {f:FuncId}{args:Array Value}{w0 w:World}{Q:Bool->Prop}(h:CP f args w (RetB w Q))(hx:EF w0 w):
  CP f args w fun e w'=>∃ b,e=.returned (.bool b)/\(∀ T,KeepT T w w')/\EF w0 w'/\Q b:=
 h.mono fun e w' ⟨b,e1,h1,h2⟩=>⟨b,e1,h1.keepT,hx.then h1,h2⟩
theorem ff (h:false=true):Q:=nomatch h
theorem tf (h:true=false):Q:=nomatch h
theorem nf (h:(!false)=false):Q:=nomatch h
theorem nt (h:(!true)=true):Q:=nomatch h
theorem b_E {t:TypeId}{x y:Operand}{a b:Value}{w:World}:(eqGuard .add t x y a b).run Tryz.prog w=.ok () w:=rfl
theorem b_q {b:BA}{w:World}(ha:a.size<=4611686018427387904)(hb:b.size<=4611686018427387904-1):
  (binOp .add 9 (.string a) (.string b)).run Tryz.prog w=.ok (.string (a++b)) w:=by
 have h:¬ (((a.size+b.size:Nat):Int)>IntKind.i64.max):=by
  have:IntKind.i64.max=9223372036854775807:=rfl;rw [this];omega
 show (Op.stringOp .add a b).run Tryz.prog w=_;unfold Op.stringOp;simp only [if_neg h];rfl
structure Tk where
 k:Int
 s:BA
 a:Int
 b:Int
 c:Int
 d:Int
abbrev h_4 (t:Tk):List Value:=[.int .i64 t.k,.string t.s,.int .i64 t.a,.int .i64 t.b,.int .i64 t.c,.int .i64 t.d]
theorem At.kt {w w':World}{T:TypeId}{a:Addr}{v:Value}(h:At w T a v)(k:KeepT T w w'):At w' T a v:=by
 obtain ⟨cs,fr,h1,h2,h3⟩:=h;exact ⟨cs,fr,k _ _ _ h1,h2,h3⟩
theorem Own.kt {base:Nat}{w w':World}{T n:Nat}{a:OA}{l c:Nat}{xs:List Value}(h:Own base w T n a l c xs)(k:KeepT T w w'):Own base w' T n a l c xs:=by
 obtain ⟨h1,h2⟩:=h;exact ⟨h1,h2.elim .inl fun ⟨g,cap,cur,e1,e2,e3,e4⟩=>.inr ⟨g,cap,cur,e1,e2,k g cur (0,0) e3,e4⟩⟩
section
variable {base b:Nat} {A:OA} {L C:Nat} {at_:Int} {l:Nat} {seen:Int} {w w':World}
end
theorem f_c {a b:Int}(h: -4611686018427387904<=a+b)(h':a+b<4611686018427387904):wr (a+b)=a+b:=by
 have e:(a+b) % 2 ^ 64=if 0<=a+b then a+b else a+b+2 ^ 64:=by split<;>omega
 simp only [IntKind.wrap,IntKind.bits,IntKind.signed,e,Bool.true_and,decide_eq_true_eq];split<;>split<;>omega
section
variable {base b:Nat} {A:OA} {L C:Nat} {at_:Int} {l:Nat} {seen:Int} {w w':World}
end
def msr (L b j:Nat)(w:World):Nat:=match w.cell? ⟨b,j,none⟩ with
 | some (.int _ n)=>((L:Int)-n).toNat
 | _=>0
section
variable {base b:Nat} {A:OA} {L C:Nat} {at_:Int} {l:Nat} {w:World}
end
abbrev runes (ns:List Int):List Value:=ns.map (Value.int .i32)
section
variable {base b:Nat} {A:OA} {L C:Nat} {at_:Int} {l:Nat} {w:World}
end
end Go.VC
