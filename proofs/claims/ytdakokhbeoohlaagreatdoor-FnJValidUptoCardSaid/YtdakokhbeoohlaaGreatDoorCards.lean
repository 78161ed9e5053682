/-
  DERIVED. GIVEN WITH THE SEED: THE CARDS: each row of YtdakokhbeoohlaaGreatDoorRows.lean that lists a variable, with what it lists TIED to the program's text (the seventh form; the later family's looks); each row that meets fmt, with fmt's text TOLD by the authors' own Lean function (tested against real Go, not proved from fmt's source: count such statements apart). THE CARD IS WHAT COUNTS. Prove the row's statement (the work); the ties are given (YtdakokhbeoohlaaGreatDoorTie.lean); close each card by the builder's one call (the guide's Derived/Test/ToyasCard.lean, 'card_holds'). Laid BY PROGRAM, IN A SANDBOX (cutbox-door.mjs). By AI agents, Wed Nov 11 2026. No macro, syntax, notation, axiom, sorry.
-/
import Derived.Test.YtdakokhbeoohlaaGreatDoorRows
import GoSem.ClaimSeven
namespace Go.Proofs.YtdakokhbeoohlaaGreatDoor
namespace Rows

/-- THE TIED CARD OF 'laws.FnJValid'. -/
def fnJValidCard : Claim7 := { stood := { row := fnJValidRow, standIns := [], harness := (true, "e3d8a3b75640c472e8953b3b47b4e5739a15353d4526d89cd8eee8579704fefd"), looks := true }, kinds := [], alts := [], laidByText := true, laidKinds := [.data, .data, .data], laidTests := true, laidLooks := .later }
def FnJValidCardSaid : Prop := Claim7.holds Tryz.pinned (.plain (OpenSpec.ofChange fnJValidSpec)) fnJValidCard

/-- THE TIED CARD OF 'laws.FnJNot'. -/
def fnJNotCard : Claim7 := { stood := { row := fnJNotRow, standIns := [], harness := (true, "e3d8a3b75640c472e8953b3b47b4e5739a15353d4526d89cd8eee8579704fefd"), looks := true }, kinds := [], alts := [], laidByText := true, laidKinds := [.data, .data, .data], laidTests := true, laidLooks := .later }
def FnJNotCardSaid : Prop := Claim7.holds Tryz.pinned (.plain (OpenSpec.ofChange fnJNotSpec)) fnJNotCard

/-- THE TIED CARD OF 'laws.FnJAll'. -/
def fnJAllCard : Claim7 := { stood := { row := fnJAllRow, standIns := [], harness := (true, "e3d8a3b75640c472e8953b3b47b4e5739a15353d4526d89cd8eee8579704fefd"), looks := true }, kinds := [], alts := [], laidByText := true, laidKinds := [.data, .data, .data], laidTests := true, laidLooks := .later }
def FnJAllCardSaid : Prop := Claim7.holds Tryz.pinned (.plain (OpenSpec.ofChange fnJAllSpec)) fnJAllCard

/-- THE TIED CARD OF 'laws.FnJIf'. -/
def fnJIfCard : Claim7 := { stood := { row := fnJIfRow, standIns := [], harness := (true, "e3d8a3b75640c472e8953b3b47b4e5739a15353d4526d89cd8eee8579704fefd"), looks := true }, kinds := [], alts := [], laidByText := true, laidKinds := [.data, .data, .data], laidTests := true, laidLooks := .later }
def FnJIfCardSaid : Prop := Claim7.holds Tryz.pinned (.plain (OpenSpec.ofChange fnJIfSpec)) fnJIfCard

/-- THE TIED CARD OF 'laws.FnJRef'. -/
def fnJRefCard : Claim7 := { stood := { row := fnJRefRow, standIns := [], harness := (true, "e3d8a3b75640c472e8953b3b47b4e5739a15353d4526d89cd8eee8579704fefd"), looks := true }, kinds := [], alts := [], laidByText := true, laidKinds := [.data, .data, .data], laidTests := true, laidLooks := .later }
def FnJRefCardSaid : Prop := Claim7.holds Tryz.pinned (.plain (OpenSpec.ofChange fnJRefSpec)) fnJRefCard

/-- THE TIED CARD OF 'laws.FnJMorgan'. -/
def fnJMorganCard : Claim7 := { stood := { row := fnJMorganRow, standIns := [], harness := (true, "e3d8a3b75640c472e8953b3b47b4e5739a15353d4526d89cd8eee8579704fefd"), looks := true }, kinds := [], alts := [], laidByText := true, laidKinds := [.data, .data, .data], laidTests := true, laidLooks := .later }
def FnJMorganCardSaid : Prop := Claim7.holds Tryz.pinned (.plain (OpenSpec.ofChange fnJMorganSpec)) fnJMorganCard

/-- THE TIED CARD OF 'laws.FnJEither'. -/
def fnJEitherCard : Claim7 := { stood := { row := fnJEitherRow, standIns := [], harness := (true, "e3d8a3b75640c472e8953b3b47b4e5739a15353d4526d89cd8eee8579704fefd"), looks := true }, kinds := [], alts := [], laidByText := true, laidKinds := [.data, .data, .data], laidTests := true, laidLooks := .later }
def FnJEitherCardSaid : Prop := Claim7.holds Tryz.pinned (.plain (OpenSpec.ofChange fnJEitherSpec)) fnJEitherCard

/-- THE TIED CARD OF 'laws.FnJDistribute'. -/
def fnJDistributeCard : Claim7 := { stood := { row := fnJDistributeRow, standIns := [], harness := (true, "e3d8a3b75640c472e8953b3b47b4e5739a15353d4526d89cd8eee8579704fefd"), looks := true }, kinds := [], alts := [], laidByText := true, laidKinds := [.data, .data, .data], laidTests := true, laidLooks := .later }
def FnJDistributeCardSaid : Prop := Claim7.holds Tryz.pinned (.plain (OpenSpec.ofChange fnJDistributeSpec)) fnJDistributeCard

/-- THE TIED CARD OF 'laws.FnJChoice'. -/
def fnJChoiceCard : Claim7 := { stood := { row := fnJChoiceRow, standIns := [], harness := (true, "e3d8a3b75640c472e8953b3b47b4e5739a15353d4526d89cd8eee8579704fefd"), looks := true }, kinds := [], alts := [], laidByText := true, laidKinds := [.data, .data, .data], laidTests := true, laidLooks := .later }
def FnJChoiceCardSaid : Prop := Claim7.holds Tryz.pinned (.plain (OpenSpec.ofChange fnJChoiceSpec)) fnJChoiceCard

/-- THE TIED CARD OF 'laws.FnJBehind'. -/
def fnJBehindCard : Claim7 := { stood := { row := fnJBehindRow, standIns := [], harness := (true, "e3d8a3b75640c472e8953b3b47b4e5739a15353d4526d89cd8eee8579704fefd"), looks := true }, kinds := [], alts := [], laidByText := true, laidKinds := [.data, .data, .data], laidTests := true, laidLooks := .later }
def FnJBehindCardSaid : Prop := Claim7.holds Tryz.pinned (.plain (OpenSpec.ofChange fnJBehindSpec)) fnJBehindCard

/-- THE SECOND FORM's CARD OF 'laws.FnJValid'. -/
def fnJValidUptoCard : Claim7 := { stood := { row := fnJValidUptoRow, standIns := [], harness := (true, "e3d8a3b75640c472e8953b3b47b4e5739a15353d4526d89cd8eee8579704fefd"), looks := true }, kinds := [], alts := [], laidByText := true, laidKinds := [.data, .data, .data], laidTests := true, laidLooks := .later }
def FnJValidUptoCardSaid : Prop := Claim7.holds Tryz.pinned (.plain (OpenSpec.upto fnJValidSpec)) fnJValidUptoCard

/-- THE SECOND FORM's CARD OF 'laws.FnJNot'. -/
def fnJNotUptoCard : Claim7 := { stood := { row := fnJNotUptoRow, standIns := [], harness := (true, "e3d8a3b75640c472e8953b3b47b4e5739a15353d4526d89cd8eee8579704fefd"), looks := true }, kinds := [], alts := [], laidByText := true, laidKinds := [.data, .data, .data], laidTests := true, laidLooks := .later }
def FnJNotUptoCardSaid : Prop := Claim7.holds Tryz.pinned (.plain (OpenSpec.upto fnJNotSpec)) fnJNotUptoCard

/-- THE SECOND FORM's CARD OF 'laws.FnJAll'. -/
def fnJAllUptoCard : Claim7 := { stood := { row := fnJAllUptoRow, standIns := [], harness := (true, "e3d8a3b75640c472e8953b3b47b4e5739a15353d4526d89cd8eee8579704fefd"), looks := true }, kinds := [], alts := [], laidByText := true, laidKinds := [.data, .data, .data], laidTests := true, laidLooks := .later }
def FnJAllUptoCardSaid : Prop := Claim7.holds Tryz.pinned (.plain (OpenSpec.upto fnJAllSpec)) fnJAllUptoCard

/-- THE SECOND FORM's CARD OF 'laws.FnJIf'. -/
def fnJIfUptoCard : Claim7 := { stood := { row := fnJIfUptoRow, standIns := [], harness := (true, "e3d8a3b75640c472e8953b3b47b4e5739a15353d4526d89cd8eee8579704fefd"), looks := true }, kinds := [], alts := [], laidByText := true, laidKinds := [.data, .data, .data], laidTests := true, laidLooks := .later }
def FnJIfUptoCardSaid : Prop := Claim7.holds Tryz.pinned (.plain (OpenSpec.upto fnJIfSpec)) fnJIfUptoCard

/-- THE SECOND FORM's CARD OF 'laws.FnJRef'. -/
def fnJRefUptoCard : Claim7 := { stood := { row := fnJRefUptoRow, standIns := [], harness := (true, "e3d8a3b75640c472e8953b3b47b4e5739a15353d4526d89cd8eee8579704fefd"), looks := true }, kinds := [], alts := [], laidByText := true, laidKinds := [.data, .data, .data], laidTests := true, laidLooks := .later }
def FnJRefUptoCardSaid : Prop := Claim7.holds Tryz.pinned (.plain (OpenSpec.upto fnJRefSpec)) fnJRefUptoCard

/-- THE SECOND FORM's CARD OF 'laws.FnJMorgan'. -/
def fnJMorganUptoCard : Claim7 := { stood := { row := fnJMorganUptoRow, standIns := [], harness := (true, "e3d8a3b75640c472e8953b3b47b4e5739a15353d4526d89cd8eee8579704fefd"), looks := true }, kinds := [], alts := [], laidByText := true, laidKinds := [.data, .data, .data], laidTests := true, laidLooks := .later }
def FnJMorganUptoCardSaid : Prop := Claim7.holds Tryz.pinned (.plain (OpenSpec.upto fnJMorganSpec)) fnJMorganUptoCard

/-- THE SECOND FORM's CARD OF 'laws.FnJEither'. -/
def fnJEitherUptoCard : Claim7 := { stood := { row := fnJEitherUptoRow, standIns := [], harness := (true, "e3d8a3b75640c472e8953b3b47b4e5739a15353d4526d89cd8eee8579704fefd"), looks := true }, kinds := [], alts := [], laidByText := true, laidKinds := [.data, .data, .data], laidTests := true, laidLooks := .later }
def FnJEitherUptoCardSaid : Prop := Claim7.holds Tryz.pinned (.plain (OpenSpec.upto fnJEitherSpec)) fnJEitherUptoCard

/-- THE SECOND FORM's CARD OF 'laws.FnJDistribute'. -/
def fnJDistributeUptoCard : Claim7 := { stood := { row := fnJDistributeUptoRow, standIns := [], harness := (true, "e3d8a3b75640c472e8953b3b47b4e5739a15353d4526d89cd8eee8579704fefd"), looks := true }, kinds := [], alts := [], laidByText := true, laidKinds := [.data, .data, .data], laidTests := true, laidLooks := .later }
def FnJDistributeUptoCardSaid : Prop := Claim7.holds Tryz.pinned (.plain (OpenSpec.upto fnJDistributeSpec)) fnJDistributeUptoCard

/-- THE SECOND FORM's CARD OF 'laws.FnJChoice'. -/
def fnJChoiceUptoCard : Claim7 := { stood := { row := fnJChoiceUptoRow, standIns := [], harness := (true, "e3d8a3b75640c472e8953b3b47b4e5739a15353d4526d89cd8eee8579704fefd"), looks := true }, kinds := [], alts := [], laidByText := true, laidKinds := [.data, .data, .data], laidTests := true, laidLooks := .later }
def FnJChoiceUptoCardSaid : Prop := Claim7.holds Tryz.pinned (.plain (OpenSpec.upto fnJChoiceSpec)) fnJChoiceUptoCard

/-- THE SECOND FORM's CARD OF 'laws.FnJBehind'. -/
def fnJBehindUptoCard : Claim7 := { stood := { row := fnJBehindUptoRow, standIns := [], harness := (true, "e3d8a3b75640c472e8953b3b47b4e5739a15353d4526d89cd8eee8579704fefd"), looks := true }, kinds := [], alts := [], laidByText := true, laidKinds := [.data, .data, .data], laidTests := true, laidLooks := .later }
def FnJBehindUptoCardSaid : Prop := Claim7.holds Tryz.pinned (.plain (OpenSpec.upto fnJBehindSpec)) fnJBehindUptoCard
end Rows
end Go.Proofs.YtdakokhbeoohlaaGreatDoor
