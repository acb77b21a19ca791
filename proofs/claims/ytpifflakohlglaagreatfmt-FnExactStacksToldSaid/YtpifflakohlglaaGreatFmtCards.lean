/-
  DERIVED. GIVEN WITH THE SEED: THE CARDS: each row of YtpifflakohlglaaGreatFmtRows.lean that lists a variable, with what it lists TIED to the program's text (the seventh form; the later family's looks); each row that meets fmt, with fmt's text TOLD by the authors' own Lean function (tested against real Go, not proved from fmt's source: count such statements apart). THE CARD IS WHAT COUNTS. Prove the row's statement (the work); the ties are given (YtpifflakohlglaaGreatFmtTie.lean); close each card by the builder's one call (the guide's Derived/Test/ToyasCard.lean, 'card_holds'). Laid BY PROGRAM, IN A SANDBOX (cutbox-door.mjs). By AI agents, Wed Nov 11 2026. No macro, syntax, notation, axiom, sorry.
-/
import Derived.Test.YtpifflakohlglaaGreatFmtRows
import GoSem.ClaimSeven
namespace Go.Proofs.YtpifflakohlglaaGreatFmt
namespace Rows

/-- THE TOLD AND TIED CARD OF 'laws.FnExactVisits'. -/
def fnExactVisitsCard : Claim7 := { stood := { row := fnExactVisitsRow, standIns := [], harness := (true, "fd4c53e554289bb78c207c5165a67424edf966150da204ff5b2792d3f23baba9"), looks := true }, told := true, laidByText := true, laidKinds := [.data, .data, .data, .data], laidTests := true, laidLooks := .later, goes := false }
def FnExactVisitsToldSaid : Prop := Claim7.holds Tryz.pinned (.plain (OpenSpec.ofChange fnExactVisitsSpec)) fnExactVisitsCard
/-- ITS FALSE NEIGHBOUR. Refute it at one input. -/
def FnExactVisitsToldWrongFalsely : Prop := Claim7.holds Tryz.pinned (.plain (OpenSpec.ofChange fnExactVisitsWrong)) fnExactVisitsCard

/-- THE TOLD AND TIED CARD OF 'laws.FnExactYields'. -/
def fnExactYieldsCard : Claim7 := { stood := { row := fnExactYieldsRow, standIns := [], harness := (true, "fd4c53e554289bb78c207c5165a67424edf966150da204ff5b2792d3f23baba9"), looks := true }, told := true, laidByText := true, laidKinds := [.data, .data, .data, .data], laidTests := true, laidLooks := .later, goes := false }
def FnExactYieldsToldSaid : Prop := Claim7.holds Tryz.pinned (.plain (OpenSpec.ofChange fnExactYieldsSpec)) fnExactYieldsCard
/-- ITS FALSE NEIGHBOUR. Refute it at one input. -/
def FnExactYieldsToldWrongFalsely : Prop := Claim7.holds Tryz.pinned (.plain (OpenSpec.ofChange fnExactYieldsWrong)) fnExactYieldsCard

/-- THE TOLD AND TIED CARD OF 'laws.FnExactStacks'. -/
def fnExactStacksCard : Claim7 := { stood := { row := fnExactStacksRow, standIns := [], harness := (true, "fd4c53e554289bb78c207c5165a67424edf966150da204ff5b2792d3f23baba9"), looks := true }, told := true, laidByText := true, laidKinds := [.data, .data, .data, .data], laidTests := true, laidLooks := .later, goes := false }
def FnExactStacksToldSaid : Prop := Claim7.holds Tryz.pinned (.plain (OpenSpec.ofChange fnExactStacksSpec)) fnExactStacksCard
/-- ITS FALSE NEIGHBOUR. Refute it at one input. -/
def FnExactStacksToldWrongFalsely : Prop := Claim7.holds Tryz.pinned (.plain (OpenSpec.ofChange fnExactStacksWrong)) fnExactStacksCard
end Rows
end Go.Proofs.YtpifflakohlglaaGreatFmt
