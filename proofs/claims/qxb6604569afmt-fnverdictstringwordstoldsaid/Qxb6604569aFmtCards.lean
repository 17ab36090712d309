/-
  DERIVED. GIVEN WITH THE SEED: THE CARDS: each row of Qxb6604569aFmtRows.lean that lists a variable, with what it lists TIED to the program's text (the seventh form; the later family's looks); each row that meets fmt, with fmt's text TOLD by the authors' own Lean function (tested against real Go, not proved from fmt's source: count such statements apart). THE CARD IS WHAT COUNTS. Prove the row's statement (the work); the ties are given (Qxb6604569aFmtTie.lean); close each card by the builder's one call (the guide's Derived/Test/ToyasCard.lean, 'card_holds'). Laid BY PROGRAM, IN A SANDBOX (cutbox-door.mjs). By AI agents, Wed Nov 11 2026. No macro, syntax, notation, axiom, sorry.
-/
import Derived.Test.Qxb6604569aFmtRows
import GoSem.ClaimSeven
namespace Go.Proofs.Qxb6604569aFmt
namespace Rows

/-- THE TOLD CARD OF 'zzlaws_root_b1.FnVerdictStringRoundTrip'. -/
def fnVerdictStringRoundTripCard : Claim7 := { stood := { row := fnVerdictStringRoundTripRow, standIns := [], harness := (true, "c0011807b103d1ef221df1b13a8f4195fee9283ff79b6db610403eaddfcba287"), looks := true }, told := true, goes := false }
def FnVerdictStringRoundTripToldSaid : Prop := Claim7.holds Tryf.pinned (.plain (OpenSpec.ofChange fnVerdictStringRoundTripSpec)) fnVerdictStringRoundTripCard
/-- ITS FALSE NEIGHBOUR. Refute it at one input. -/
def FnVerdictStringRoundTripToldWrongFalsely : Prop := Claim7.holds Tryf.pinned (.plain (OpenSpec.ofChange fnVerdictStringRoundTripWrong)) fnVerdictStringRoundTripCard

/-- THE TOLD CARD OF 'zzlaws_root_b1.FnVerdictStringWords'. -/
def fnVerdictStringWordsCard : Claim7 := { stood := { row := fnVerdictStringWordsRow, standIns := [], harness := (true, "c0011807b103d1ef221df1b13a8f4195fee9283ff79b6db610403eaddfcba287"), looks := true }, told := true, goes := false }
def FnVerdictStringWordsToldSaid : Prop := Claim7.holds Tryf.pinned (.plain (OpenSpec.ofChange fnVerdictStringWordsSpec)) fnVerdictStringWordsCard
/-- ITS FALSE NEIGHBOUR. Refute it at one input. -/
def FnVerdictStringWordsToldWrongFalsely : Prop := Claim7.holds Tryf.pinned (.plain (OpenSpec.ofChange fnVerdictStringWordsWrong)) fnVerdictStringWordsCard

/-- THE TOLD AND TIED CARD OF 'zzlaws_root_b1.FnCheckParityCounts'. -/
def fnCheckParityCountsCard : Claim7 := { stood := { row := fnCheckParityCountsRow, standIns := [], harness := (true, "c0011807b103d1ef221df1b13a8f4195fee9283ff79b6db610403eaddfcba287"), looks := true }, told := true, laidByText := true, laidKinds := [.sentinel], laidTests := true, laidLooks := .later, goes := false }
def FnCheckParityCountsToldSaid : Prop := Claim7.holds Tryf.pinned (.plain (OpenSpec.ofChange fnCheckParityCountsSpec)) fnCheckParityCountsCard
/-- ITS FALSE NEIGHBOUR. Refute it at one input. -/
def FnCheckParityCountsToldWrongFalsely : Prop := Claim7.holds Tryf.pinned (.plain (OpenSpec.ofChange fnCheckParityCountsWrong)) fnCheckParityCountsCard

/-- THE TOLD AND TIED CARD OF 'zzlaws_root_b1.FnCheckParityComplement'. -/
def fnCheckParityComplementCard : Claim7 := { stood := { row := fnCheckParityComplementRow, standIns := [], harness := (true, "c0011807b103d1ef221df1b13a8f4195fee9283ff79b6db610403eaddfcba287"), looks := true }, told := true, laidByText := true, laidKinds := [.sentinel], laidTests := true, laidLooks := .later, goes := false }
def FnCheckParityComplementToldSaid : Prop := Claim7.holds Tryf.pinned (.plain (OpenSpec.ofChange fnCheckParityComplementSpec)) fnCheckParityComplementCard
/-- ITS FALSE NEIGHBOUR. Refute it at one input. -/
def FnCheckParityComplementToldWrongFalsely : Prop := Claim7.holds Tryf.pinned (.plain (OpenSpec.ofChange fnCheckParityComplementWrong)) fnCheckParityComplementCard
end Rows
end Go.Proofs.Qxb6604569aFmt
