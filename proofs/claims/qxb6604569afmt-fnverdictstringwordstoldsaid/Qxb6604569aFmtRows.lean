/-
  NARROWER THAN 'FOR EVERY INPUT', by the rows' own cells (each row's printed sentence says how): FnCheckParityCounts: laid · FnCheckParityComplement: laid.
  DERIVED. THE GIVEN ROWS OF THIS SEAT. 4 by the template 'for every input the law returns true; each argument reads behind the call as it read before'; 0 by the template 'total and deterministic' (their statements: Qxb6604569aFmtTotals.lean).
  GIVEN WITH THE SEED: the statements are not yours to turn. If you find one false, say at which input.
  Laid BY PROGRAM, IN A SANDBOX (cutbox-rows.mjs): the forced cells as the released guide's own fill.sh prints them over the translation 4843a4c469211adb… (all of the seat's roots in one cut). By AI agents, Wed Nov 11 2026. No macro, syntax, notation, axiom, sorry.
-/
import Derived.Test.Qxb6604569aFmtChecked
import GoSem.Claim
import GoSem.ClaimJoined
import GoSem.ClaimMapViews
import Derived.JoinedTies
import Derived.KernelRfl
namespace Go.Proofs.Qxb6604569aFmt
/- THE CELL 'sum', in the pinned program and in every row, IS THE sha256 OF THE DUMP (.gsa) THAT Qxb6604569aFmtProg.lean LOADS. Nothing in Lean hashes anything: it is a label: what it is worth is what the hold of that sum in a sandbox is worth. -/
noncomputable def Tryf.pinned : Pinned := { name := "qxb6604569afmt", sum := "4843a4c469211adbe39f391d3bf74fb431eb0a86445b9a0872fa615a48ecd2b2", checked := Tryf.checked }
namespace Rows
def none {H : Type} : Left H := { results := [], args := [] }

/- WHAT THE LISTED PACKAGE-LEVEL VARIABLES READ AS WHEN THE CALL BEGINS. Each datum BY PROGRAM (the guide's laid-datum.mjs) off the statement by which the dump's own 'gosem.cut.vars' lays the variable. In a bare row this is a premise. The card (Qxb6604569aFmtCards.lean) ties it to the program's text. -/
def laid_io_EOF {H : Type} : DataW H := .iface "*errors.errorString" (.ptr (.agg [.lit (.string [69, 79, 70])]))

/-- 'zzlaws_root_b1.FnVerdictStringRoundTrip': WHATEVER THE INPUT: true; the input reads as it did. -/
def fnVerdictStringRoundTripSpec : ChangeSpec := { name := "fnVerdictStringRoundTrip", fn := fun _ => fun
  | [d] => { results := [.lit (.bool true)], args := [d] }
  | _ => none }
def fnVerdictStringRoundTripRow : OpenClaim := { program := "qxb6604569afmt", sum := "4843a4c469211adbe39f391d3bf74fb431eb0a86445b9a0872fa615a48ecd2b2", func := "example.com/checkwright/checkwright/zzlaws_root_b1.FnVerdictStringRoundTrip", spec := "fnVerdictStringRoundTrip", stops := ["fmt.Sprintf", "fmt.errorf"], inPlace := ["fmt.Sprintf"], apart := false }
/-- NO THEOREM (fmt's text is open here; it may be false): for the released tool's asking of the row's closed facts alone. THE STATEMENT IS 'FnVerdictStringRoundTripToldSaid' (Qxb6604569aFmtCards.lean). -/
def FnVerdictStringRoundTripFormAsk : Prop := fnVerdictStringRoundTripRow.holds Tryf.pinned (OpenSpec.ofChange fnVerdictStringRoundTripSpec)

/-- ITS FALSE NEIGHBOUR: 'it returns false'. Refute it at one input. -/
def fnVerdictStringRoundTripWrong : ChangeSpec := { name := "fnVerdictStringRoundTrip", fn := fun _ => fun
  | [d] => { results := [.lit (.bool false)], args := [d] }
  | _ => none }
def FnVerdictStringRoundTripWrongFormAsk : Prop := fnVerdictStringRoundTripRow.holds Tryf.pinned (OpenSpec.ofChange fnVerdictStringRoundTripWrong)

/-- 'zzlaws_root_b1.FnVerdictStringWords': WHATEVER THE INPUT: true; the input reads as it did. -/
def fnVerdictStringWordsSpec : ChangeSpec := { name := "fnVerdictStringWords", fn := fun _ => fun
  | [d1, d2] => { results := [.lit (.bool true)], args := [d1, d2] }
  | _ => none }
def fnVerdictStringWordsRow : OpenClaim := { program := "qxb6604569afmt", sum := "4843a4c469211adbe39f391d3bf74fb431eb0a86445b9a0872fa615a48ecd2b2", func := "example.com/checkwright/checkwright/zzlaws_root_b1.FnVerdictStringWords", spec := "fnVerdictStringWords", stops := ["fmt.Sprintf", "fmt.errorf"], inPlace := ["fmt.Sprintf"], apart := false }
/-- NO THEOREM (fmt's text is open here; it may be false): for the released tool's asking of the row's closed facts alone. THE STATEMENT IS 'FnVerdictStringWordsToldSaid' (Qxb6604569aFmtCards.lean). -/
def FnVerdictStringWordsFormAsk : Prop := fnVerdictStringWordsRow.holds Tryf.pinned (OpenSpec.ofChange fnVerdictStringWordsSpec)

/-- ITS FALSE NEIGHBOUR: 'it returns false'. Refute it at one input. -/
def fnVerdictStringWordsWrong : ChangeSpec := { name := "fnVerdictStringWords", fn := fun _ => fun
  | [d1, d2] => { results := [.lit (.bool false)], args := [d1, d2] }
  | _ => none }
def FnVerdictStringWordsWrongFormAsk : Prop := fnVerdictStringWordsRow.holds Tryf.pinned (OpenSpec.ofChange fnVerdictStringWordsWrong)

/-- 'zzlaws_root_b1.FnCheckParityCounts': WHATEVER THE INPUT: true; the input reads as it did. -/
def fnCheckParityCountsSpec : ChangeSpec := { name := "fnCheckParityCounts", fn := fun _ => fun
  | [d1, d2] => { results := [.lit (.bool true)], args := [d1, d2] }
  | _ => none }
def fnCheckParityCountsRow : OpenClaim := { program := "qxb6604569afmt", sum := "4843a4c469211adbe39f391d3bf74fb431eb0a86445b9a0872fa615a48ecd2b2", func := "example.com/checkwright/checkwright/zzlaws_root_b1.FnCheckParityCounts", spec := "fnCheckParityCounts", stops := ["fmt.Sprintf", "fmt.errorf"], inPlace := ["fmt.errorf"], unfollowed := true, recurses := true, named := ["io.EOF"], apart := false, laid := [("io.EOF", laid_io_EOF)] }
/-- NO THEOREM (fmt's text is open here; it may be false): for the released tool's asking of the row's closed facts alone. THE STATEMENT IS 'FnCheckParityCountsToldSaid' (Qxb6604569aFmtCards.lean). -/
def FnCheckParityCountsFormAsk : Prop := fnCheckParityCountsRow.holds Tryf.pinned (OpenSpec.ofChange fnCheckParityCountsSpec)

/-- ITS FALSE NEIGHBOUR: 'it returns false'. Refute it at one input. -/
def fnCheckParityCountsWrong : ChangeSpec := { name := "fnCheckParityCounts", fn := fun _ => fun
  | [d1, d2] => { results := [.lit (.bool false)], args := [d1, d2] }
  | _ => none }
def FnCheckParityCountsWrongFormAsk : Prop := fnCheckParityCountsRow.holds Tryf.pinned (OpenSpec.ofChange fnCheckParityCountsWrong)

/-- 'zzlaws_root_b1.FnCheckParityComplement': WHATEVER THE INPUT: true; the input reads as it did. -/
def fnCheckParityComplementSpec : ChangeSpec := { name := "fnCheckParityComplement", fn := fun _ => fun
  | [d1, d2] => { results := [.lit (.bool true)], args := [d1, d2] }
  | _ => none }
def fnCheckParityComplementRow : OpenClaim := { program := "qxb6604569afmt", sum := "4843a4c469211adbe39f391d3bf74fb431eb0a86445b9a0872fa615a48ecd2b2", func := "example.com/checkwright/checkwright/zzlaws_root_b1.FnCheckParityComplement", spec := "fnCheckParityComplement", stops := ["fmt.Sprintf", "fmt.errorf"], inPlace := ["fmt.errorf"], unfollowed := true, recurses := true, named := ["io.EOF"], apart := false, laid := [("io.EOF", laid_io_EOF)] }
/-- NO THEOREM (fmt's text is open here; it may be false): for the released tool's asking of the row's closed facts alone. THE STATEMENT IS 'FnCheckParityComplementToldSaid' (Qxb6604569aFmtCards.lean). -/
def FnCheckParityComplementFormAsk : Prop := fnCheckParityComplementRow.holds Tryf.pinned (OpenSpec.ofChange fnCheckParityComplementSpec)

/-- ITS FALSE NEIGHBOUR: 'it returns false'. Refute it at one input. -/
def fnCheckParityComplementWrong : ChangeSpec := { name := "fnCheckParityComplement", fn := fun _ => fun
  | [d1, d2] => { results := [.lit (.bool false)], args := [d1, d2] }
  | _ => none }
def FnCheckParityComplementWrongFormAsk : Prop := fnCheckParityComplementRow.holds Tryf.pinned (OpenSpec.ofChange fnCheckParityComplementWrong)

end Rows
end Go.Proofs.Qxb6604569aFmt
