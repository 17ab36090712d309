/-
  (Verdict).String: the word.
-/
import Derived.Test.Qxb6604569aFmtFacts
import Derived.WalkKit
import Derived.WalkSpells
import Derived.WalkLawsBesides
import Derived.Stop.FmtTextKit
import Derived.Stop.JoinedTold
import Derived.Stop.Texts
namespace Go.Proofs.Qxb6604569aFmt
open Go.RowKit Go.Extern.Stop Go.Stop Go.Extern Go.Kit

attribute [local go_sem] Tryf.call15 Tryf.guard Tryf.fmt2 Tryf.fmt2r Tryf.op3_100 Tryf.strict3

/-- What fmt is asked. -/
def vReading (v : Int) : List (List UInt8) := [[86, 101, 114, 100, 105, 99, 116, 40, 37, 100, 41], Tryf.shape3, digits 8 (v % 18446744073709551616).toNat]

/-- "Verdict(", the number, ")". -/
def vText (v : Int) : List UInt8 := [86, 101, 114, 100, 105, 99, 116, 40] ++ (Lib.itoa v ++ [41])

theorem v_parse : (FmtText.parse [86, 101, 114, 100, 105, 99, 116, 40, 37, 100, 41]).map FmtText.glue = some [.lit [86, 101, 114, 100, 105, 99, 116, 40], .verb {} 100, .lit [41]] := by rfl

theorem v_text (v : Int) (hw : (Lit.int .i64 v).wf = true) : FmtText.text "fmt.Sprintf" (vReading v) = some (vText v) := by
  have hi := FmtText.operand_int_at (sh := Tryf.shape3) (k := .i64) rfl rfl v hw
  rw [vReading, FmtText.text_sprintf_glued v_parse (FmtText.operands_cons hi FmtText.operands_nil)]
  simp [FmtText.render, FmtText.printArg_d _ _ hw, vText]

theorem v_told (F : Interp) (v : Int) (hw : (Lit.int .i64 v).wf = true) : (FmtStop.textOf (F.told "fmt.Sprintf" (vReading v) 0)).data.toList = vText v := by
  have hl := FmtText.itoa_length_le hw
  have ht := told_string F (v_text v hw) (by simp [vText]; omega)
  rw [textOf_list, ht]

/-- The word of a Verdict. -/
def word (v : Int) : List UInt8 :=
  if v = 0 then [118, 97, 108, 105, 100] else if v = 1 then [98, 97, 100, 45, 99, 104, 101, 99, 107] else if v = 2 then [109, 97, 108, 102, 111, 114, 109, 101, 100] else vText v

def StrRet (w : World) (v : Int) (e : Ending) (w' : World) : Prop := ∃ s : ByteArray, e = .returned (.string s) ∧ s.data.toList = word v ∧ Below w.heap.size w w'

set_option maxHeartbeats 400000 in
theorem str8 (F : Interp) (v : Int) (w : World) (hF : F.told.answers w.tape) (hw : (Lit.int .i64 v).wf = true) :
    Calls Tryf.prog 8 #[.int .i64 v] w fun e w' => StrRet w v e w' := by
  have ht := v_told F v hw
  have hF' := answers_open hF
  by_cases h0 : v = 0
  · subst h0
    go_enter Tryf.func8, Tryf.ntmps8
    go_wp2
    go_ret
    exact ⟨_, rfl, rfl, Below.refl _ _⟩
  by_cases h1 : v = 1
  · subst h1
    go_enter Tryf.func8, Tryf.ntmps8
    go_wp2
    go_ret
    exact ⟨_, rfl, rfl, Below.refl _ _⟩
  by_cases h2 : v = 2
  · subst h2
    go_enter Tryf.func8, Tryf.ntmps8
    go_wp2
    go_ret
    exact ⟨_, rfl, rfl, Below.refl _ _⟩
  have HT : Hid ((FmtStop.textOf (F.told "fmt.Sprintf" (vReading v) 0)).data.toList = vText v) := ht
  clear ht
  have d0 : (v == 0) = false := by simpa using h0
  have d1 : (v == 1) = false := by simpa using h1
  have d2 : (v == 2) = false := by simpa using h2
  go_enter Tryf.func8, Tryf.ntmps8
  go_wp2
  go_ret
  exact ⟨_, rfl, by rw [word, if_neg h0, if_neg h1, if_neg h2]; exact HT.out, ((Below.refl _ w).alloc (Nat.le_refl _) _).drew⟩
end Go.Proofs.Qxb6604569aFmt
