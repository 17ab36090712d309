/-
  FnVerdictStringRoundTrip, walked.
-/
import Derived.Test.Qxb6604569aFmtParse
namespace Go.Proofs.Qxb6604569aFmt
open Go.RowKit Go.Lib Go.Extern.Stop Go.Stop Go.Extern
set_option linter.unusedVariables false
set_option linter.unusedSimpArgs false

theorem mk_of {s : ByteArray} {l : List UInt8} (h : s.data.toList = l) : s = ByteArray.mk l.toArray := by
  apply ByteArray.ext
  subst h
  simp

theorem list_of {s : ByteArray} {l : List UInt8} (h : s.data.toList = l) : s.toList = l := by rw [mk_of h, ByteArray.toList_mk]

theorem i64_of {v : Int} (hw : (Lit.int .i64 v).wf = true) : -9223372036854775808 ≤ v ∧ v ≤ 9223372036854775807 := by
  simp [Lit.wf, IntKind.min, IntKind.max, IntKind.signed, IntKind.bits] at hw
  omega

/-- The pieces of a Verdict's text. -/
theorem pieces {s : ByteArray} {t : List UInt8} (h : s.data.toList = [86, 101, 114, 100, 105, 99, 116, 40] ++ (t ++ [41])) :
    s.size = t.length + 8 + 1 ∧ (s.extract 0 8).toList = [86, 101, 114, 100, 105, 99, 116, 40] ∧ (∀ q, s[t.length + 8]'q = 41) ∧ s.extract 8 (t.length + 8) = ByteArray.mk t.toArray := by
  refine ⟨?_, ?_, fun q => ?_, ?_⟩
  · rw [size_of h]; simp
  · rw [mk_of h, ByteArray.extract_mk, ByteArray.toList_mk]; rfl
  · refine byte_at h ?_ q
    rw [List.getElem?_append_right (by simp), List.getElem?_append_right (by simp)]
    simp
  · rw [mk_of h, ByteArray.extract_mk]
    congr 2
    rw [List.drop_left' (by rfl), List.take_left' (by omega)]

theorem parse7 (v : Int) (hw : (Lit.int .i64 v).wf = true) (s : ByteArray) (hs : s.data.toList = word v) (w : World) :
    Calls Tryf.prog 7 #[.string s] w fun e w' => ParRet v e ∧ w' = w := by
  by_cases h0 : v = 0
  · subst h0
    have hl : s.toList = [118, 97, 108, 105, 100] := list_of hs
    clear hs
    go_enter Tryf.func7, Tryf.ntmps7
    go_wp2
    go_ret2
    exact ⟨rfl, rfl⟩
  by_cases h1 : v = 1
  · subst h1
    have hl : s.toList = [98, 97, 100, 45, 99, 104, 101, 99, 107] := list_of hs
    clear hs
    go_enter Tryf.func7, Tryf.ntmps7
    go_wp2
    go_ret2
    exact ⟨rfl, rfl⟩
  by_cases h2 : v = 2
  · subst h2
    have hl : s.toList = [109, 97, 108, 102, 111, 114, 109, 101, 100] := list_of hs
    clear hs
    go_enter Tryf.func7, Tryf.ntmps7
    go_wp2
    go_ret2
    exact ⟨rfl, rfl⟩
  obtain ⟨b1, b2⟩ := i64_of hw
  rw [word, if_neg h0, if_neg h1, if_neg h2, vText] at hs
  obtain ⟨p1, p2, p3, p4⟩ := pieces hs
  by_cases hn : v < 0
  · obtain ⟨u, rfl⟩ : ∃ u : Nat, v = -(u : Int) := ⟨v.natAbs, by omega⟩
    have e : itoa (-(u : Int)) = 45 :: decDigits u := by
      rw [itoa, if_pos hn]
      simp
    rw [e] at hs p1 p3 p4
    have hl := dec_len (u := u) (by omega)
    obtain ⟨c, l, e1, _, _⟩ := dec_head (u := u) (by omega)
    have hpos : 0 < (decDigits u).length := by rw [e1]; simp
    exact parse_neg s _ (ByteArray.mk (decDigits u).toArray) ((45 :: decDigits u).length + 8) (45 :: decDigits u).length (decDigits u).length u w (by simp) hpos hl (by omega) (by omega) rfl (list_of hs) p1 p2
      (fun q => by rw [p3 q]; rfl) p4 (size_of (by simp)) (fun q => by rw [byte_at (l := 45 :: decDigits u) (i := 0) (c := 45) (by simp) (by rfl) q]; rfl)
      (by rw [ByteArray.extract_mk]; congr 2; simp) (size_of (by simp)) (by simp)
  · obtain ⟨u, rfl⟩ : ∃ u : Nat, v = (u : Int) := ⟨v.toNat, by omega⟩
    have e : itoa (u : Int) = decDigits u := by
      rw [itoa, if_neg hn]
      simp
    rw [e] at hs p1 p3 p4
    have hl := dec_len (u := u) (by omega)
    obtain ⟨c, l, e1, _, _⟩ := dec_head (u := u) (by omega)
    have hpos : 0 < (decDigits u).length := by rw [e1]; simp
    exact parse_pos s _ ((decDigits u).length + 8) (decDigits u).length u w hpos hl (by omega) (by omega) rfl (list_of hs) p1 p2 (fun q => by rw [p3 q]; rfl) p4 (size_of (by simp)) (by simp)

def LawRet (w : World) (e : Ending) (w' : World) : Prop := e = .returned (.bool true) ∧ Below w.heap.size w w'

theorem trip3 (F : Interp) (v : Int) (w : World) (hF : F.told.answers w.tape) (hw : (Lit.int .i64 v).wf = true) :
    Calls Tryf.prog 3 #[.int .i64 v] w fun e w' => LawRet w e w' := by
  go_enter Tryf.func3, Tryf.ntmps3
  go_wp2_with fail
  refine (str8 F v w hF hw).mono ?_
  rintro e w1 ⟨s, rfl, hs, hb⟩
  have Hs : Hid (s.data.toList = word v) := hs
  clear hs
  go_wp2_with fail
  refine (parse7 v hw s Hs.out w1).mono ?_
  rintro e w2 ⟨rfl, rfl⟩
  go_wp2
  go_ret
  exact ⟨rfl, hb⟩
end Go.Proofs.Qxb6604569aFmt
