/-
  FnVerdictStringWords, walked.
-/
import Derived.Test.Qxb6604569aFmtTrip
namespace Go.Proofs.Qxb6604569aFmt
open Go.RowKit Go.Lib Go.Extern.Stop Go.Stop Go.Extern
set_option linter.unusedVariables false
set_option linter.unusedSimpArgs false

/-- A letter of a bare word. -/
def bareC (c : UInt8) : Prop := (97 ≤ c.toNat ∧ c.toNat ≤ 122) ∨ c.toNat = 45

set_option maxHeartbeats 1000000 in
theorem bare_yes (s : ByteArray) (l : List UInt8) (w : World) (hs : s.data.toList = l) (h0 : 0 < l.length) (h1 : l.length ≤ 100) (hb : ∀ c ∈ l, bareC c) :
    Calls Tryf.prog 9 #[.string s] w fun e w' => e = .returned (.bool true) ∧ w' = w := by
  obtain ⟨m, hm⟩ : ∃ m, m = l.length := ⟨_, rfl⟩
  have hz : s.size = m := by rw [hm]; exact size_of hs
  rw [← hm] at h0 h1
  have Hs : Hid (s.data.toList = l) := hs
  have Hm : Hid (m = l.length) := hm
  have Hb : Hid (∀ c ∈ l, bareC c) := hb
  have d0 : ((m : Int) == 0) = false := by simp; omega
  have d1 : (m == 0) = false := by simp; omega
  clear hs hm hb
  go_enter Tryf.func9, Tryf.ntmps9
  go_wp2_with fail
  go_loop [3] (fun y => ∃ i : Nat, i ≤ m ∧ y = .int .i64 i) (fun y => m - (intOf y).toNat)
  case atStart => exact ⟨0, Nat.zero_le _, rfl⟩
  case round =>
    obtain ⟨i, hi, rfl⟩ := hrel
    by_cases him : i < m
    · have hil : i < l.length := by rw [← Hm.out]; exact him
      have hg : l[i]? = some l[i] := List.getElem?_eq_getElem hil
      have hbc := Hb.out l[i] (List.getElem_mem hil)
      obtain ⟨k, hk⟩ : ∃ k, k = l[i].toNat := ⟨_, rfl⟩
      have k1 : ∀ h, (s[i]'h).toNat = k := fun h => by rw [byte_at Hs.out hg h, hk]
      unfold bareC at hbc
      rw [← hk] at hbc
      have di : decide ((i : Int) < (m : Int)) = true := by simp; omega
      clear hk hg
      by_cases hd : k = 45
      · subst hd
        have e1 : decide ((97 : Int) ≤ 45) = false := by decide
        go_wp2
        go_round
        case rel => exact ⟨i + 1, by omega, by go_num⟩
        case measure => simp [intOf]; omega
      · have hk1 : 97 ≤ k := by omega
        have hk2 : k ≤ 122 := by omega
        have e1 : decide ((97 : Int) ≤ (k : Int)) = true := by simp; omega
        have e2 : decide ((k : Int) ≤ 122) = true := by simp; omega
        have e3 : decide (97 ≤ k) = true := by simp; omega
        have e4 : decide (k ≤ 122) = true := by simp; omega
        clear hbc hd
        go_wp2
        go_round
        case rel => exact ⟨i + 1, by omega, by go_num⟩
        case measure => simp [intOf]; omega
    · obtain rfl : m = i := by omega
      have di : decide ((m : Int) < (m : Int)) = false := by simp
      go_wp2
      go_ret
      exact ⟨rfl, rfl⟩

set_option maxHeartbeats 1000000 in
theorem bare_no (s : ByteArray) (l : List UInt8) (w : World) (hs : s.data.toList = 86 :: l) (h1 : l.length ≤ 100) :
    Calls Tryf.prog 9 #[.string s] w fun e w' => e = .returned (.bool false) ∧ w' = w := by
  obtain ⟨m, hm⟩ : ∃ m, m = l.length + 1 := ⟨_, rfl⟩
  have hz : s.size = m := by rw [hm]; exact size_of hs
  have k1 : ∀ h, (s[0]'h).toNat = 86 := fun h => by rw [byte_at hs (i := 0) (c := 86) rfl h]; rfl
  have h0 : 0 < m := by omega
  have h2 : m ≤ 101 := by omega
  have d0 : ((m : Int) == 0) = false := by simp; omega
  have d1 : (m == 0) = false := by simp; omega
  have di : decide ((0 : Int) < (m : Int)) = true := by simp; omega
  have e1 : decide ((97 : Int) ≤ 86) = false := by decide
  clear hs hm h1
  go_enter Tryf.func9, Tryf.ntmps9
  go_wp2_with fail
  go_loop [3] (fun y => y = .int .i64 0) (fun y => 0)
  case atStart => rfl
  case round =>
    obtain rfl := hrel
    go_wp2
    go_ret
    exact ⟨rfl, rfl⟩

/-- A numeral tells its number. -/
theorem itoa_inj {a b : Int} (h : itoa a = itoa b) : a = b := by
  have key : ∀ (x : Nat) (y : Nat), 45 :: decDigits x ≠ decDigits y := fun x y e => by
    have := dec_digit y 45 (by rw [← e]; simp)
    simp at this
  unfold itoa at h
  by_cases h1 : a < 0
  · by_cases h2 : b < 0
    · rw [if_pos h1, if_pos h2] at h
      have := dec_inj (List.cons.inj h).2
      omega
    · rw [if_pos h1, if_neg h2] at h
      exact absurd h (key _ _)
  · by_cases h2 : b < 0
    · rw [if_neg h1, if_pos h2] at h
      exact absurd h.symm (key _ _)
    · rw [if_neg h1, if_neg h2] at h
      have := dec_inj h
      omega

theorem vText_head (v : Int) : vText v = 86 :: ([101, 114, 100, 105, 99, 116, 40] ++ (itoa v ++ [41])) := rfl

theorem vText_inj {a b : Int} (h : vText a = vText b) : a = b := by
  unfold vText at h
  have h1 := List.append_cancel_left h
  exact itoa_inj (List.append_cancel_right h1)

theorem word_inj {a b : Int} (h : word a = word b) : a = b := by
  unfold word at h
  by_cases a0 : a = 0 <;> by_cases a1 : a = 1 <;> by_cases a2 : a = 2 <;> by_cases b0 : b = 0 <;> by_cases b1 : b = 1 <;> by_cases b2 : b = 2 <;>
    simp only [a0, a1, a2, b0, b1, b2, if_true, if_false, vText_head] at h <;> first | omega | (exact absurd h (by decide)) | (simp at h; done) | exact vText_inj (by rw [vText_head, vText_head]; exact h)

/-- What zzBareWord says of a word. -/
theorem bare9 (v : Int) (hw : (Lit.int .i64 v).wf = true) (s : ByteArray) (hs : s.data.toList = word v) (w : World) :
    Calls Tryf.prog 9 #[.string s] w fun e w' => e = .returned (.bool (decide (0 ≤ v) && decide (v ≤ 2))) ∧ w' = w := by
  by_cases h0 : v = 0
  · subst h0
    exact bare_yes s _ w hs (by decide) (by decide) (by intro c hc; have : c ∈ [118, 97, 108, 105, 100] := hc; simp at this; rcases this with rfl | rfl | rfl | rfl | rfl <;> (unfold bareC; decide))
  by_cases h1 : v = 1
  · subst h1
    exact bare_yes s _ w hs (by decide) (by decide) (by intro c hc; have : c ∈ [98, 97, 100, 45, 99, 104, 101, 99, 107] := hc; simp at this; rcases this with rfl | rfl | rfl | rfl | rfl | rfl | rfl | rfl | rfl <;> (unfold bareC; decide))
  by_cases h2 : v = 2
  · subst h2
    exact bare_yes s _ w hs (by decide) (by decide) (by intro c hc; have : c ∈ [109, 97, 108, 102, 111, 114, 109, 101, 100] := hc; simp at this; rcases this with rfl | rfl | rfl | rfl | rfl | rfl | rfl | rfl | rfl <;> (unfold bareC; decide))
  have e : (decide (0 ≤ v) && decide (v ≤ 2)) = false := by
    by_cases q : 0 ≤ v
    · simp; omega
    · simp; omega
  rw [e]
  rw [word, if_neg h0, if_neg h1, if_neg h2, vText_head] at hs
  have := FmtText.itoa_length_le hw
  exact bare_no s _ w hs (by simp; omega)

theorem word_len (v : Int) (hw : (Lit.int .i64 v).wf = true) : 0 < (word v).length ∧ (word v).length ≤ 100 := by
  unfold word
  have := FmtText.itoa_length_le hw
  split
  · decide
  · split
    · decide
    · split
      · decide
      · simp [vText]; omega

set_option maxHeartbeats 1000000 in
theorem words4 (F : Interp) (v u : Int) (w : World) (hF : F.told.answers w.tape) (hw : (Lit.int .i64 v).wf = true) (hu : (Lit.int .i64 u).wf = true) :
    Calls Tryf.prog 4 #[.int .i64 v, .int .i64 u] w fun e w' => LawRet w e w' := by
  go_enter Tryf.func4, Tryf.ntmps4
  go_wp2_with fail
  refine (str8 F v w hF hw).mono ?_
  rintro e w1 ⟨s, rfl, hs, hb⟩
  have Hs : Hid (s.data.toList = word v) := hs
  have Hb : Hid (Below w.heap.size w w1) := hb
  have HF : Hid (F.told.answers w1.tape) := by show F.told.answers w1.tape; rw [hb.tape]; exact hF
  obtain ⟨n1, n2⟩ := word_len v hw
  obtain ⟨m, hm⟩ : ∃ m, m = (word v).length := ⟨_, rfl⟩
  have hz : s.size = m := by rw [hm]; exact size_of hs
  rw [← hm] at n1 n2
  clear hs hb hm
  go_wp2_with fail
  refine (str8 F u w1 HF.out hu).mono ?_
  rintro e w2 ⟨t, rfl, ht, hb2⟩
  have Ht : Hid (t.data.toList = word u) := ht
  have Hb2 : Hid (Below w.heap.size w w2) := Hb.out.trans (hb2.mono Hb.out.size)
  have HE : Hid ((s.toList == t.toList) = (v == u)) := by
    show (s.toList == t.toList) = (v == u)
    rw [list_of Hs.out, list_of ht]
    by_cases e : v = u
    · subst e; simp
    · have : ¬ word v = word u := fun q => e (word_inj q)
      rw [beq_eq_false_iff_ne.2 e]
      exact beq_eq_false_iff_ne.2 this
  clear ht hb2
  have dm : decide ((0 : Int) < (m : Int)) = true := by simp; omega
  have HB : Hid (Calls Tryf.prog 9 #[.string s] w2 fun e w' => e = .returned (.bool (decide (0 ≤ v) && decide (v ≤ 2))) ∧ w' = w2) := bare9 v hw s Hs.out w2
  have HR : Hid (Below w.heap.size w w2) := Hb2
  by_cases a : 0 ≤ v
  · by_cases b : v ≤ 2
    · have d1 : decide ((0 : Int) ≤ v) = true := by simpa using a
      have d2 : decide (v ≤ 2) = true := by simpa using b
      go_wp2_with fail
      refine HB.out.mono ?_
      rintro e w3 ⟨rfl, rfl⟩
      have hE := HE.out
      go_wp2
      go_ret
      exact ⟨rfl, HR.out⟩
    · have d1 : decide ((0 : Int) ≤ v) = true := by simpa using a
      have d2 : decide (v ≤ 2) = false := by simpa using b
      go_wp2_with fail
      refine HB.out.mono ?_
      rintro e w3 ⟨rfl, rfl⟩
      have hE := HE.out
      go_wp2
      go_ret
      exact ⟨rfl, HR.out⟩
  · have d1 : decide ((0 : Int) ≤ v) = false := by simpa using a
    go_wp2_with fail
    refine HB.out.mono ?_
    rintro e w3 ⟨rfl, rfl⟩
    have hE := HE.out
    go_wp2
    go_ret
    exact ⟨rfl, HR.out⟩
end Go.Proofs.Qxb6604569aFmt
