/-
  zzParseVerdict reads a word back.
-/
import Derived.Test.Qxb6604569aFmtPlain
import Derived.Deep.LoopGhost
import Derived.Deep.CutRange
namespace Go.Proofs.Qxb6604569aFmt
open Go.RowKit Go.Lib
set_option linter.unusedVariables false
set_option linter.unusedSimpArgs false

def ParRet (v : Int) (e : Ending) : Prop := e = .returned (.tuple #[.int .i64 v, .bool true])

/-- The byte at a place. -/
theorem byte_at {e : ByteArray} {l : List UInt8} (hl : e.data.toList = l) {i : Nat} {c : UInt8} (hc : l[i]? = some c) (h : i < e.size) : e[i]'h = c := by
  subst hl
  rw [Array.getElem?_toList] at hc
  have : e.data[i]? = some (e[i]'h) := Array.getElem?_eq_getElem h
  rw [this] at hc
  exact Option.some.inj hc

theorem size_of {e : ByteArray} {l : List UInt8} (hl : e.data.toList = l) : e.size = l.length := by
  rw [← hl, Array.length_toList]
  rfl

/-- The next digit. -/
theorem digit_at {e : ByteArray} {u i : Nat} (hl : e.data.toList = decDigits u) (hi : i < (decDigits u).length) :
    ∃ c : Nat, (∀ h, (e[i]'h).toNat = c) ∧ 48 ≤ c ∧ c ≤ 57 ∧ dval ((decDigits u).take (i + 1)) = dval ((decDigits u).take i) * 10 + (c - 48) := by
  have hg : (decDigits u)[i]? = some (decDigits u)[i] := List.getElem?_eq_getElem hi
  have hd := dec_digit u _ (List.getElem_mem hi)
  exact ⟨(decDigits u)[i].toNat, fun h => by rw [byte_at hl hg h], hd.1, hd.2, dval_next hg⟩

set_option maxHeartbeats 1000000 in
theorem parse_pos (s d : ByteArray) (q m u : Nat) (w : World) (hm : 0 < m) (hm2 : m ≤ 19) (hu : 2 < u) (hu2 : u ≤ 9223372036854775807)
    (hq : q = m + 8) (hL : s.toList = [86, 101, 114, 100, 105, 99, 116, 40] ++ (decDigits u ++ [41])) (hsz : s.size = q + 1) (hx : (s.extract 0 8).toList = [86, 101, 114, 100, 105, 99, 116, 40])
    (hl : ∀ h, (s[q]'h).toNat = 41) (hd : s.extract 8 q = d) (hdz : d.size = m) (hdl : d.data.toList = decDigits u) :
    Calls Tryf.prog 7 #[.string s] w fun e w' => ParRet (u : Int) e ∧ w' = w := by
  have hml : m = (decDigits u).length := by rw [← hdz]; exact size_of hdl
  obtain ⟨c0, l0, e0, b1, b2⟩ := dec_head (u := u) (by omega)
  have h0 : ∀ h, (d[0]'h).toNat = c0.toNat := fun h => by rw [byte_at hdl (i := 0) (c := c0) (by rw [e0]; rfl) h]
  obtain ⟨c, hc⟩ : ∃ c, c = c0.toNat := ⟨_, rfl⟩
  rw [← hc] at h0 b1 b2
  have Hdl : Hid (d.data.toList = decDigits u) := hdl
  have Hml : Hid (m = (decDigits u).length) := hml
  have dc1 : ((c : Int) == 45) = false := by simp; omega
  have dc2 : ((c : Int) == 48) = false := by simp; omega
  have dc3 : (c == 45) = false := by simp; omega
  have dc4 : (c == 48) = false := by simp; omega
  have dm1 : ((m : Int) == 0) = false := by simp; omega
  have dm2 : decide ((19 : Int) < (m : Int)) = false := by simp; omega
  have dm3 : (m == 0) = false := by simp; omega
  have dq : decide ((q : Int) + 1 < 10) = false := by simp; omega
  clear hc e0 hdl hml
  go_enter Tryf.func7, Tryf.ntmps7
  go_upto_region 8 with fail
  have hq1 : 9 ≤ q := by omega
  have hq2 : q ≤ 27 := by omega
  clear hL hq
  go_upto_region 12 with fail
  go_upto_region 17 with fail
  go_wp2_with fail
  go_loop [6, 7] (fun x y => ∃ i : Nat, i ≤ m ∧ y = .int .i64 i ∧ x = .int .u64 (dval ((decDigits u).take i) : Int)) (fun _ y => m - (intOf y).toNat)
  case atStart => exact ⟨0, Nat.zero_le _, rfl, by simp [dval]⟩
  case round =>
    obtain ⟨i, hi, rfl, rfl⟩ := hrel
    by_cases him : i < m
    · obtain ⟨k, k1, k2, k3, k4⟩ := digit_at Hdl.out (i := i) (by rw [← Hml.out]; exact him)
      have k5 := dval_take_le (decDigits u) (i + 1)
      rw [dval_dec] at k5
      obtain ⟨x, hx1⟩ : ∃ x, x = dval ((decDigits u).take i) := ⟨_, rfl⟩
      rw [← hx1] at k4 ⊢
      rw [k4] at k5
      have K4 : Hid (dval ((decDigits u).take (i + 1)) = x * 10 + (k - 48)) := k4
      have di : decide ((i : Int) < (m : Int)) = true := by simp; omega
      have dk1 : decide ((k : Int) < 48) = false := by simp; omega
      have dk2 : decide ((57 : Int) < (k : Int)) = false := by simp; omega
      have dk3 : decide (k < 48) = false := by simp; omega
      have dk4 : decide (57 < k) = false := by simp; omega
      clear k4 hx1
      go_wp2
      go_round
      case rel => exact ⟨i + 1, by omega, by go_num, by rw [K4.out]; go_num⟩
      case measure => simp [intOf]; omega
    · obtain rfl : m = i := by omega
      have he : dval ((decDigits u).take m) = u := by
        rw [Hml.out, List.take_length, dval_dec]
      rw [he]
      have di : decide ((m : Int) < (m : Int)) = false := by simp
      have du1 : decide ((9223372036854775807 : Int) < (u : Int)) = false := by simp; omega
      have du2 : decide ((u : Int) ≤ 2) = false := by simp; omega
      have du3 : decide (u ≤ 2) = false := by simp; omega
      go_wp2
      go_ret2
      exact ⟨rfl, rfl⟩
set_option maxHeartbeats 1000000 in
theorem parse_neg (s d e : ByteArray) (q m mm u : Nat) (w : World) (hm : m = mm + 1) (hm1 : 0 < mm) (hm2 : mm ≤ 19) (hu : 0 < u) (hu2 : u ≤ 9223372036854775808)
    (hq : q = m + 8) (hL : s.toList = [86, 101, 114, 100, 105, 99, 116, 40] ++ (45 :: decDigits u ++ [41])) (hsz : s.size = q + 1) (hx : (s.extract 0 8).toList = [86, 101, 114, 100, 105, 99, 116, 40])
    (hl : ∀ h, (s[q]'h).toNat = 41) (hd : s.extract 8 q = d) (hdz : d.size = m) (hd0 : ∀ h, (d[0]'h).toNat = 45) (he : d.extract 1 m = e) (hez : e.size = mm) (hel : e.data.toList = decDigits u) :
    Calls Tryf.prog 7 #[.string s] w fun en w' => ParRet (-(u : Int)) en ∧ w' = w := by
  have hml : mm = (decDigits u).length := by rw [← hez]; exact size_of hel
  obtain ⟨c0, l0, e0, b1, b2⟩ := dec_head (u := u) (by omega)
  have h0 : ∀ h, (e[0]'h).toNat = c0.toNat := fun h => by rw [byte_at hel (i := 0) (c := c0) (by rw [e0]; rfl) h]
  obtain ⟨c, hc⟩ : ∃ c, c = c0.toNat := ⟨_, rfl⟩
  rw [← hc] at h0 b1 b2
  have Hdl : Hid (e.data.toList = decDigits u) := hel
  have Hml : Hid (mm = (decDigits u).length) := hml
  have dc2 : ((c : Int) == 48) = false := by simp; omega
  have dc4 : (c == 48) = false := by simp; omega
  have dm1 : ((mm : Int) == 0) = false := by simp; omega
  have dm2 : decide ((19 : Int) < (mm : Int)) = false := by simp; omega
  have dm3 : (mm == 0) = false := by simp; omega
  have hmp : 1 ≤ m := by omega
  have hmq : m ≤ 20 := by omega
  have dq : decide ((q : Int) + 1 < 10) = false := by simp; omega
  clear hc e0 hel hml
  go_enter Tryf.func7, Tryf.ntmps7
  go_upto_region 8 with fail
  have hq1 : 9 ≤ q := by omega
  have hq2 : q ≤ 28 := by omega
  clear hL hq hm
  go_upto_region 12 with fail
  go_upto_region 17 with fail
  go_wp2_with fail
  go_loop [6, 7] (fun x y => ∃ i : Nat, i ≤ mm ∧ y = .int .i64 i ∧ x = .int .u64 (dval ((decDigits u).take i) : Int)) (fun _ y => mm - (intOf y).toNat)
  case atStart => exact ⟨0, Nat.zero_le _, rfl, by simp [dval]⟩
  case round =>
    obtain ⟨i, hi, rfl, rfl⟩ := hrel
    by_cases him : i < mm
    · obtain ⟨k, k1, k2, k3, k4⟩ := digit_at Hdl.out (i := i) (by rw [← Hml.out]; exact him)
      have k5 := dval_take_le (decDigits u) (i + 1)
      rw [dval_dec] at k5
      obtain ⟨x, hx1⟩ : ∃ x, x = dval ((decDigits u).take i) := ⟨_, rfl⟩
      rw [← hx1] at k4 ⊢
      rw [k4] at k5
      have K4 : Hid (dval ((decDigits u).take (i + 1)) = x * 10 + (k - 48)) := k4
      have di : decide ((i : Int) < (mm : Int)) = true := by simp; omega
      have dk1 : decide ((k : Int) < 48) = false := by simp; omega
      have dk2 : decide ((57 : Int) < (k : Int)) = false := by simp; omega
      have dk3 : decide (k < 48) = false := by simp; omega
      have dk4 : decide (57 < k) = false := by simp; omega
      clear k4 hx1
      go_wp2
      go_round
      case rel => exact ⟨i + 1, by omega, by go_num, by rw [K4.out]; go_num⟩
      case measure => simp [intOf]; omega
    · obtain rfl : mm = i := by omega
      have hv : dval ((decDigits u).take mm) = u := by
        rw [Hml.out, List.take_length, dval_dec]
      rw [hv]
      have di : decide ((mm : Int) < (mm : Int)) = false := by simp
      have du1 : decide ((9223372036854775808 : Int) < (u : Int)) = false := by simp; omega
      by_cases hb : u = 9223372036854775808
      · subst hb
        have w1 : wrap64 9223372036854775808 = -9223372036854775808 := by kernel_rfl
        go_wp2
        go_ret2
        refine ⟨?_, rfl⟩
        rfl
      · have hb2 : u ≤ 9223372036854775807 := by omega
        go_wp2
        go_ret2
        exact ⟨rfl, rfl⟩
end Go.Proofs.Qxb6604569aFmt
