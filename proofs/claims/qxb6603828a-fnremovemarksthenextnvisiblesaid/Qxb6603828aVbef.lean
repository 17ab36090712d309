import Derived.Test.Qxb6603828aWell
namespace Go.Proofs.Qxb6603828a
open Go.RowKit

/-- How many not removed stand before place (b, i). -/
def rank (R : Nat → Nat → Bool) (L : Nat → Nat) (b i : Nat) : Nat := before R L b + cntR (R b) i

theorem Sz.at {n m : Nat} {L : Nat → Nat} (h : Sz n m L) (R : Nat → Nat → Bool) {k j : Nat} (hk : k < n) (hj : j ≤ L k) : before R L k + cntR (R k) j ≤ 43690 := by
  have h1 := before_le R L (k + 1)
  have h2 := h.sum (show k + 1 ≤ n by omega)
  have h3 := cntR_mono (R k) hj
  rw [before_succ] at h1
  omega

set_option maxHeartbeats 1000000 in
theorem vbef13 {w : World} {ao : Option Addr} {n nc gb go m : Nat} {A : Nat → Option Addr} {L C RB RO : Nat → Nat} {E : Nat → Nat → El} (h : Arg w ao n gb go A L C RB RO E)
    (hs : Sz n m L) (b i : Int) (hb0 : 0 ≤ b) (hb : b < n) (hi0 : 0 ≤ i) (hi : i ≤ L b.toNat) :
    Calls Try.prog 13 #[.slice ao n nc, .int .i64 b, .int .i64 i] w fun e w' => e = .returned (.int .i64 ((rank (RR E) L b.toNat i.toNat : Nat) : Int)) ∧ w' = w := by
  obtain ⟨b, rfl⟩ := Int.eq_ofNat_of_zero_le hb0
  obtain ⟨i, rfl⟩ := Int.eq_ofNat_of_zero_le hi0
  simp only [Int.toNat_natCast] at *
  have hn := hs.n
  have hlb := hs.row (show b < n by omega)
  go_enter Try.func13, Try.ntmps13
  go_wp2
  go_loop [7, 8] (fun s x => ∃ (k c : Nat), k ≤ b ∧ x = .int .i64 k ∧ s = .int .i64 c ∧ c ≤ 43690 ∧ Hid (c = before (RR E) L k)) (fun _ x => b - (intOf x).toNat)
  case atStart => exact ⟨0, 0, Nat.zero_le _, rfl, rfl, by omega, rfl⟩
  case round =>
    obtain ⟨k, c, hk, rfl, rfl, hc1, hc⟩ := hrel
    obtain rfl := h.ga (by omega)
    by_cases hkb : k < b
    · have hkn : k < n := by omega
      have hrow := h.row k hkn
      have hl := hs.row hkn
      go_wp2
      go_loop [7, 9] (fun s x => ∃ (j d : Nat), j ≤ L k ∧ x = .int .i64 j ∧ s = .int .i64 d ∧ d ≤ 43690 ∧ Hid (d = before (RR E) L k + cntR (RR E k) j)) (fun _ x => L k - (intOf x).toNat)
      case atStart => exact ⟨0, c, Nat.zero_le _, rfl, rfl, by omega, hc⟩
      case round =>
        obtain ⟨j, d, hj, rfl, rfl, hd1, hd⟩ := hrel
        by_cases hjl : j < L k
        · have hrow' := hrow
          rw [h.lead k hkn j hjl] at hrow'
          have hc3 := h.c3 k hkn j hjl
          have hbd := hs.at (RR E) hkn (show j + 1 ≤ L k by omega)
          clear hrow
          cases hr : (E k j).r
          · rw [cntR_hit (show RR E k j = false from hr), ← Nat.add_assoc, ← hd.out] at hbd
            go_wp2
            go_round
            case rel => exact ⟨j + 1, d + 1, by omega, by go_num, by go_num, by omega, by have := hd.out; show _ = _; rw [cntR_hit (show RR E k j = false from hr)]; omega⟩
            case measure => simp [intOf]; omega
          · clear hbd
            go_wp2
            go_round
            case rel => exact ⟨j + 1, d, by omega, by go_num, by go_num, by omega, by have := hd.out; show _ = _; rw [cntR_miss (show RR E k j = true from hr)]; omega⟩
            case measure => simp [intOf]; omega
        · go_wp2
          go_round
          case rel => exact ⟨k + 1, d, by omega, by go_num, by go_num, by omega, by have := hd.out; show _ = _; rw [before_succ, this]; congr 2; omega⟩
          case measure => simp [intOf]; omega
    · obtain rfl : k = b := by omega
      have hkn : k < n := by omega
      have hrow := h.row k hkn
      go_wp2
      go_loop [7, 10] (fun s x => ∃ (j d : Nat), j ≤ i ∧ x = .int .i64 j ∧ s = .int .i64 d ∧ d ≤ 43690 ∧ Hid (d = before (RR E) L k + cntR (RR E k) j)) (fun _ x => i - (intOf x).toNat)
      case atStart => exact ⟨0, c, Nat.zero_le _, rfl, rfl, by omega, hc⟩
      case round =>
        obtain ⟨j, d, hj, rfl, rfl, hd1, hd⟩ := hrel
        by_cases hjl : j < i
        · have hrow' := hrow
          rw [h.lead k hkn j (by omega)] at hrow'
          have hc3 := h.c3 k hkn j (by omega)
          have hbd := hs.at (RR E) hkn (show j + 1 ≤ L k by omega)
          clear hrow
          cases hr : (E k j).r
          · rw [cntR_hit (show RR E k j = false from hr), ← Nat.add_assoc, ← hd.out] at hbd
            go_wp2
            go_round
            case rel => exact ⟨j + 1, d + 1, by omega, by go_num, by go_num, by omega, by have := hd.out; show _ = _; rw [cntR_hit (show RR E k j = false from hr)]; omega⟩
            case measure => simp [intOf]; omega
          · clear hbd
            go_wp2
            go_round
            case rel => exact ⟨j + 1, d, by omega, by go_num, by go_num, by omega, by have := hd.out; show _ = _; rw [cntR_miss (show RR E k j = true from hr)]; omega⟩
            case measure => simp [intOf]; omega
        · obtain rfl : j = i := by omega
          go_wp2
          go_ret
          exact ⟨by rw [show rank (RR E) L k j = d from hd.out.symm]; rfl, rfl⟩
end Go.Proofs.Qxb6603828a
