import Derived.Test.Qxb6603828aMem
namespace Go.Proofs.Qxb6603828a
open Go.RowKit

def Sz (n m : Nat) (L : Nat → Nat) : Prop := n ≤ 65536 ∧ m ≤ 65536 ∧ n * 24 + m * 8 + 24 * sumN L n ≤ 1048576
def SizeRet (n m : Nat) (L : Nat → Nat) (e : Ending) : Prop := ∃ b, e = .returned (.bool b) ∧ (b = true → Sz n m L)
theorem sizeNo (n m : Nat) (L : Nat → Nat) : SizeRet n m L (.returned (.bool false)) := ⟨false, rfl, fun h => by cases h⟩

set_option maxHeartbeats 400000 in
theorem size9 {w : World} {ao : Option Addr} {n nc gb go : Nat} {A : Nat → Option Addr} {L C RB RO : Nat → Nat} {E : Nat → Nat → El} (h : Arg w ao n gb go A L C RB RO E) (vo : Option Addr) (m mc : Nat) (hm : m ≤ 9223372036854775807) :
    Calls Try.prog 9 #[.slice ao n nc, .slice vo m mc] w fun e w' => SizeRet n m L e ∧ w' = w := by
  have hn := h.nc
  by_cases b1 : 65536 < n
  · have d1 : decide ((65536 : Int) < (n : Int)) = true := by simp; omega
    go_enter Try.func9, Try.ntmps9
    go_wp2
    go_ret
    exact ⟨sizeNo _ _ _, rfl⟩
  have d1 : decide ((65536 : Int) < (n : Int)) = false := by simp; omega
  by_cases b2 : 65536 < m
  · have d2 : decide ((65536 : Int) < (m : Int)) = true := by simp; omega
    go_enter Try.func9, Try.ntmps9
    go_wp2
    go_ret
    exact ⟨sizeNo _ _ _, rfl⟩
  have d2 : decide ((65536 : Int) < (m : Int)) = false := by simp; omega
  go_enter Try.func9, Try.ntmps9
  go_wp2
  go_loop [5, 6] (fun s i => ∃ (k : Nat) (t : Int), k ≤ n ∧ i = .int .i64 k ∧ s = .int .i64 t ∧ 0 ≤ t ∧ t ≤ 2097152 ∧ Hid (t = (n : Int) * 24 + m * 8 + 24 * sumN L k)) (fun _ i => n - (intOf i).toNat)
  case atStart => exact ⟨0, _, Nat.zero_le _, rfl, rfl, by omega, by omega, by show _ = _; simp [sumN]⟩
  case round =>
    obtain ⟨k, t, hk, rfl, rfl, ht0, ht1, ht⟩ := hrel
    by_cases hkn : k < n
    · obtain rfl := h.ga (by omega)
      have hrow := h.row k hkn
      have hl := h.lc k hkn
      go_wp2
      all_goals first
        | (go_ret; exact ⟨sizeNo _ _ _, rfl⟩)
        | (go_round
           case rel => exact ⟨k + 1, _, by omega, by go_num, rfl, by omega, by omega, by have := ht.out; show _ = _; simp only [sumN]; omega⟩
           case measure => simp [intOf]; omega)
    · by_cases b3 : t ≤ 1048576
      · have d3 : decide (t ≤ (1048576 : Int)) = true := by simp; omega
        go_wp2
        go_ret
        exact ⟨⟨true, rfl, fun _ => ⟨by omega, by omega, by have := ht.out; obtain rfl : k = n := by omega
                                                            omega⟩⟩, rfl⟩
      · have d3 : decide (t ≤ (1048576 : Int)) = false := by simp; omega
        go_wp2
        go_ret
        exact ⟨sizeNo _ _ _, rfl⟩
end Go.Proofs.Qxb6603828a
