import Derived.Test.Qxb6603828aMem
namespace Go.Proofs.Qxb6603828a
open Go.RowKit

def SomeBool (e : Ending) : Prop := ∃ b, e = .returned (.bool b)
theorem someBool (b : Bool) : SomeBool (.returned (.bool b)) := ⟨b, rfl⟩

set_option maxHeartbeats 400000 in
theorem zz8 {w : World} {ao : Option Addr} {n nc gb go : Nat} {A : Nat → Option Addr} {L C RB RO : Nat → Nat} {E : Nat → Nat → El} (h : Arg w ao n gb go A L C RB RO E) (vo : Option Addr) (m mc : Nat) (hm : m ≤ 9223372036854775807) (x y : Value) :
    Calls Try.prog 8 #[.slice ao n nc, .slice vo m mc, x, y] w fun e w' => SomeBool e ∧ w' = w := by
  have hn := h.nc
  go_enter Try.func8, Try.ntmps8
  go_wp2
  all_goals first | (go_ret; exact ⟨someBool _, rfl⟩) | skip
  go_loop [9, 10] (fun s i => ∃ (k : Nat) (t : Int), k ≤ n ∧ i = .int .i64 k ∧ s = .int .i64 t ∧ 0 ≤ t ∧ t ≤ 1048576) (fun _ i => n - (intOf i).toNat)
  case atStart => exact ⟨0, n, Nat.zero_le _, rfl, rfl, by omega, by omega⟩
  case round =>
    obtain ⟨k, t, hk, rfl, rfl, ht0, ht1⟩ := hrel
    by_cases hkn : k < n
    · obtain rfl := h.ga (by omega)
      have hrow := h.row k hkn
      have hl := h.lc k hkn
      go_wp2
      all_goals first
        | (go_ret; exact ⟨someBool _, rfl⟩)
        | (go_round
           case rel => exact ⟨k + 1, _, by omega, by go_num, rfl, by omega, by omega⟩
           case measure => simp [intOf]; omega)
    · go_wp2
      all_goals (go_ret; exact ⟨someBool _, rfl⟩)

set_option maxHeartbeats 400000 in
theorem zz14 {w : World} {ao : Option Addr} {n nc gb go : Nat} {A : Nat → Option Addr} {L C RB RO : Nat → Nat} {E : Nat → Nat → El} (h : Arg w ao n gb go A L C RB RO E) (vo : Option Addr) (m mc : Nat) (hm : m ≤ 9223372036854775807) (x y : Value) :
    Calls Try.prog 14 #[.slice ao n nc, .slice vo m mc, x, y] w fun e w' => SomeBool e ∧ w' = w := by
  have hn := h.nc
  go_enter Try.func14, Try.ntmps14
  go_wp2
  all_goals first | (go_ret; exact ⟨someBool _, rfl⟩) | skip
  go_loop [9, 10] (fun s i => ∃ (k : Nat) (t : Int), k ≤ n ∧ i = .int .i64 k ∧ s = .int .i64 t ∧ 0 ≤ t ∧ t ≤ 1048576) (fun _ i => n - (intOf i).toNat)
  case atStart => exact ⟨0, n, Nat.zero_le _, rfl, rfl, by omega, by omega⟩
  case round =>
    obtain ⟨k, t, hk, rfl, rfl, ht0, ht1⟩ := hrel
    by_cases hkn : k < n
    · obtain rfl := h.ga (by omega)
      have hrow := h.row k hkn
      have hl := h.lc k hkn
      go_wp2
      all_goals first
        | (go_ret; exact ⟨someBool _, rfl⟩)
        | (go_round
           case rel => exact ⟨k + 1, _, by omega, by go_num, rfl, by omega, by omega⟩
           case measure => simp [intOf]; omega)
    · go_wp2
      all_goals (go_ret; exact ⟨someBool _, rfl⟩)
set_option maxHeartbeats 400000 in
theorem zz19 {w : World} {ao : Option Addr} {n nc gb go : Nat} {A : Nat → Option Addr} {L C RB RO : Nat → Nat} {E : Nat → Nat → El} (h : Arg w ao n gb go A L C RB RO E) (vo : Option Addr) (m mc : Nat) (hm : m ≤ 9223372036854775807) (x y x1 y1 : Value) :
    Calls Try.prog 19 #[.slice ao n nc, .slice vo m mc, x, y, x1, y1] w fun e w' => SomeBool e ∧ w' = w := by
  have hn := h.nc
  go_enter Try.func19, Try.ntmps19
  go_wp2
  all_goals first | (go_ret; exact ⟨someBool _, rfl⟩) | skip
  go_loop [13, 14] (fun s i => ∃ (k : Nat) (t : Int), k ≤ n ∧ i = .int .i64 k ∧ s = .int .i64 t ∧ 0 ≤ t ∧ t ≤ 1048576) (fun _ i => n - (intOf i).toNat)
  case atStart => exact ⟨0, n, Nat.zero_le _, rfl, rfl, by omega, by omega⟩
  case round =>
    obtain ⟨k, t, hk, rfl, rfl, ht0, ht1⟩ := hrel
    by_cases hkn : k < n
    · obtain rfl := h.ga (by omega)
      have hrow := h.row k hkn
      have hl := h.lc k hkn
      go_wp2
      all_goals first
        | (go_ret; exact ⟨someBool _, rfl⟩)
        | (go_round
           case rel => exact ⟨k + 1, _, by omega, by go_num, rfl, by omega, by omega⟩
           case measure => simp [intOf]; omega)
    · go_wp2
      all_goals (go_ret; exact ⟨someBool _, rfl⟩)

set_option maxHeartbeats 400000 in
theorem zz26 {w : World} {ao : Option Addr} {n nc gb go : Nat} {A : Nat → Option Addr} {L C RB RO : Nat → Nat} {E : Nat → Nat → El} (h : Arg w ao n gb go A L C RB RO E) (vo : Option Addr) (m mc : Nat) (hm : m ≤ 9223372036854775807) (x y x1 y1 : Value) :
    Calls Try.prog 26 #[.slice ao n nc, .slice vo m mc, x, y, x1, y1] w fun e w' => SomeBool e ∧ w' = w := by
  have hn := h.nc
  go_enter Try.func26, Try.ntmps26
  go_wp2
  all_goals first | (go_ret; exact ⟨someBool _, rfl⟩) | skip
  go_loop [13, 14] (fun s i => ∃ (k : Nat) (t : Int), k ≤ n ∧ i = .int .i64 k ∧ s = .int .i64 t ∧ 0 ≤ t ∧ t ≤ 1048576) (fun _ i => n - (intOf i).toNat)
  case atStart => exact ⟨0, n, Nat.zero_le _, rfl, rfl, by omega, by omega⟩
  case round =>
    obtain ⟨k, t, hk, rfl, rfl, ht0, ht1⟩ := hrel
    by_cases hkn : k < n
    · obtain rfl := h.ga (by omega)
      have hrow := h.row k hkn
      have hl := h.lc k hkn
      go_wp2
      all_goals first
        | (go_ret; exact ⟨someBool _, rfl⟩)
        | (go_round
           case rel => exact ⟨k + 1, _, by omega, by go_num, rfl, by omega, by omega⟩
           case measure => simp [intOf]; omega)
    · go_wp2
      all_goals (go_ret; exact ⟨someBool _, rfl⟩)

end Go.Proofs.Qxb6603828a
