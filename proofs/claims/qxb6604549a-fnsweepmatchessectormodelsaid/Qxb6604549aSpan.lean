import Derived.Test.Qxb6604549aSpec
import Derived.Test.Qxb6604549aZz
namespace Go.Proofs.Qxb6604549a
open Go.RowKit
set_option linter.unusedVariables false
set_option linter.unusedSimpArgs false

def spAgg (s : Sp) : Value := .agg #[.int .u64 (s.c : Int), .int .u64 s.t, .int .u32 s.k, .bool s.h]
def SpRet (w : World) (s : Sp) (e : Ending) (w' : World) : Prop := e = .returned (spAgg s) ∧ Below w.heap.size w w'

set_option maxHeartbeats 1000000 in
theorem span29 {w : World} {ao : Option Addr} {n gb go : Nat} {A : Nat → Option Addr} {L C RB RO : Nat → Nat} {E : Nat → Nat → Sp} (h : Arg w ao n gb go A L C RB RO E) (i : Nat) (hi : i < n) (hL : L i ≤ 1048576) (hp : ∀ j, j < L i → 0 < (E i j).c) {cn : Nat} (hcn : cn ≤ 18446744073709551615) (hst : st E i (L i) ≤ cn) (p : Nat) (hx : p < ext E L i) :
    Calls Try.prog 29 #[.slice (A i) (L i) (C i), .int .u64 (p : Int)] w fun e w' => SpRet w (E i (idx E L i p)) e w' := by
  have hjL := idx_lt hp hx
  have hpe : p < st E i (L i) := hx
  have hA := h.lead i hi 0 (by omega)
  rw [hA]
  go_enter Try.func29, Try.ntmps29
  go_wp2
  go_loop [5, 6] (fun s x => ∃ j : Nat, j ≤ idx E L i p ∧ x = .int .i64 j ∧ s = .int .u64 (st E i j : Int)) (fun _ x => L i - (intOf x).toNat)
  case atStart => exact ⟨0, Nat.zero_le _, rfl, rfl⟩
  case round =>
    obtain ⟨j, hj, rfl, rfl⟩ := hrel
    have hjl : j < L i := by omega
    have c0 := cell_old (h.c0 i hi j hjl) (.cells #[.int .u64 0, .int .u64 0, .int .u32 0, .bool false] 74)
    have c1 := cell_old (h.c1 i hi j hjl) (.cells #[.int .u64 0, .int .u64 0, .int .u32 0, .bool false] 74)
    have c2 := cell_old (h.c2 i hi j hjl) (.cells #[.int .u64 0, .int .u64 0, .int .u32 0, .bool false] 74)
    have c3 := cell_old (h.c3 i hi j hjl) (.cells #[.int .u64 0, .int .u64 0, .int .u32 0, .bool false] 74)
    have hs := idx_start hp p
    have hm := st_mono E i hj
    have he := idx_end hp hjL
    have hsu := st_succ E i j
    have hle := st_mono E i (show j + 1 ≤ L i by omega)
    obtain ⟨x, hx1⟩ : ∃ x, x = st E i j := ⟨_, rfl⟩
    obtain ⟨c, hc1⟩ : ∃ c, c = (E i j).c := ⟨_, rfl⟩
    rw [← hx1] at hm hsu
    rw [← hc1] at hsu c0
    rw [← hx1]
    have Hx1 : Hid (x = st E i j) := hx1
    have Hc1 : Hid (c = (E i j).c) := hc1
    have hxp : x ≤ p := by omega
    have hxc : x + c ≤ cn := by omega
    have dk : decide ((j : Int) < (L i : Int)) = true := by simp; omega
    by_cases e : j = idx E L i p
    · have d1 : decide (((p : Int) - (x : Int)) < (c : Int)) = true := by
        rw [← e, hsu] at he
        simp; omega
      have He : Hid (j = idx E L i p) := e
      clear hx1 hc1 e he hs hm hsu hle hA
      go_wp2
      exact bodyPost_ret (v := .agg #[.int .u64 (c : Int), .int .u64 (E i j).t, .int .u32 (E i j).k, .bool (E i j).h]) (by simp [results, Try.results29, go_sem]) rfl ⟨by rw [← He.out, spAgg, ← Hc1.out], (Below.refl _ _).alloc (Nat.le_refl _) _⟩
    · have d1 : decide (((p : Int) - (x : Int)) < (c : Int)) = false := by
        have := st_mono E i (show j + 1 ≤ idx E L i p by omega)
        simp; omega
      have Hsu : Hid (st E i (j + 1) = x + c) := hsu
      have He : Hid (j + 1 ≤ idx E L i p) := by show _ ≤ _; omega
      clear hx1 hc1 e he hs hm hsu hle hA
      go_wp2
      go_round
      case rel => exact ⟨j + 1, He.out, by go_num, by rw [Hsu.out]; go_num⟩
      case measure => simp [intOf]; omega
end Go.Proofs.Qxb6604549a
