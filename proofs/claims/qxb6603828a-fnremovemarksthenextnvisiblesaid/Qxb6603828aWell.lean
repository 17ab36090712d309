import Derived.Test.Qxb6603828aSize
namespace Go.Proofs.Qxb6603828a
open Go.RowKit

/-- The argument blockVis in w. -/
structure VArg (w : World) (vo : Option Addr) (m vb vf : Nat) (V : Nat → Int) : Prop where
  va : 0 < m → vo = some ⟨vb, vf, none⟩
  cell : ∀ k, k < m → w.cell? ⟨vb, vf + k, none⟩ = some (.int .i64 (V k))

def RR (E : Nat → Nat → El) : Nat → Nat → Bool := fun k j => (E k j).r

def Wf (n m : Nat) (L : Nat → Nat) (E : Nat → Nat → El) (V : Nat → Int) (vis : Int) : Prop :=
  m = n ∧ (∀ k, k < n → V k = cntR (RR E k) (L k)) ∧ vis = before (RR E) L n
def WfRet (n m : Nat) (L : Nat → Nat) (E : Nat → Nat → El) (V : Nat → Int) (vis : Int) (e : Ending) : Prop := ∃ b, e = .returned (.bool b) ∧ (b = true → Wf n m L E V vis)
theorem wfNo (n m : Nat) (L : Nat → Nat) (E : Nat → Nat → El) (V : Nat → Int) (vis : Int) : WfRet n m L E V vis (.returned (.bool false)) := ⟨false, rfl, fun h => by cases h⟩

theorem Sz.row {n m : Nat} {L : Nat → Nat} (h : Sz n m L) {k : Nat} (hk : k < n) : L k ≤ 43690 := by
  have := sumN_ge L hk
  obtain ⟨_, _, h3⟩ := h
  omega
theorem Sz.sum {n m : Nat} {L : Nat → Nat} (h : Sz n m L) {k : Nat} (hk : k ≤ n) : sumN L k ≤ 43690 := by
  have := sumN_mono L hk
  obtain ⟨_, _, h3⟩ := h
  omega
theorem Sz.n {n m : Nat} {L : Nat → Nat} (h : Sz n m L) : n ≤ 65536 := h.1
theorem Sz.m {n m : Nat} {L : Nat → Nat} (h : Sz n m L) : m ≤ 65536 := h.2.1

set_option maxHeartbeats 1000000 in
theorem well10 {w : World} {ao : Option Addr} {n nc gb go : Nat} {A : Nat → Option Addr} {L C RB RO : Nat → Nat} {E : Nat → Nat → El} (h : Arg w ao n gb go A L C RB RO E)
    {vo : Option Addr} {m mc vb vf : Nat} {V : Nat → Int} (hv : VArg w vo m vb vf V) (vis : Int) (hs : Sz n m L) :
    Calls Try.prog 10 #[.slice ao n nc, .slice vo m mc, .int .i64 vis] w fun e w' => WfRet n m L E V vis e ∧ w' = w := by
  have hn := hs.n
  have hm := hs.m
  by_cases b1 : m = n
  rotate_left
  · have d1 : ((m : Int) != (n : Int)) = true := by rw [bne_iff_ne]; omega
    go_enter Try.func10, Try.ntmps10
    go_wp2
    go_ret
    exact ⟨wfNo _ _ _ _ _ _, rfl⟩
  subst b1
  go_enter Try.func10, Try.ntmps10
  go_wp2
  go_loop [7, 8] (fun s i => ∃ (k t : Nat), k ≤ m ∧ i = .int .i64 k ∧ s = .int .i64 t ∧ t ≤ 43690 ∧ Hid (t = before (RR E) L k ∧ ∀ j, j < k → V j = cntR (RR E j) (L j))) (fun _ i => m - (intOf i).toNat)
  case atStart => exact ⟨0, 0, Nat.zero_le _, rfl, rfl, by omega, rfl, fun j hj => absurd hj (Nat.not_lt_zero _)⟩
  case round =>
    obtain ⟨k, t, hk, rfl, rfl, ht1, ht⟩ := hrel
    by_cases hkn : k < m
    · obtain rfl := h.ga (by omega)
      obtain rfl := hv.va (by omega)
      have hrow := h.row k hkn
      have hl := hs.row hkn
      have hvk := hv.cell k hkn
      go_wp2
      go_loop [9, 10] (fun s i => ∃ (j c : Nat), j ≤ L k ∧ i = .int .i64 j ∧ s = .int .i64 c ∧ c ≤ j ∧ Hid (c = cntR (RR E k) j)) (fun _ i => L k - (intOf i).toNat)
      case atStart => exact ⟨0, 0, Nat.zero_le _, rfl, rfl, by omega, rfl⟩
      case round =>
        obtain ⟨j, c, hj, rfl, rfl, hcj, hc⟩ := hrel
        by_cases hjl : j < L k
        · have hrow' := hrow
          rw [h.lead k hkn j hjl] at hrow'
          have hc3 := h.c3 k hkn j hjl
          clear hrow
          cases hr : (E k j).r
          · go_wp2
            go_round
            case rel => exact ⟨j + 1, c + 1, by omega, by go_num, by go_num, by omega, by have := hc.out; show _ = _; rw [cntR_hit (show RR E k j = false from hr)]; omega⟩
            case measure => simp [intOf]; omega
          · go_wp2
            go_round
            case rel => exact ⟨j + 1, c, by omega, by go_num, by go_num, by omega, by have := hc.out; show _ = _; rw [cntR_miss (show RR E k j = true from hr)]; omega⟩
            case measure => simp [intOf]; omega
        · have hcl : c = cntR (RR E k) (L k) := by have := hc.out; obtain rfl : j = L k := by omega
                                                   exact this
          have Hc : Hid (c = cntR (RR E k) (L k)) := hcl
          clear hcl hc
          by_cases bv : V k = c
          · have d3 : (V k != (c : Int)) = false := by rw [bne_eq_false_iff_eq]; exact bv
            have Hv : Hid (V k = c) := bv
            clear bv
            have hsum := before_le (RR E) L (k + 1)
            have hsum2 := hs.sum (show k + 1 ≤ m by omega)
            rw [before_succ, ← Hc.out, ← ht.out.1] at hsum
            have hb : t + c ≤ 43690 := by omega
            clear hsum hsum2
            go_wp2
            go_round
            case rel =>
              refine ⟨k + 1, t + c, by omega, by go_num, by go_num, by omega, ?_, fun i hi => ?_⟩
              · rw [before_succ, ← Hc.out, ← ht.out.1]
              · by_cases e : i = k
                · subst e; rw [Hv.out, ← Hc.out]
                · exact ht.out.2 i (by omega)
            case measure => simp [intOf]; omega
          · have d3 : (V k != (c : Int)) = true := by rw [bne_iff_ne]; exact bv
            go_wp2
            go_ret
            exact ⟨wfNo _ _ _ _ _ _, rfl⟩
    · obtain rfl : k = m := by omega
      by_cases bv : vis = t
      · have d3 : (vis == (t : Int)) = true := by rw [beq_iff_eq]; exact bv
        have Hv : Hid (vis = t) := bv
        clear bv
        go_wp2
        go_ret
        exact ⟨⟨true, rfl, fun _ => ⟨rfl, ht.out.2, by rw [Hv.out, ht.out.1]⟩⟩, rfl⟩
      · have d3 : (vis == (t : Int)) = false := by rw [beq_eq_false_iff_ne]; exact bv
        go_wp2
        go_ret
        exact ⟨wfNo _ _ _ _ _ _, rfl⟩
end Go.Proofs.Qxb6603828a
