import Derived.Test.Qxb6604549aPrem
namespace Go.Proofs.Qxb6604549a
open Go.RowKit
set_option linter.unusedVariables false
set_option linter.unusedSimpArgs false

theorem Try.info34 : (Try.prog.info? 34).map (fun i => (i.zero, i.size, i.bytes)) = some (some (.int .u64 0), 1, 8) := by kernel_rfl

theorem Prem.le {n : Nat} {L : Nat → Nat} {E : Nat → Nat → Sp} {cnt : Nat} (h : Prem n L E cnt) {i j : Nat} (hi : i < n) (hj : j ≤ L i) : st E i j ≤ cnt :=
  Nat.le_trans (sumN_mono _ hj) (h i hi).2

/-- The extent of answer i. -/
def tot (E : Nat → Nat → Sp) (L : Nat → Nat) (i : Nat) : Nat := st E i (L i)

def TotsRet (w : World) (n : Nat) (f : Nat → Nat) (e : Ending) (w' : World) : Prop :=
  e = .returned (.slice (some ⟨w.heap.size, 0, none⟩) n n) ∧ Below w.heap.size w w' ∧ w'.rowIs w.heap.size 34 n (fun i => .int .u64 (f i : Int))

set_option maxHeartbeats 1000000 in
theorem tots18 {w : World} {ao : Option Addr} {n nc gb go : Nat} {A : Nat → Option Addr} {L C RB RO : Nat → Nat} {E : Nat → Nat → Sp} (h : Arg w ao n gb go A L C RB RO E) (hn : n ≤ 256) (hL : ∀ k, k < n → L k ≤ 1048576) (cnt : Nat) (hcnt : cnt ≤ 18446744073709551615) (hp : Prem n L E cnt) :
    Calls Try.prog 18 #[.slice ao n nc] w fun e w' => TotsRet w n (tot E L) e w' := by
  have hmk := run_make_row' (P := Try.prog) 58 34 (.int .u64 0) 8 Try.underlying58 Try.info34 rfl .i64 .i64 n (by omega) (by omega)
  have Hp : Hid (Prem n L E cnt) := hp
  clear hp
  go_enter Try.func18, Try.ntmps18
  go_wp2
  clear hmk
  go_loopw [4] (fun x wr => ∃ k : Nat, k ≤ n ∧ x = .int .i64 k ∧ Below w.heap.size w wr ∧ wr.rowIs w.heap.size 34 n (fun i => .int .u64 (if i < k then (tot E L i : Int) else 0))) (fun x _ => n - (intOf x).toNat)
  case atStart => exact ⟨0, Nat.zero_le _, rfl, (Below.refl _ _).alloc (Nat.le_refl _) _, (World.rowIs_made w _ n 34).congr (fun i _ => by simp)⟩
  case round =>
    obtain ⟨k, hk, rfl, hb, hrw⟩ := hrel
    by_cases hkn : k < n
    · obtain rfl := h.ga (by omega)
      have h' := h.kept hb
      have hrow := h'.row k hkn
      have hl := hL k hkn
      have Hrw : Hid (wr.rowIs w.heap.size 34 n (fun i => .int .u64 (if i < k then (tot E L i : Int) else 0))) := hrw
      have Hb : Hid (Below w.heap.size w wr) := hb
      have hcell := hrw.cell hkn
      simp only [Nat.lt_irrefl, if_false] at hcell
      have hfz := hrw.frozen k
      clear hrw hb
      go_wp2
      go_loop [5, 6] (fun s y => ∃ (j t : Nat), j ≤ L k ∧ y = .int .i64 j ∧ s = .int .u64 t ∧ t ≤ 18446744073709551615 ∧ Hid (t = st E k j)) (fun _ y => L k - (intOf y).toNat)
      case atStart => exact ⟨0, 0, Nat.zero_le _, rfl, rfl, by omega, rfl⟩
      case round =>
        obtain ⟨j, t, hj, rfl, rfl, ht1, ht⟩ := hrel
        by_cases hjl : j < L k
        · have hrow' := hrow
          rw [h'.lead k hkn j hjl] at hrow'
          have hc0 := h'.c0 k hkn j hjl
          obtain ⟨c, hc⟩ : ∃ c, c = (E k j).c := ⟨_, rfl⟩
          rw [← hc] at hc0
          have hsum : t + c ≤ 18446744073709551615 := by
            have q := Hp.out.le hkn (show j + 1 ≤ L k by omega)
            rw [st_succ, ← hc, ← ht.out] at q
            omega
          have Hc : Hid (c = (E k j).c) := hc
          clear hrow hc
          go_wp2
          go_round
          case rel => exact ⟨j + 1, t + c, by omega, by go_num, by go_num, by omega, by show _ = _; rw [st_succ, ← Hc.out, ← ht.out]⟩
          case measure => simp [intOf]; omega
        · obtain rfl : L k = j := by omega
          go_wp2
          go_roundw
          case rel =>
            refine ⟨k + 1, by omega, by go_num, Hb.out.setCell (Nat.le_refl _) _, (Hrw.out.set k _).congr (fun i hi => ?_)⟩
            by_cases e : i = k
            · subst e
              rw [if_pos rfl, if_pos (by omega), ht.out]
              rfl
            · rw [if_neg e]
              by_cases hlt : i < k
              · rw [if_pos hlt, if_pos (by omega)]
              · rw [if_neg hlt, if_neg (by omega)]
          case measure => simp [intOf]; omega
    · obtain rfl : n = k := by omega
      have Hrw : Hid (wr.rowIs w.heap.size 34 n (fun i => .int .u64 (if i < n then (tot E L i : Int) else 0))) := hrw
      have Hb : Hid (Below w.heap.size w wr) := hb
      clear hrw hb
      go_wp2
      go_ret
      exact ⟨rfl, Hb.out, Hrw.out.congr (fun i hi => by rw [if_pos hi])⟩
end Go.Proofs.Qxb6604549a
