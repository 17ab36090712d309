import Derived.Test.Qxb6603828aVbef
namespace Go.Proofs.Qxb6603828a
open Go.RowKit

/-- A SEQUENCE IN MEMORY, as the call itself has made it. -/
structure SeqM (w : World) (sb bb n bc : Nat) (P G K L : Nat → Nat) (E : Nat → Nat → El) (V : Nat → Int) (vis : Int) : Prop where
  s0 : w.cell? ⟨sb, 0, none⟩ = some (.slice (some ⟨bb, 0, none⟩) n bc)
  s2 : w.cell? ⟨sb, 2, none⟩ = some (.int .i64 vis)
  bl : ∀ k, k < n → w.cell? ⟨bb, k, none⟩ = some (.pointer (some ⟨P k, 0, none⟩))
  p0 : ∀ k, k < n → w.cell? ⟨P k, 0, none⟩ = some (.slice (some ⟨G k, 0, none⟩) (L k) (K k))
  p1 : ∀ k, k < n → w.cell? ⟨P k, 1, none⟩ = some (.int .i64 (V k))
  e0 : ∀ k, k < n → ∀ j, j < L k → w.cell? ⟨G k, j * 4, none⟩ = some (.int .u64 (E k j).v)
  e1 : ∀ k, k < n → ∀ j, j < L k → w.cell? ⟨G k, j * 4 + 1, none⟩ = some (.int .u64 (E k j).o)
  e2 : ∀ k, k < n → ∀ j, j < L k → w.cell? ⟨G k, j * 4 + 2, none⟩ = some (.int .u8 (E k j).k)
  e3 : ∀ k, k < n → ∀ j, j < L k → w.cell? ⟨G k, j * 4 + 3, none⟩ = some (.bool (E k j).r)

theorem cell_old {w : World} {a : Addr} {v : Value} (h : w.cell? a = some v) (o : Obj) : (w.alloc o).cell? a = some v := by
  rw [World.cell?_alloc_lt _ _ _ (World.block_lt_of_cell? _ _ h)]; exact h

def VisRet (n : Nat) (L : Nat → Nat) (R : Nat → Nat → Bool) (p : Nat) (e : Ending) : Prop := ∃ b i : Nat, e = .returned (.agg #[.int .i64 b, .int .i64 i]) ∧ IsAt R L n p b i

set_option maxHeartbeats 1000000 in
theorem vis30 {w : World} {sb bb n bc m : Nat} {P G K L : Nat → Nat} {E : Nat → Nat → El} {V : Nat → Int} {vis : Int} (h : SeqM w sb bb n bc P G K L E V vis) (hs : Sz n m L)
    (hV : ∀ k, k < n → V k = cntR (RR E k) (L k)) (pos : Int) (hp0 : 0 ≤ pos) (hp : pos < before (RR E) L n) :
    Calls Try.prog 30 #[.pointer (some ⟨sb, 0, none⟩), .int .i64 pos] w fun e w' => VisRet n L (RR E) pos.toNat e ∧ Below w.heap.size w w' := by
  obtain ⟨p, rfl⟩ := Int.eq_ofNat_of_zero_le hp0
  simp only [Int.toNat_natCast] at *
  have hn := hs.n
  have hmax := before_le (RR E) L n
  have hmax2 := hs.sum (Nat.le_refl n)
  have hp43 : p ≤ 43690 := by omega
  clear hmax hmax2
  have Hp : Hid ((p : Int) < before (RR E) L n) := hp
  have HV : Hid (∀ k, k < n → V k = cntR (RR E k) (L k)) := hV
  clear hp hV
  have hsb : sb < w.heap.size := World.block_lt_of_cell? _ _ h.s0
  have hs0 := cell_old h.s0
  go_enter Try.func30, Try.ntmps30
  go_wp2
  go_loop [1, 5] (fun s x => ∃ (k q : Nat), k < n ∧ x = .int .i64 k ∧ s = .int .i64 q ∧ q ≤ 43690 ∧ Hid (q + before (RR E) L k = p)) (fun _ x => n - (intOf x).toNat)
  case atStart =>
    have hn0 : 0 < n := by
      rcases Nat.eq_zero_or_pos n with e | e
      · have := Hp.out; rw [e] at this; simp [before, sumN] at this; omega
      · exact e
    exact ⟨0, p, hn0, rfl, rfl, hp43, by show _ = _; simp [before, sumN]⟩
  case round =>
    obtain ⟨k, q, hk, rfl, rfl, hq1, hq⟩ := hrel
    have hbl := cell_old (h.bl k hk)
    have hl := hs.row hk
    obtain ⟨c, hcv⟩ : ∃ c, c = cntR (RR E k) (L k) := ⟨_, rfl⟩
    have hc1 : c ≤ L k := by rw [hcv]; exact cntR_le _ _
    have hp1 : ∀ o, (w.alloc o).cell? ⟨P k, 1, none⟩ = some (.int .i64 (c : Int)) := by
      have := h.p1 k hk
      rw [HV.out k hk, ← hcv] at this
      exact cell_old this
    have Hcv : Hid (c = cntR (RR E k) (L k)) := hcv
    clear hcv
    by_cases hqc : c ≤ q
    · have hk1 : k + 1 < n := by
        rcases Nat.lt_or_ge (k + 1) n with e | e
        · exact e
        · have e' : n = k + 1 := by omega
          have := Hp.out
          rw [e', before_succ, ← Hcv.out, ← hq.out] at this
          omega
      go_wp2
      go_round
      case rel => exact ⟨k + 1, q - c, hk1, by go_num, by go_num, by omega, by have := hq.out; show _ = _; rw [before_succ, ← Hcv.out]; omega⟩
      case measure => simp [intOf]; omega
    · have hp0 := cell_old (h.p0 k hk)
      go_wp2
      go_loop [1, 7] (fun s x => ∃ (i u : Nat), i < L k ∧ x = .int .i64 i ∧ s = .int .i64 u ∧ u ≤ 43690 ∧ Hid (u + cntR (RR E k) i = q)) (fun _ x => L k - (intOf x).toNat)
      case atStart => exact ⟨0, q, by omega, rfl, rfl, hq1, rfl⟩
      case round =>
        obtain ⟨i, u, hi, rfl, rfl, hu1, hu⟩ := hrel
        have he3 := cell_old (h.e3 k hk i hi)
        have hnext : ∀ t, cntR (RR E k) (i + 1) + t = q → i + 1 < L k := fun t ht => by
          rcases Nat.lt_or_ge (i + 1) (L k) with e | e
          · exact e
          · have e' : L k = i + 1 := by omega
            have := Hcv.out
            rw [e'] at this
            omega
        cases hr : (E k i).r
        · have hu' := hu.out
          have hh := cntR_hit (show RR E k i = false from hr)
          have Hh : Hid (cntR (RR E k) (i + 1) = cntR (RR E k) i + 1) := hh
          clear hh hu'
          by_cases hu0 : 0 < u
          · have hi1 := hnext (u - 1) (by have := hu.out; rw [Hh.out]; omega)
            clear hnext
            have d4 : decide ((0 : Int) < (u : Int)) = true := by simp; omega
            go_wp2
            go_round
            case rel => exact ⟨i + 1, u - 1, hi1, by go_num, by go_num, by omega, by have := hu.out; show _ = _; rw [Hh.out]; omega⟩
            case measure => simp [intOf]; omega
          · clear hnext
            have d4 : decide ((0 : Int) < (u : Int)) = false := by simp; omega
            go_wp2
            refine bodyPost_ret (v := .agg #[.int .i64 k, .int .i64 i]) (by simp [results, Try.results30, go_sem]) rfl ⟨⟨k, i, rfl, hk, hi, hr, ?_⟩, ?_⟩
            · have h1 := hu.out
              have h2 := hq.out
              omega
            · exact (Below.refl _ _).alloc (Nat.le_refl _) _
        · have Hh : Hid (cntR (RR E k) (i + 1) = cntR (RR E k) i) := cntR_miss (show RR E k i = true from hr)
          have hi1 := hnext u (by have := hu.out; rw [Hh.out]; omega)
          clear hnext
          go_wp2
          go_round
          case rel => exact ⟨i + 1, u, hi1, by go_num, by go_num, by omega, by have := hu.out; show _ = _; rw [Hh.out]; omega⟩
          case measure => simp [intOf]; omega
end Go.Proofs.Qxb6603828a
