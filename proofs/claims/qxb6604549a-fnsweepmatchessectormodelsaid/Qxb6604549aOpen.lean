/-
  FROM THE READING OF THE ARGUMENTS TO THE WALK's WORDS.
-/
import Derived.Test.Qxb6604549aMem
import Derived.ProofKit
import Derived.OpenShut
import Derived.ShutString
import Derived.ChangeOld
import Derived.Below
import Derived.Deep.Slices
namespace Go.Proofs.Qxb6604549a
open Go.ChangeShapes Go.WideShapes Go.ChangeAt Go.RowKit

theorem Try.cells72 : Try.prog.cellsOf 72 = 1 := by kernel_rfl
theorem Try.cells74 : Try.prog.cellsOf 74 = 4 := by kernel_rfl
theorem Try.cells55 : Try.prog.cellsOf 55 = 2 := by kernel_rfl
theorem Try.cells34 : Try.prog.cellsOf 34 = 1 := by kernel_rfl
theorem Try.cells23 : Try.prog.cellsOf 23 = 1 := by kernel_rfl
theorem Try.cells4 : Try.prog.cellsOf 4 = 1 := by kernel_rfl

theorem nat_of_wf {i : Int} (h : (Lit.int .u64 i).wf = true) : ∃ c : Nat, i = (c : Int) ∧ c ≤ 18446744073709551615 := by
  simp [Lit.wf, IntKind.min, IntKind.max, IntKind.signed, IntKind.bits] at h
  exact ⟨i.toNat, by omega, by omega⟩

section
variable {H : Type} {enc : TypeId × Value → H} {w : World}

/-- One span. -/
theorem open_el {fuel : Nat} {cs : List Value} {x : DataW H × List MemPlace} (h : DataW.trod enc Try.prog w 0 (fun _ => true) true fuel 74 cs = some x) :
    ∃ e : Sp, cs = [.int .u64 (e.c : Int), .int .u64 e.t, .int .u32 e.k, .bool e.h] ∧ e.c ≤ 18446744073709551615 := by
  obtain ⟨xs, n, _, _, hl, hlen, hf⟩ := DataW.trod_struct Try.underlying74 h
  rw [Try.cells74] at hl
  match cs, hl with
  | [a, b, c, d], _ =>
    have hlen' : xs.length = 3 := hlen
    match xs, hlen' with
    | [y0, y1, y2], _ =>
      have f0 : DataW.trod enc Try.prog w 0 (fun _ => true) true n 34 (([a, b, c, d].drop 0).take (Try.prog.cellsOf 34)) = some y0 := hf 0 _ rfl
      have f1 : DataW.trod enc Try.prog w 0 (fun _ => true) true n 55 (([a, b, c, d].drop 1).take (Try.prog.cellsOf 55)) = some y1 := hf 1 _ rfl
      have f2 : DataW.trod enc Try.prog w 0 (fun _ => true) true n 4 (([a, b, c, d].drop 3).take (Try.prog.cellsOf 4)) = some y2 := hf 2 _ rfl
      rw [Try.cells34] at f0
      rw [Try.cells55] at f1
      rw [Try.cells4] at f2
      obtain ⟨i0, e0, _, wf0⟩ := DataW.trod_int Try.underlying34 f0
      obtain ⟨i3, e3, _⟩ := DataW.trod_bool Try.underlying4 f2
      have f1' : DataW.trod enc Try.prog w 0 (fun _ => true) true n 55 [b, c] = some y1 := f1
      obtain ⟨ys, m, _, _, hl2, hlen2, hf2⟩ := DataW.trod_struct Try.underlying55 f1'
      have hlen2' : ys.length = 2 := hlen2
      match ys, hlen2' with
      | [z0, z1], _ =>
        have g0 : DataW.trod enc Try.prog w 0 (fun _ => true) true m 34 (([b, c].drop 0).take (Try.prog.cellsOf 34)) = some z0 := hf2 0 _ rfl
        have g1 : DataW.trod enc Try.prog w 0 (fun _ => true) true m 23 (([b, c].drop 1).take (Try.prog.cellsOf 23)) = some z1 := hf2 1 _ rfl
        rw [Try.cells34] at g0
        rw [Try.cells23] at g1
        obtain ⟨i1, e1, _⟩ := DataW.trod_int Try.underlying34 g0
        obtain ⟨i2, e2, _⟩ := DataW.trod_int Try.underlying23 g1
        simp at e0 e1 e2 e3
        subst e0 e1 e2 e3
        obtain ⟨c0, c1, c2⟩ := nat_of_wf wf0
        exact ⟨⟨c0, i1, i2, i3⟩, by rw [c1], c2⟩

/-- What one row is. -/
def RowIs (w : World) (V : Value) (y : Option Addr × Nat × Nat × Nat × Nat × (Nat → Sp)) : Prop :=
  V = .slice y.1 y.2.1 y.2.2.1 ∧ y.2.1 ≤ 9223372036854775807 ∧ ∀ j, j < y.2.1 → y.1 = some ⟨y.2.2.2.1, y.2.2.2.2.1, none⟩ ∧
    w.cell? ⟨y.2.2.2.1, y.2.2.2.2.1 + j * 4, none⟩ = some (.int .u64 ((y.2.2.2.2.2 j).c : Int)) ∧ w.cell? ⟨y.2.2.2.1, y.2.2.2.2.1 + j * 4 + 1, none⟩ = some (.int .u64 (y.2.2.2.2.2 j).t) ∧
    w.cell? ⟨y.2.2.2.1, y.2.2.2.2.1 + j * 4 + 2, none⟩ = some (.int .u32 (y.2.2.2.2.2 j).k) ∧ w.cell? ⟨y.2.2.2.1, y.2.2.2.2.1 + j * 4 + 3, none⟩ = some (.bool (y.2.2.2.2.2 j).h) ∧ (y.2.2.2.2.2 j).c ≤ 18446744073709551615

theorem open_el_row {fuel : Nat} {V : Value} {x : DataW H × List MemPlace} (h : DataW.trod enc Try.prog w 0 (fun _ => true) true fuel 72 [V] = some x) :
    ∃ y, RowIs w V y := by
  rcases Deep.open_slice Try.underlying72 h with ⟨h0, _⟩ | ⟨a, len, cap, m, n, D, Pl, hcs, hb, hl, hm, hmm, _, hx⟩
  · simp at h0
    exact ⟨(none, 0, 0, 0, 0, fun _ => ⟨0, 0, 0, false⟩), h0, by simp, fun j hj => absurd hj (Nat.not_lt_zero _)⟩
  · simp at hcs
    simp only [if_true] at hmm
    subst hmm
    rw [Try.cells74] at hx
    have hm' : len ≤ 9223372036854775807 := by unfold maxLen at hm; omega
    by_cases hl0 : len = 0
    · subst hl0
      exact ⟨(some a, 0, m, 0, 0, fun _ => ⟨0, 0, 0, false⟩), hcs, by simp, fun j hj => absurd hj (Nat.not_lt_zero _)⟩
    obtain ⟨b, off, spot⟩ := a
    have hspot : spot = none := by
      obtain ⟨cs', h1, _⟩ := hx 0 (by omega)
      obtain ⟨_, hlen, hc⟩ := World.cells?_some h1
      have := hc 0 (by omega)
      rw [List.getElem?_eq_getElem (by omega)] at this
      simpa [Addr.add] using World.cell?_spot this
    subst hspot
    have each : ∀ j, j < len → ∃ e : Sp, w.cell? ⟨b, off + j * 4, none⟩ = some (.int .u64 (e.c : Int)) ∧ w.cell? ⟨b, off + j * 4 + 1, none⟩ = some (.int .u64 e.t) ∧ w.cell? ⟨b, off + j * 4 + 2, none⟩ = some (.int .u32 e.k) ∧ w.cell? ⟨b, off + j * 4 + 3, none⟩ = some (.bool e.h) ∧ e.c ≤ 18446744073709551615 := by
      intro j hj
      obtain ⟨cs', h1, h2⟩ := hx j (by omega)
      obtain ⟨e, rfl, hec⟩ := open_el h2
      obtain ⟨_, _, hc⟩ := World.cells?_some h1
      rw [add_plain] at hc
      have k0 := hc 0 (by omega)
      have k1 := hc 1 (by omega)
      have k2 := hc 2 (by omega)
      have k3 := hc 3 (by omega)
      rw [add_plain] at k0 k1 k2 k3
      exact ⟨e, k0, k1, k2, k3, hec⟩
    obtain ⟨f, hf⟩ := @Deep.choose_lt Sp ⟨⟨0, 0, 0, false⟩⟩ len _ each
    exact ⟨(some ⟨b, off, none⟩, len, m, b, off, f), hcs, hm', fun j hj => ⟨rfl, hf j hj⟩⟩

theorem open_arg {fuel : Nat} {a : Option Addr} {len cap : Nat} {x : DataW H × List MemPlace} (h : DataW.trod enc Try.prog w 0 (fun _ => true) true fuel 44 [.slice a len cap] = some x) :
    ∃ (gb go : Nat) (A : Nat → Option Addr) (L C RB RO : Nat → Nat) (E : Nat → Nat → Sp), Arg w a len gb go A L C RB RO E := by
  rcases Deep.open_slice1 Try.underlying44 Try.cells72 h with ⟨h0, _⟩ | ⟨a', len', cap', m, n, V, D, Pl, hcs, hb, hl, hm, hmm, _, hx⟩
  · simp at h0
    obtain ⟨rfl, rfl, rfl⟩ := h0
    exact ⟨0, 0, fun _ => none, fun _ => 0, fun _ => 0, fun _ => 0, fun _ => 0, fun _ _ => ⟨0, 0, 0, false⟩, by
      refine ⟨?_, ?_, ?_, ?_, ?_, ?_, ?_, ?_, ?_, ?_⟩ <;> intros <;> omega⟩
  · simp at hcs
    obtain ⟨rfl, rfl, rfl⟩ := hcs
    simp only [if_true] at hmm
    subst hmm
    obtain ⟨y, hy⟩ := @Deep.choose_lt (Option Addr × Nat × Nat × Nat × Nat × (Nat → Sp)) ⟨(none, 0, 0, 0, 0, fun _ => ⟨0, 0, 0, false⟩)⟩ len (fun j e => RowIs w (V j) e) (fun j hj => open_el_row (hx j (by omega)).2)
    have hm' : len ≤ 9223372036854775807 := by unfold maxLen at hm; omega
    obtain ⟨b, off, spot⟩ := a'
    have hspot : 0 < len → spot = none := fun h0 => by simpa [Addr.add] using World.cell?_spot (hx 0 (by omega)).1
    refine ⟨b, off, fun k => (y k).1, fun k => (y k).2.1, fun k => (y k).2.2.1, fun k => (y k).2.2.2.1, fun k => (y k).2.2.2.2.1, fun k => (y k).2.2.2.2.2, ?_⟩
    refine ⟨fun h0 => by rw [hspot h0], fun k hk => ?_, fun k hk j hj => ((hy k hk).2.2 j hj).1, fun k hk j hj => ((hy k hk).2.2 j hj).2.1, fun k hk j hj => ((hy k hk).2.2 j hj).2.2.1, fun k hk j hj => ((hy k hk).2.2 j hj).2.2.2.1, fun k hk j hj => ((hy k hk).2.2 j hj).2.2.2.2.1, fun k hk => (hy k hk).2.1, hm', fun k hk j hj => ((hy k hk).2.2 j hj).2.2.2.2.2⟩
    have h1 := (hx k (by omega)).1
    rw [hspot (by omega), add_plain] at h1
    rw [h1, (hy k hk).1]

end
end Go.Proofs.Qxb6604549a
