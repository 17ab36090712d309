/-
  FROM THE READING OF THE ARGUMENTS TO THE WALK's WORDS.
-/
import Derived.Test.Qxb6603828aWell
import Derived.ProofKit
import Derived.OpenShut
import Derived.ShutString
import Derived.ChangeOld
import Derived.Below
import Derived.Deep.Slices
namespace Go.Proofs.Qxb6603828a
open Go.ChangeShapes Go.WideShapes Go.ChangeAt Go.RowKit

theorem Try.cells33 : Try.prog.cellsOf 33 = 1 := by kernel_rfl
theorem Try.cells36 : Try.prog.cellsOf 36 = 4 := by kernel_rfl
theorem Try.cells34 : Try.prog.cellsOf 34 = 1 := by kernel_rfl
theorem Try.cells5 : Try.prog.cellsOf 5 = 1 := by kernel_rfl
theorem Try.cells4 : Try.prog.cellsOf 4 = 1 := by kernel_rfl
theorem Try.cells3 : Try.prog.cellsOf 3 = 1 := by kernel_rfl

section
variable {H : Type} {enc : TypeId × Value → H} {w : World}

/-- One element. -/
theorem open_el {fuel : Nat} {cs : List Value} {x : DataW H × List MemPlace} (h : DataW.trod enc Try.prog w 0 (fun _ => true) true fuel 36 cs = some x) :
    ∃ e : El, cs = [.int .u64 e.v, .int .u64 e.o, .int .u8 e.k, .bool e.r] := by
  obtain ⟨xs, n, _, _, hl, hlen, hf⟩ := DataW.trod_struct Try.underlying36 h
  rw [Try.cells36] at hl
  match cs, hl with
  | [a, b, c, d], _ =>
    have hlen' : xs.length = 4 := hlen
    match xs, hlen' with
    | [y0, y1, y2, y3], _ =>
      have f0 : DataW.trod enc Try.prog w 0 (fun _ => true) true n 34 (([a, b, c, d].drop 0).take (Try.prog.cellsOf 34)) = some y0 := hf 0 _ rfl
      have f1 : DataW.trod enc Try.prog w 0 (fun _ => true) true n 34 (([a, b, c, d].drop 1).take (Try.prog.cellsOf 34)) = some y1 := hf 1 _ rfl
      have f2 : DataW.trod enc Try.prog w 0 (fun _ => true) true n 5 (([a, b, c, d].drop 2).take (Try.prog.cellsOf 5)) = some y2 := hf 2 _ rfl
      have f3 : DataW.trod enc Try.prog w 0 (fun _ => true) true n 4 (([a, b, c, d].drop 3).take (Try.prog.cellsOf 4)) = some y3 := hf 3 _ rfl
      rw [Try.cells34] at f0 f1
      rw [Try.cells5] at f2
      rw [Try.cells4] at f3
      obtain ⟨i0, e0, _⟩ := DataW.trod_int Try.underlying34 f0
      obtain ⟨i1, e1, _⟩ := DataW.trod_int Try.underlying34 f1
      obtain ⟨i2, e2, _⟩ := DataW.trod_int Try.underlying5 f2
      obtain ⟨i3, e3, _⟩ := DataW.trod_bool Try.underlying4 f3
      simp at e0 e1 e2 e3
      subst e0 e1 e2 e3
      exact ⟨⟨i0, i1, i2, i3⟩, rfl⟩

/-- What one row is. -/
def RowIs (w : World) (V : Value) (y : Option Addr × Nat × Nat × Nat × Nat × (Nat → El)) : Prop :=
  V = .slice y.1 y.2.1 y.2.2.1 ∧ y.2.1 ≤ 9223372036854775807 ∧ ∀ j, j < y.2.1 → y.1 = some ⟨y.2.2.2.1, y.2.2.2.2.1, none⟩ ∧
    w.cell? ⟨y.2.2.2.1, y.2.2.2.2.1 + j * 4, none⟩ = some (.int .u64 (y.2.2.2.2.2 j).v) ∧ w.cell? ⟨y.2.2.2.1, y.2.2.2.2.1 + j * 4 + 1, none⟩ = some (.int .u64 (y.2.2.2.2.2 j).o) ∧
    w.cell? ⟨y.2.2.2.1, y.2.2.2.2.1 + j * 4 + 2, none⟩ = some (.int .u8 (y.2.2.2.2.2 j).k) ∧ w.cell? ⟨y.2.2.2.1, y.2.2.2.2.1 + j * 4 + 3, none⟩ = some (.bool (y.2.2.2.2.2 j).r)

theorem open_el_row {fuel : Nat} {V : Value} {x : DataW H × List MemPlace} (h : DataW.trod enc Try.prog w 0 (fun _ => true) true fuel 33 [V] = some x) :
    ∃ y, RowIs w V y := by
  rcases Deep.open_slice Try.underlying33 h with ⟨h0, _⟩ | ⟨a, len, cap, m, n, D, Pl, hcs, hb, hl, hm, hmm, _, hx⟩
  · simp at h0
    exact ⟨(none, 0, 0, 0, 0, fun _ => ⟨0, 0, 0, false⟩), h0, by simp, fun j hj => absurd hj (Nat.not_lt_zero _)⟩
  · simp at hcs
    simp only [if_true] at hmm
    subst hmm
    rw [Try.cells36] at hx
    have hm' : len ≤ 9223372036854775807 := by unfold maxLen at hm; omega
    by_cases hl0 : len = 0
    · subst hl0
      exact ⟨(some a, 0, m, 0, 0, fun _ => ⟨0, 0, 0, false⟩), hcs, by simp, fun j hj => absurd hj (Nat.not_lt_zero _)⟩
    obtain ⟨b, off, spot⟩ := a
    have hspot : spot = none := by
      obtain ⟨cs', h1, _⟩ := hx 0 (by omega)
      obtain ⟨_, hlen, hc⟩ := World.cells?_some h1
      have := hc 0 (by omega)
      rw [List.getElem?_eq_getElem (by omega)] at this
      simpa [Addr.add] using World.cell?_spot this
    subst hspot
    have each : ∀ j, j < len → ∃ e : El, w.cell? ⟨b, off + j * 4, none⟩ = some (.int .u64 e.v) ∧ w.cell? ⟨b, off + j * 4 + 1, none⟩ = some (.int .u64 e.o) ∧ w.cell? ⟨b, off + j * 4 + 2, none⟩ = some (.int .u8 e.k) ∧ w.cell? ⟨b, off + j * 4 + 3, none⟩ = some (.bool e.r) := by
      intro j hj
      obtain ⟨cs', h1, h2⟩ := hx j (by omega)
      obtain ⟨e, rfl⟩ := open_el h2
      obtain ⟨_, _, hc⟩ := World.cells?_some h1
      rw [add_plain] at hc
      have k0 := hc 0 (by omega)
      have k1 := hc 1 (by omega)
      have k2 := hc 2 (by omega)
      have k3 := hc 3 (by omega)
      rw [add_plain] at k0 k1 k2 k3
      exact ⟨e, k0, k1, k2, k3⟩
    obtain ⟨f, hf⟩ := @Deep.choose_lt El ⟨⟨0, 0, 0, false⟩⟩ len _ each
    exact ⟨(some ⟨b, off, none⟩, len, m, b, off, f), hcs, hm', fun j hj => ⟨rfl, hf j hj⟩⟩

theorem open_arg {fuel : Nat} {a : Option Addr} {len cap : Nat} {x : DataW H × List MemPlace} (h : DataW.trod enc Try.prog w 0 (fun _ => true) true fuel 22 [.slice a len cap] = some x) :
    ∃ (gb go : Nat) (A : Nat → Option Addr) (L C RB RO : Nat → Nat) (E : Nat → Nat → El), Arg w a len gb go A L C RB RO E := by
  rcases Deep.open_slice1 Try.underlying22 Try.cells33 h with ⟨h0, _⟩ | ⟨a', len', cap', m, n, V, D, Pl, hcs, hb, hl, hm, hmm, _, hx⟩
  · simp at h0
    obtain ⟨rfl, rfl, rfl⟩ := h0
    exact ⟨0, 0, fun _ => none, fun _ => 0, fun _ => 0, fun _ => 0, fun _ => 0, fun _ _ => ⟨0, 0, 0, false⟩, by
      refine ⟨?_, ?_, ?_, ?_, ?_, ?_, ?_, ?_, ?_⟩ <;> intros <;> omega⟩
  · simp at hcs
    obtain ⟨rfl, rfl, rfl⟩ := hcs
    simp only [if_true] at hmm
    subst hmm
    obtain ⟨y, hy⟩ := @Deep.choose_lt (Option Addr × Nat × Nat × Nat × Nat × (Nat → El)) ⟨(none, 0, 0, 0, 0, fun _ => ⟨0, 0, 0, false⟩)⟩ len (fun j e => RowIs w (V j) e) (fun j hj => open_el_row (hx j (by omega)).2)
    have hm' : len ≤ 9223372036854775807 := by unfold maxLen at hm; omega
    obtain ⟨b, off, spot⟩ := a'
    have hspot : 0 < len → spot = none := fun h0 => by simpa [Addr.add] using World.cell?_spot (hx 0 (by omega)).1
    refine ⟨b, off, fun k => (y k).1, fun k => (y k).2.1, fun k => (y k).2.2.1, fun k => (y k).2.2.2.1, fun k => (y k).2.2.2.2.1, fun k => (y k).2.2.2.2.2, ?_⟩
    refine ⟨fun h0 => by rw [hspot h0], fun k hk => ?_, fun k hk j hj => ((hy k hk).2.2 j hj).1, fun k hk j hj => ((hy k hk).2.2 j hj).2.1, fun k hk j hj => ((hy k hk).2.2 j hj).2.2.1, fun k hk j hj => ((hy k hk).2.2 j hj).2.2.2.1, fun k hk j hj => ((hy k hk).2.2 j hj).2.2.2.2, fun k hk => (hy k hk).2.1, hm'⟩
    have h1 := (hx k (by omega)).1
    rw [hspot (by omega), add_plain] at h1
    rw [h1, (hy k hk).1]

theorem open_varg {fuel : Nat} {a : Option Addr} {len cap : Nat} {x : DataW H × List MemPlace} (h : DataW.trod enc Try.prog w 0 (fun _ => true) true fuel 23 [.slice a len cap] = some x) :
    (∃ (vb vf : Nat) (V : Nat → Int), VArg w a len vb vf V) ∧ len ≤ 9223372036854775807 := by
  rcases open_ints Try.underlying23 Try.underlying3 Try.cells3 h with ⟨hcs, _⟩ | ⟨x, l, c, zs, hcs, _, hl, hm, hz, _, hcell, _⟩
  · simp at hcs
    obtain ⟨rfl, rfl, rfl⟩ := hcs
    exact ⟨⟨0, 0, fun _ => 0, fun h => absurd h (Nat.lt_irrefl _), fun k hk => absurd hk (Nat.not_lt_zero _)⟩, Nat.zero_le _⟩
  · simp at hcs
    obtain ⟨rfl, rfl, rfl⟩ := hcs
    simp only [if_true] at hz
    have hm' : len ≤ 9223372036854775807 := by unfold maxLen at hm; omega
    refine ⟨?_, hm'⟩
    by_cases h0 : len = 0
    · subst h0
      exact ⟨0, 0, fun _ => 0, fun h => absurd h (Nat.lt_irrefl _), fun k hk => absurd hk (Nat.not_lt_zero _)⟩
    obtain ⟨b, off, rfl, hc⟩ := ints_at hcell (by omega)
    exact ⟨b, off, fun k => zs.getD k 0, fun _ => rfl, fun k hk => hc k (by omega)⟩
end
end Go.Proofs.Qxb6603828a
