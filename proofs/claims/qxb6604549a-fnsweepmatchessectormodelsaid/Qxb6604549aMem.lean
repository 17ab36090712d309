/-
  What 'answers [][]LawSpan' (and [][]Span) looks like in a world, by index functions.
-/
import Derived.Test.Qxb6604549aRows
import Derived.Test.Qxb6604549aPlain
import Derived.WalkKit
import Derived.WalkSpells
import Derived.WalkLawsBesides
import Derived.Deep.LoopGhost
import Derived.Deep.OwnRows
namespace Go.Proofs.Qxb6604549a
open Go.RowKit
set_option linter.unusedVariables false

/-- One span, as numbers: its count, its tag's time and rank, whether it is a hole. -/
structure Sp where
  c : Nat
  t : Int
  k : Int
  h : Bool

structure Arg (w : World) (ao : Option Addr) (n gb go : Nat) (A : Nat → Option Addr) (L C RB RO : Nat → Nat) (E : Nat → Nat → Sp) : Prop where
  ga : 0 < n → ao = some ⟨gb, go, none⟩
  row : ∀ k, k < n → w.cell? ⟨gb, go + k, none⟩ = some (.slice (A k) (L k) (C k))
  lead : ∀ k, k < n → ∀ j, j < L k → A k = some ⟨RB k, RO k, none⟩
  c0 : ∀ k, k < n → ∀ j, j < L k → w.cell? ⟨RB k, RO k + j * 4, none⟩ = some (.int .u64 ((E k j).c : Int))
  c1 : ∀ k, k < n → ∀ j, j < L k → w.cell? ⟨RB k, RO k + j * 4 + 1, none⟩ = some (.int .u64 (E k j).t)
  c2 : ∀ k, k < n → ∀ j, j < L k → w.cell? ⟨RB k, RO k + j * 4 + 2, none⟩ = some (.int .u32 (E k j).k)
  c3 : ∀ k, k < n → ∀ j, j < L k → w.cell? ⟨RB k, RO k + j * 4 + 3, none⟩ = some (.bool (E k j).h)
  lc : ∀ k, k < n → L k ≤ 9223372036854775807
  nc : n ≤ 9223372036854775807
  cc : ∀ k, k < n → ∀ j, j < L k → (E k j).c ≤ 18446744073709551615

theorem cell_kept {w w' : World} {a : Addr} {v : Value} (hb : Below w.heap.size w w') (h : w.cell? a = some v) : w'.cell? a = some v := by
  rw [hb.cell (World.block_lt_of_cell? _ _ h)]; exact h

theorem cell_old {w : World} {a : Addr} {v : Value} (h : w.cell? a = some v) (o : Obj) : (w.alloc o).cell? a = some v := by
  rw [World.cell?_alloc_lt _ _ _ (World.block_lt_of_cell? _ _ h)]; exact h

theorem Arg.kept {w w' : World} {ao : Option Addr} {n gb go : Nat} {A : Nat → Option Addr} {L C RB RO : Nat → Nat} {E : Nat → Nat → Sp} (h : Arg w ao n gb go A L C RB RO E) (hb : Below w.heap.size w w') :
    Arg w' ao n gb go A L C RB RO E :=
  ⟨h.ga, fun k hk => cell_kept hb (h.row k hk), h.lead, fun k hk j hj => cell_kept hb (h.c0 k hk j hj), fun k hk j hj => cell_kept hb (h.c1 k hk j hj),
    fun k hk j hj => cell_kept hb (h.c2 k hk j hj), fun k hk j hj => cell_kept hb (h.c3 k hk j hj), h.lc, h.nc, h.cc⟩

def SomeBool (e : Ending) : Prop := ∃ b, e = .returned (.bool b)
theorem someBool (b : Bool) : SomeBool (.returned (.bool b)) := ⟨b, rfl⟩

theorem cell_of_blk {w : World} {b i : Nat} {c : Array Value} {t : TypeId} {m : Nat × Nat} {v : Value} (h : w.heap[b]? = some (.cells c t m)) (hc : c[i]? = some v) : w.cell? ⟨b, i, none⟩ = some v := by
  simp [World.cell?, h, hc]
theorem frozen_of_blk {w : World} {b i : Nat} {c : Array Value} {t : TypeId} (h : w.heap[b]? = some (.cells c t (0, 0))) : w.frozen? ⟨b, i, none⟩ = false := by
  simp [World.frozen?, h]
theorem blk_set1 {w : World} {g a0 : Nat} {v0 : Value} {c : Array Value} {t : TypeId} (h : w.heap[g]? = some (.cells c t (0, 0))) :
    (w.setCell ⟨g, a0, none⟩ v0).heap[g]? = some (.cells (c.setIfInBounds a0 v0) t (0, 0)) := by
  simp [World.setCell, Array.getElem?_modify, h]
theorem below_of_drew {B : Nat} {w w1 : World} (h : Below B w.drew w1) : Below B w w1 := ⟨h.os, h.tape, h.output, h.size, h.block⟩

end Go.Proofs.Qxb6604549a
