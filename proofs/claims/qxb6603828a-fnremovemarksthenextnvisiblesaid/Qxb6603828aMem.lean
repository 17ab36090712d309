/-
  THE PLAIN SIDE OF THE MEMORY: what 'blocks [][]Elem' looks like in a world, read by index functions.
-/
import Derived.Test.Qxb6603828aRows
import Derived.Test.Qxb6603828aPlain
import Derived.WalkKit
import Derived.WalkSpells
import Derived.WalkLawsBesides
import Derived.Deep.LoopGhost
import Derived.Deep.OwnRows
namespace Go.Proofs.Qxb6603828a
open Go.RowKit

/-- One element of a block, as numbers. -/
structure El where
  v : Int
  o : Int
  k : Int
  r : Bool

/-- WHAT THE ARGUMENT blocks LOOKS LIKE IN w: row k has its own header; its element j is four cells. -/
structure Arg (w : World) (ao : Option Addr) (n gb go : Nat) (A : Nat → Option Addr) (L C RB RO : Nat → Nat) (E : Nat → Nat → El) : Prop where
  ga : 0 < n → ao = some ⟨gb, go, none⟩
  row : ∀ k, k < n → w.cell? ⟨gb, go + k, none⟩ = some (.slice (A k) (L k) (C k))
  lead : ∀ k, k < n → ∀ j, j < L k → A k = some ⟨RB k, RO k, none⟩
  c0 : ∀ k, k < n → ∀ j, j < L k → w.cell? ⟨RB k, RO k + j * 4, none⟩ = some (.int .u64 (E k j).v)
  c1 : ∀ k, k < n → ∀ j, j < L k → w.cell? ⟨RB k, RO k + j * 4 + 1, none⟩ = some (.int .u64 (E k j).o)
  c2 : ∀ k, k < n → ∀ j, j < L k → w.cell? ⟨RB k, RO k + j * 4 + 2, none⟩ = some (.int .u8 (E k j).k)
  c3 : ∀ k, k < n → ∀ j, j < L k → w.cell? ⟨RB k, RO k + j * 4 + 3, none⟩ = some (.bool (E k j).r)
  lc : ∀ k, k < n → L k ≤ 9223372036854775807
  nc : n ≤ 9223372036854775807

theorem cell_kept {w w' : World} {a : Addr} {v : Value} (hb : Below w.heap.size w w') (h : w.cell? a = some v) : w'.cell? a = some v := by
  rw [hb.cell (World.block_lt_of_cell? _ _ h)]; exact h

theorem Arg.kept {w w' : World} {ao : Option Addr} {n gb go : Nat} {A : Nat → Option Addr} {L C RB RO : Nat → Nat} {E : Nat → Nat → El} (h : Arg w ao n gb go A L C RB RO E) (hb : Below w.heap.size w w') :
    Arg w' ao n gb go A L C RB RO E :=
  ⟨h.ga, fun k hk => cell_kept hb (h.row k hk), h.lead, fun k hk j hj => cell_kept hb (h.c0 k hk j hj), fun k hk j hj => cell_kept hb (h.c1 k hk j hj),
    fun k hk j hj => cell_kept hb (h.c2 k hk j hj), fun k hk j hj => cell_kept hb (h.c3 k hk j hj), h.lc, h.nc⟩

end Go.Proofs.Qxb6603828a
