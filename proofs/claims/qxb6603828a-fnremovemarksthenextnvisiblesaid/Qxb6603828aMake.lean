import Derived.Test.Qxb6603828aVisAt
namespace Go.Proofs.Qxb6603828a
open Go.RowKit

set_option maxHeartbeats 400000 in
theorem uuid16 (v o k : Int) (r : Bool) (w : World) :
    Calls Try.prog 16 #[.agg #[.int .u64 v, .int .u64 o, .int .u8 k, .bool r]] w fun e w' => e = .returned (.agg #[.int .u64 v, .int .u64 o, .int .u8 k]) ∧ Below w.heap.size w w' := by
  go_enter Try.func16, Try.ntmps16
  go_wp2
  exact bodyPost_ret (v := .agg #[.int .u64 v, .int .u64 o, .int .u8 k]) (by simp [results, Try.results16, go_sem]) rfl ⟨rfl, ((Below.refl _ _).alloc (Nat.le_refl _) _).alloc (by simp) _⟩

set_option maxHeartbeats 400000 in
theorem elem15 (v o k : Int) (r : Bool) (w : World) :
    Calls Try.prog 15 #[.agg #[.int .u64 v, .int .u64 o, .int .u8 k], .bool r] w fun e w' => e = .returned (.agg #[.int .u64 v, .int .u64 o, .int .u8 k, .bool r]) ∧ Below w.heap.size w w' := by
  go_enter Try.func15, Try.ntmps15
  go_wp2
  exact bodyPost_ret (v := .agg #[.int .u64 v, .int .u64 o, .int .u8 k, .bool r]) (by simp [results, Try.results15, go_sem]) rfl ⟨rfl, ((Below.refl _ _).alloc (Nat.le_refl _) _).alloc (by simp) _⟩

/-- What ZZNewBlock lays. -/
def blkCells (ao : Option Addr) (l c : Nat) (vis : Int) : Array Value := #[.slice ao l c, .int .i64 vis, .int .u64 0, .int .u64 0, .int .u8 0]
/-- What ZZNewSequence lays. -/
def seqCells (ao : Option Addr) (l c : Nat) (vis : Int) : Array Value := #[.slice ao l c, .map none, .int .i64 vis]

set_option maxHeartbeats 400000 in
theorem block18 (ao : Option Addr) (l c : Nat) (vis : Int) (w : World) :
    Calls Try.prog 18 #[.slice ao l c, .int .i64 vis, .agg #[.int .u64 0, .int .u64 0, .int .u8 0]] w fun e w' => e = .returned (.pointer (some ⟨w.heap.size + 1, 0, none⟩)) ∧
      w' = (w.alloc (.cells #[.int .u64 0, .int .u64 0, .int .u8 0] 41)).alloc (.cells (blkCells ao l c vis) 66) := by
  go_enter Try.func18, Try.ntmps18
  go_wp2
  go_ret
  exact ⟨rfl, rfl⟩

set_option maxHeartbeats 400000 in
theorem seq17 (ao : Option Addr) (l c : Nat) (vis : Int) (w : World) :
    Calls Try.prog 17 #[.slice ao l c, .int .i64 vis] w fun e w' => e = .returned (.pointer (some ⟨w.heap.size, 0, none⟩)) ∧ w' = w.alloc (.cells (seqCells ao l c vis) 64) := by
  go_enter Try.func17, Try.ntmps17
  go_wp2
  go_ret
  exact ⟨rfl, rfl⟩
end Go.Proofs.Qxb6603828a
