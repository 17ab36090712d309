import Derived.Test.Qxb6603828aVisAt
import Derived.Deep.QuietTactic
import Derived.BigQuiet
namespace Go.Proofs.Qxb6603828a
open Go.RowKit

def VisRet2 (n : Nat) (L : Nat → Nat) (R : Nat → Nat → Bool) (p : Nat) (e : Ending) : Prop := ∃ b i : Nat, e = .returned (.tuple #[.int .i64 b, .int .i64 i]) ∧ IsAt R L n p b i

set_option maxHeartbeats 1000000 in
theorem zvis12 {w : World} {sb bb n bc m : Nat} {P G K L : Nat → Nat} {E : Nat → Nat → El} {V : Nat → Int} {vis : Int} (h : SeqM w sb bb n bc P G K L E V vis) (hs : Sz n m L)
    (hV : ∀ k, k < n → V k = cntR (RR E k) (L k)) (pos : Int) (hp0 : 0 ≤ pos) (hp : pos < before (RR E) L n) :
    Calls Try.prog 12 #[.pointer (some ⟨sb, 0, none⟩), .int .i64 pos] w fun e w' => VisRet2 n L (RR E) pos.toNat e ∧ Below w.heap.size w w' := by
  have H := vis30 h hs hV pos hp0 hp
  have HH : Hid (Calls Try.prog 30 #[.pointer (some ⟨sb, 0, none⟩), .int .i64 pos] w fun e w' => VisRet n L (RR E) pos.toNat e ∧ Below w.heap.size w w') := H
  clear H hp hV
  go_enter Try.func12, Try.ntmps12
  go_wp2_with fail
  refine HH.out.mono ?_
  rintro e w1 ⟨⟨b, i, rfl, hat⟩, hb⟩
  go_wp2
  go_quiet (fail)
  go_wp2
  go_ret2
  exact ⟨⟨b, i, rfl, hat⟩, below_drewN (hb.alloc hb.size _) _⟩
end Go.Proofs.Qxb6603828a
