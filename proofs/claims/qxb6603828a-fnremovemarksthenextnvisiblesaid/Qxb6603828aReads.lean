import Derived.Test.Qxb6603828aRemove
namespace Go.Proofs.Qxb6603828a
open Go.RowKit
set_option linter.unusedVariables false
set_option linter.unusedSimpArgs false

set_option maxHeartbeats 400000 in
theorem zremove20 {w : World} {sb bb N m : Nat} {P G L : Nat → Nat} {E : Nat → Nat → El} {V : Nat → Int} {vis : Int} (h : SeqW w sb bb N P G L E V vis) (hs : Sz N m L)
    (hV : ∀ k, k < N → V k = cntR (RR E k) (L k)) (hvis : vis = before (RR E) L N) (b0 i0 n : Nat) (hb0 : b0 < N) (hi0 : i0 < L b0) (hn : n ≤ 65536) (hroom : rank (RR E) L b0 i0 + n ≤ before (RR E) L N) :
    Calls Try.prog 20 #[.pointer (some ⟨sb, 0, none⟩), .int .i64 b0, .int .i64 i0, .int .i64 n] w fun e w' => RmRet w sb bb N n (rank (RR E) L b0 i0) P G L E vis e w' := by
  have H : Hid (Calls Try.prog 31 #[.pointer (some ⟨sb, 0, none⟩), .agg #[.int .i64 b0, .int .i64 i0], .int .i64 n] w fun e w' => RmRet w sb bb N n (rank (RR E) L b0 i0) P G L E vis e w') := remove31 h hs hV hvis b0 i0 n hb0 hi0 hn hroom
  clear hV hvis hroom h
  go_enter Try.func20, Try.ntmps20
  go_wp2_with fail
  refine H.out.mono ?_
  rintro e w1 ⟨g, rfl, hg, hR⟩
  go_wp2
  go_ret
  exact ⟨g, rfl, hg, hR⟩

section
variable {w : World} {sb bb n bc : Nat} {P G K L : Nat → Nat} {E : Nat → Nat → El} {V : Nat → Int} {vis : Int}

set_option maxHeartbeats 400000 in
theorem len21 (h : SeqM w sb bb n bc P G K L E V vis) {k : Nat} (hk : k < n) :
    Calls Try.prog 21 #[.pointer (some ⟨P k, 0, none⟩)] w fun e w' => e = .returned (.int .i64 (L k)) ∧ w' = w := by
  have p0 := h.p0 k hk
  go_enter Try.func21, Try.ntmps21
  go_wp2
  go_ret
  exact ⟨rfl, rfl⟩

set_option maxHeartbeats 400000 in
theorem removed22 (h : SeqM w sb bb n bc P G K L E V vis) {k j : Nat} (hk : k < n) (hj : j < L k) :
    Calls Try.prog 22 #[.pointer (some ⟨P k, 0, none⟩), .int .i64 j] w fun e w' => e = .returned (.bool (E k j).r) ∧ w' = w := by
  have p0 := h.p0 k hk
  have e3 := h.e3 k hk j hj
  have jz : (j : Int) < (L k : Int) := by omega
  go_enter Try.func22, Try.ntmps22
  go_wp2
  go_ret
  exact ⟨rfl, rfl⟩

set_option maxHeartbeats 400000 in
theorem event23 (h : SeqM w sb bb n bc P G K L E V vis) {k j : Nat} (hk : k < n) (hj : j < L k) :
    Calls Try.prog 23 #[.pointer (some ⟨P k, 0, none⟩), .int .i64 j] w fun e w' => e = .returned (.agg #[.int .u64 (E k j).v, .int .u64 (E k j).o, .int .u8 (E k j).k]) ∧ Below w.heap.size w w' := by
  have p0 := cell_old (h.p0 k hk)
  have e0 := cell_old (h.e0 k hk j hj)
  have e1 := cell_old (h.e1 k hk j hj)
  have e2 := cell_old (h.e2 k hk j hj)
  have jz : (j : Int) < (L k : Int) := by omega
  go_enter Try.func23, Try.ntmps23
  go_wp2
  exact bodyPost_ret (v := .agg #[.int .u64 (E k j).v, .int .u64 (E k j).o, .int .u8 (E k j).k]) (by simp [results, Try.results23, go_sem]) rfl ⟨rfl, (Below.refl _ _).alloc (Nat.le_refl _) _⟩

set_option maxHeartbeats 400000 in
theorem bvis24 (h : SeqM w sb bb n bc P G K L E V vis) {k : Nat} (hk : k < n) :
    Calls Try.prog 24 #[.pointer (some ⟨P k, 0, none⟩)] w fun e w' => e = .returned (.int .i64 (V k)) ∧ w' = w := by
  have p1 := h.p1 k hk
  go_enter Try.func24, Try.ntmps24
  go_wp2
  go_ret
  exact ⟨rfl, rfl⟩

set_option maxHeartbeats 400000 in
theorem svis25 (h : SeqM w sb bb n bc P G K L E V vis) :
    Calls Try.prog 25 #[.pointer (some ⟨sb, 0, none⟩)] w fun e w' => e = .returned (.int .i64 vis) ∧ w' = w := by
  have s2 := h.s2
  go_enter Try.func25, Try.ntmps25
  go_wp2
  go_ret
  exact ⟨rfl, rfl⟩
end
end Go.Proofs.Qxb6603828a
