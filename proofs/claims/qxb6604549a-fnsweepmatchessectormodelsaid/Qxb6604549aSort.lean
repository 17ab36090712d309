import Derived.Test.Qxb6604549aTot
namespace Go.Proofs.Qxb6604549a
open Go.RowKit
set_option linter.unusedVariables false
set_option linter.unusedSimpArgs false

/-- n numbers lie at the head of block g, and may be written. -/
def URow (w : World) (g n : Nat) (f : Nat → Nat) : Prop := ∀ i, i < n → w.cell? ⟨g, i, none⟩ = some (.int .u64 (f i : Int)) ∧ w.frozen? ⟨g, i, none⟩ = false

theorem URow.set {w : World} {g n : Nat} {f : Nat → Nat} (h : URow w g n f) {k : Nat} (hk : k < n) (x : Nat) : URow (w.setCell ⟨g, k, none⟩ (.int .u64 (x : Int))) g n (upd f k x) := by
  intro i hi
  obtain ⟨h1, h2⟩ := h i hi
  refine ⟨?_, by rw [World.frozen?_setCell]; exact h2⟩
  by_cases e : i = k
  · subst e
    rw [World.cell?_setCell_same _ _ _ h1, upd_at]
  · rw [World.cell?_setCell_other _ _ _ _ (by first | (simp; done) | (simp; omega)), upd_ne f e]
    exact h1

/-- Only block g may have turned. -/
structure OnlyB (g : Nat) (w w' : World) : Prop where
  os : w'.os = w.os
  tape : w'.tape = w.tape
  output : w'.output = w.output
  size : w'.heap.size = w.heap.size
  block : ∀ b, b ≠ g → w'.heap[b]? = w.heap[b]?

theorem OnlyB.refl (g : Nat) (w : World) : OnlyB g w w := ⟨rfl, rfl, rfl, rfl, fun _ _ => rfl⟩
theorem OnlyB.set {g : Nat} {w w' : World} (h : OnlyB g w w') (k : Nat) (v : Value) : OnlyB g w (w'.setCell ⟨g, k, none⟩ v) :=
  ⟨h.os, h.tape, h.output, by rw [World.size_setCell]; exact h.size, fun b hb => by rw [Deep.blk_setCell_other _ _ _ _ hb]; exact h.block b hb⟩
theorem OnlyB.below {g B : Nat} {w0 w w' : World} (h : OnlyB g w w') (hb : Below B w0 w) (hg : B ≤ g) : Below B w0 w' :=
  hb.trans ⟨h.os, h.tape, h.output, by rw [h.size]; exact Nat.le_refl _, fun k hk => h.block k (by omega)⟩

def SortRet (w : World) (g n : Nat) (f : Nat → Nat) (e : Ending) (w' : World) : Prop :=
  e = .returned (.tuple #[]) ∧ OnlyB g w w' ∧ ∃ f', URow w' g n f' ∧ Sorted f' n ∧ ∀ p, cntP p f' n = cntP p f n

/-- The row with a hole at j, v in hand. -/
structure Hole (f s : Nat → Nat) (n i j v : Nat) : Prop where
  cnt : ∀ p, cntP p (upd s j v) n = cntP p f n
  mono : ∀ a b, a ≤ b → b ≤ i → a ≠ j → b ≠ j → s a ≤ s b
  big : ∀ b, j < b → b ≤ i → v ≤ s b

theorem hole_start {f s : Nat → Nat} {n i : Nat} (hi : i < n) (hs : Sorted s i) (hc : ∀ p, cntP p s n = cntP p f n) : Hole f s n i i (s i) := by
  refine ⟨fun p => ?_, fun a b hab hb ha hb' => hs a b hab (by omega), fun b h1 h2 => by omega⟩
  rw [← hc p]
  refine cntP_congr n (fun k _ => ?_)
  by_cases e : k = i
  · subst e; rw [upd_at]
  · rw [upd_ne s e]

theorem hole_step {f s : Nat → Nat} {n i j v : Nat} (h : Hole f s n i (j + 1) v) (hj : j + 1 ≤ i) (hi : i < n) (hv : v < s j) : Hole f (upd s (j + 1) (s j)) n i j v := by
  refine ⟨fun p => by rw [cntP_shift p s j v n (by omega)]; exact h.cnt p, fun a b hab hb ha hb' => ?_, fun b h1 h2 => ?_⟩
  · by_cases e : a = j + 1
    · subst e
      rw [upd_at]
      by_cases e2 : b = j + 1
      · subst e2; rw [upd_at]; exact Nat.le_refl _
      · rw [upd_ne s e2]; exact h.mono j b (by omega) hb (by omega) e2
    · rw [upd_ne s e]
      by_cases e2 : b = j + 1
      · subst e2; rw [upd_at]; exact h.mono a j (by omega) (by omega) e (by omega)
      · rw [upd_ne s e2]; exact h.mono a b hab hb e e2
  · by_cases e : b = j + 1
    · subst e; rw [upd_at]; omega
    · rw [upd_ne s e]; exact h.big b (by omega) h2

theorem hole_end {f s : Nat → Nat} {n i j v : Nat} (h : Hole f s n i j v) (hj : j ≤ i) (hend : j = 0 ∨ s (j - 1) ≤ v) : Sorted (upd s j v) (i + 1) := by
  intro a b hab hb
  by_cases ea : a = j
  · subst ea
    rw [upd_at]
    by_cases eb : b = a
    · subst eb; rw [upd_at]; exact Nat.le_refl _
    · rw [upd_ne s eb]; exact h.big b (by omega) (by omega)
  · rw [upd_ne s ea]
    by_cases eb : b = j
    · subst eb
      rw [upd_at]
      rcases hend with h0 | h0
      · omega
      · exact Nat.le_trans (h.mono a (b - 1) (by omega) (by omega) ea (by omega)) h0
    · rw [upd_ne s eb]; exact h.mono a b hab (by omega) ea eb

theorem sorted_one (f : Nat → Nat) : Sorted f 1 := fun a b hab hb => by
  have : a = b := by omega
  subst this
  exact Nat.le_refl _

set_option maxHeartbeats 1000000 in
theorem sort19 {w : World} {so : Option Addr} {g n cap : Nat} {f : Nat → Nat} (hso : 0 < n → so = some ⟨g, 0, none⟩) (h : URow w g n f) (hn : n ≤ 65536) :
    Calls Try.prog 19 #[.slice so n cap] w fun e w' => SortRet w g n f e w' := by
  have Hh : Hid (URow w g n f) := h
  clear h
  go_enter Try.func19, Try.ntmps19
  go_wp2
  go_loopw [2] (fun x wr => ∃ (i : Nat) (s : Nat → Nat), 1 ≤ i ∧ (i ≤ n ∨ i = 1) ∧ x = .int .i64 i ∧ URow wr g n s ∧ Sorted s i ∧ (∀ p, cntP p s n = cntP p f n) ∧ OnlyB g w wr) (fun x _ => n - (intOf x).toNat)
  case atStart => exact ⟨1, f, Nat.le_refl _, Or.inr rfl, rfl, Hh.out, sorted_one f, fun _ => rfl, OnlyB.refl _ _⟩
  case round =>
    obtain ⟨i, s, hi1, hi2, rfl, hU, hS, hC, hO⟩ := hrel
    by_cases hin : i < n
    · obtain rfl := hso (by omega)
      have hci := (hU i hin).1
      obtain ⟨v, hv⟩ : ∃ v, v = s i := ⟨_, rfl⟩
      rw [← hv] at hci
      have HH : Hid (Hole f s n i i v) := by rw [hv]; exact hole_start hin hS hC
      have HU : Hid (URow wr g n s) := hU
      have HO : Hid (OnlyB g w wr) := hO
      clear hU hS hC hO hv
      go_wp2
      go_loopw [4] (fun y wr => ∃ (j : Nat) (s : Nat → Nat), j ≤ i ∧ y = .int .i64 j ∧ URow wr g n s ∧ Hole f s n i j v ∧ OnlyB g w wr) (fun y _ => (intOf y).toNat)
      case atStart => exact ⟨i, s, Nat.le_refl _, rfl, HU.out, HH.out, HO.out⟩
      case round =>
        clear HU HH HO hci
        obtain ⟨j, s, hj, rfl, hU, hH, hO⟩ := hrel
        have hbj := hU j (by omega)
        have HU : Hid (URow wr g n s) := hU
        have HO : Hid (OnlyB g w wr) := hO
        have HH : Hid (Hole f s n i j v) := hH
        clear hU hH hO
        cases j with
        | zero =>
          obtain ⟨q1, q2⟩ := hbj
          have d1 : decide ((0 : Int) < ((0 : Nat) : Int)) = false := by simp
          have d1' : decide ((0 : Int) < 0) = false := by simp
          go_wp2
          go_roundw
          case rel =>
            exact ⟨i + 1, upd s 0 v, by omega, by omega, by go_num, HU.out.set (by omega) v, hole_end HH.out (Nat.zero_le _) (Or.inl rfl), HH.out.cnt, HO.out.set 0 _⟩
          case measure => simp [intOf]; omega
        | succ j =>
          obtain ⟨q1, q2⟩ := hbj
          have hprev := (HU.out j (by omega)).1
          have hjn : j < n := by omega
          have d1 : decide ((0 : Int) < ((j + 1 : Nat) : Int)) = true := by rw [decide_eq_true_iff]; omega
          have d1' : decide ((0 : Int) < (j : Int) + 1) = true := by rw [decide_eq_true_iff]; omega
          by_cases hvj : v < s j
          · have d2 : decide ((v : Int) < (s j : Int)) = true := by simp; omega
            go_wp2
            go_roundw
            case rel => exact ⟨j, upd s (j + 1) (s j), by omega, by go_num, HU.out.set (by omega) _, hole_step HH.out hj hin hvj, HO.out.set _ _⟩
            case measure => first | (simp [intOf]; done) | (simp [intOf]; omega)
          · have d2 : decide ((v : Int) < (s j : Int)) = false := by simp; omega
            go_wp2
            go_roundw
            case rel =>
              exact ⟨i + 1, upd s (j + 1) v, by omega, by omega, by go_num, HU.out.set (by omega) v, hole_end HH.out hj (Or.inr (by simp; omega)), HH.out.cnt, HO.out.set _ _⟩
            case measure => simp [intOf]; omega
    · have HX : Hid (URow wr g n s ∧ Sorted s i ∧ (∀ p, cntP p s n = cntP p f n) ∧ OnlyB g w wr) := ⟨hU, hS, hC, hO⟩
      clear hU hS hC hO
      go_wp2
      go_end0
      exact ⟨rfl, HX.out.2.2.2, s, HX.out.1, fun a b hab hb => HX.out.2.1 a b hab (by omega), HX.out.2.2.1⟩
end Go.Proofs.Qxb6604549a
