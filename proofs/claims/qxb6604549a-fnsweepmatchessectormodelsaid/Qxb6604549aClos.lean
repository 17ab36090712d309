import Derived.Test.Qxb6604549aReg
import Derived.Test.Qxb6604549aSpec
import Derived.Deep.AppendLies
namespace Go.Proofs.Qxb6604549a
open Go.RowKit
set_option linter.unusedVariables false
set_option linter.unusedSimpArgs false

theorem Try.info54 : (Try.prog.info? 54).map (fun i => (i.zero, i.size, i.bytes)) = some (some (.agg #[.int .u64 0, .int .u64 0, .int .u32 0, .int .i64 0]), 4, 32) := by kernel_rfl

/-- The cells of one stretch. -/
def stc (s : Stretch) : List Value := [.int .u64 (s.c : Int), .int .u64 s.t, .int .u32 s.k, .int .i64 (s.v : Int)]

/-- THE VARIABLE out: block ob holds a slice that owns the stretches. -/
structure Out (w : World) (B ob : Nat) (v : Value) (l : List Stretch) : Prop where
  var : w.heap[ob]? = some (.cells #[v] 47 (0, 0))
  own : w.ownsRow B 54 4 v l.length (l.flatMap stc)

theorem Out.apart {w : World} {B ob : Nat} {v : Value} {l : List Stretch} (h : Out w B ob v l) : some ob ≠ v.ownBlock := by
  rcases h.own.2 with ⟨rfl, _⟩ | ⟨g, cap, cur, rfl, _, hg, _⟩
  · simp [Value.ownBlock]
  · intro e
    simp [Value.ownBlock] at e
    subst e
    have := h.var
    rw [hg] at this
    simp at this

theorem Out.lt {w : World} {B ob : Nat} {v : Value} {l : List Stretch} (h : Out w B ob v l) : ob < w.heap.size := (Array.getElem?_eq_some_iff.1 h.var).1

/-- A block that is not of type 54 is none of out's. -/
theorem Out.other {w : World} {B ob : Nat} {v : Value} {l : List Stretch} (h : Out w B ob v l) {b : Nat} {c : Array Value} {t : TypeId} {m : Nat × Nat} (hb : w.heap[b]? = some (.cells c t m)) (ht : t ≠ 54) : some b ≠ v.ownBlock := by
  rcases h.own.2 with ⟨rfl, _⟩ | ⟨g, cap, cur, rfl, _, hg, _⟩
  · simp [Value.ownBlock]
  · intro e
    simp [Value.ownBlock] at e
    subst e
    rw [hg] at hb
    simp at hb
    exact ht hb.2.1.symm

def ClosRet (w : World) (B ob : Nat) (v : Value) (l : List Stretch) (s : Stretch) (e : Ending) (w' : World) : Prop :=
  e = .returned (.tuple #[]) ∧ (∃ v', Out w' B ob v' (l ++ [s])) ∧ w'.os = w.os ∧ w'.tape = w.tape ∧ w'.output = w.output ∧ w.heap.size ≤ w'.heap.size ∧ ∀ b, b < w.heap.size → b ≠ ob → some b ≠ v.ownBlock → w'.heap[b]? = w.heap[b]?

set_option maxHeartbeats 1000000 in
theorem clos28 {w : World} {B ob : Nat} {v : Value} {l : List Stretch} (h : Out w B ob v l) (hB : B ≤ w.heap.size) (hl : l.length ≤ 65536) (s : Stretch) :
    Calls Try.prog 28 #[.int .u64 (s.c : Int), .agg #[.int .u64 s.t, .int .u32 s.k], .int .i64 (s.v : Int), .pointer (some ⟨ob, 0, none⟩)] w fun e w' => ClosRet w B ob v l s e w' := by
  have hob := h.lt
  have hap := h.apart
  have hc : w.cell? ⟨ob, 0, none⟩ = some v := cell_of_blk h.var rfl
  have hc1 := cell_old hc
  obtain ⟨ti, hi0, hz0, hz1, hz2⟩ := info_parts Try.info54
  have HI : Hid (Try.prog.info? 54 = some ti ∧ ti.zero = some (.agg #[.int .u64 0, .int .u64 0, .int .u32 0, .int .i64 0]) ∧ ti.size = 4 ∧ ti.bytes = 32) := ⟨hi0, hz0, hz1, hz2⟩
  have Hown : Hid (w.ownsRow B 54 4 v l.length (l.flatMap stc)) := h.own
  have Hvar : Hid (w.heap[ob]? = some (.cells #[v] 47 (0, 0))) := h.var
  clear hi0 hz0 hz1 hz2 h
  go_enter Try.func28, Try.ntmps28
  go_wp2_with (at_builtin; refine wpList_append_lies _ rfl _ _ 47 rfl B 54 ti _ 4 32 Try.underlying47 HI.out.1 HI.out.2.1 HI.out.2.2.1 HI.out.2.2.2 rfl (by omega) v l.length (l.flatMap stc) rfl ?qown ⟨w.heap.size + 1, 0, none⟩ 1 1 (stc s) rfl rfl ?qnews ?q1 (by omega) ?q63 ?qby ?qb (w.heap.size + 1 + 1) ?qH ?_)
  case qown => exact (Hown.out.alloc _).alloc _
  case qnews =>
    exact World.news_of_block (cs := #[.int .u64 (s.c : Int), .int .u64 s.t, .int .u32 s.k, .int .i64 (s.v : Int)]) (t := 54) (fr := (0, 0)) (by
      have q := Deep.blk_alloc_new (w.alloc (.cells #[.int .u64 s.t, .int .u32 s.k] 39)) (.cells #[.int .u64 (s.c : Int), .int .u64 s.t, .int .u32 s.k, .int .i64 (s.v : Int)] 54)
      simpa using q)
  case q1 => simp [Value.oneCell', stc]
  case q63 => unfold maxLen; omega
  case qby => omega
  case qb => simp; omega
  case qH => simp
  intro g cap w1 hown1 hgrow hat hlt
  have e1 : w1.heap[ob]? = w.heap[ob]? := by
    rw [hgrow.block ob (by simp; omega) hap, Deep.blk_alloc_lt _ _ _ (by simp; omega), Deep.blk_alloc_lt _ _ _ hob]
  have v1 : w1.heap[ob]? = some (.cells #[v] 47 (0, 0)) := e1.trans Hvar.out
  have c1 := cell_of_one v1
  have f1 := free_of_one v1
  have HG : Hid (w1.ownsRow B 54 4 (.slice (some ⟨g, 0, none⟩) (l.length + 1) cap) (l.length + 1) (l.flatMap stc ++ stc s) ∧ ((w.alloc (.cells #[.int .u64 s.t, .int .u32 s.k] 39)).alloc (.cells #[.int .u64 (s.c : Int), .int .u64 s.t, .int .u32 s.k, .int .i64 (s.v : Int)] 54)).grownBy w1 v.ownBlock ∧ w1.heap[ob]? = some (.cells #[v] 47 (0, 0))) := ⟨hown1, hgrow, v1⟩
  clear hown1 hgrow e1 v1 hat
  go_wp2
  go_end0
  obtain ⟨hown1, hgrow, v1⟩ := HG.out
  have hO : Out (w1.setCell ⟨ob, 0, none⟩ (.slice (some ⟨g, 0, none⟩) (l.length + 1) cap)) B ob (.slice (some ⟨g, 0, none⟩) (l.length + 1) cap) (l ++ [s]) := by
    refine ⟨one_setCell v1, ?_⟩
    have hne : (Value.slice (some ⟨g, 0, none⟩) (l.length + 1) cap).ownBlock ≠ some ob := by
      intro e
      have e' : g = ob := by simpa [Value.ownBlock] using e
      rcases hown1.2 with ⟨q, _⟩ | ⟨g2, cap2, cur, hv, _, hg, _⟩
      · cases q
      · simp at hv
        rw [← hv.1, e', v1] at hg
        simp at hg
    have := ownsRow_setCell_other hown1 (a := ⟨ob, 0, none⟩) hne (.slice (some ⟨g, 0, none⟩) (l.length + 1) cap)
    simpa using this
  refine ⟨rfl, ⟨_, hO⟩, hgrow.os, hgrow.tape, hgrow.output, ?_, fun b hb h1 h2 => ?_⟩
  · have := hgrow.size
    simp at this ⊢
    omega
  · rw [Deep.blk_setCell_other _ _ _ _ h1, hgrow.block b (by simp; omega) h2, Deep.blk_alloc_lt _ _ _ (by simp; omega), Deep.blk_alloc_lt _ _ _ hb]
end Go.Proofs.Qxb6604549a
