import Derived.Test.Qxb6603828aFlat
import Derived.Test.Qxb6603828aZVis
import Derived.Test.Qxb6603828aZz
import Derived.Deep.RegionHeld3
import Derived.Deep.DrawnRows
import Derived.Deep.RegionLaw
import Derived.Deep.AppendLies
namespace Go.Proofs.Qxb6603828a
open Go.RowKit
attribute [local go_sem ↓] Go.wp_at_zero Go.wp_at_succ

theorem run_make43c (n : Nat) (h : n ≤ 43690) (w : World) : (Instr.makeSlice 38 (.int .i64 0) (.int .i64 (n : Int))).run Try.prog w =
    .ok (.slice (some ⟨w.heap.size, 0, none⟩) 0 n) (w.alloc (.cells (madeCells #[.int .u64 0, .int .u64 0, .int .u8 0, .bool false] (n * 4)) 43)) := by
  obtain ⟨i, hi, hzz⟩ := Option.map_eq_some_iff.1 Try.info43
  simp only [Prod.mk.injEq] at hzz
  obtain ⟨hz, hs, hb⟩ := hzz
  have := run_make (P := Try.prog) w 38 43 i _ Try.underlying38 hi hz .i64 .i64 0 (n : Int) (by omega) (by omega) (by rw [hb]; omega) (by omega)
  rw [this, hs]
  rfl

theorem ElRow.spare {w W : World} {g l j : Nat} {Ek : Nat → El} (h : ElRow w g l j Ek) (hj : j < l) (e : W.heap[g]? = w.heap[g]?) (news : List Value) (hn : news.length = 4) :
    ∀ i, i < news.length → (W.cell? ⟨g, 0 + j * 4 + i, none⟩).isSome = true ∧ W.frozen? ⟨g, 0 + j * 4 + i, none⟩ = false := by
  obtain ⟨c, h1, h2, _⟩ := h
  intro i hi
  rw [← e] at h1
  have : 0 + j * 4 + i < c.size := by omega
  simp only [World.cell?, World.frozen?, h1]
  simp
  omega

theorem cell_sets {w : World} {g b o a : Nat} {vs : List Value} (h : b ≠ g) : (w.setCells g a vs).cell? ⟨b, o, none⟩ = w.cell? ⟨b, o, none⟩ :=
  World.cell?_setCells_out g vs a w ⟨b, o, none⟩ (fun e _ => absurd e h)

theorem ElRow.puts {w W : World} {g l j : Nat} {Ek : Nat → El} (h : ElRow w g l j Ek) (hj : j < l) (e2 : W.heap[g]? = w.heap[g]?) (e : El) (he : Ek j = e) :
    ElRow (W.setCells g (0 + j * 4) [.int .u64 e.v, .int .u64 e.o, .int .u8 e.k, .bool e.r]) g l (j + 1) Ek := by
  subst he
  rw [Nat.zero_add]
  exact h.put hj e2

theorem below_sets {B : Nat} {a : World} {g : Nat} (hg : B ≤ g) : ∀ (vs : List Value) (o : Nat) (w : World), Below B a w → Below B a (w.setCells g o vs)
  | [], _, _, h => h
  | v :: r, o, w, h => below_sets hg r (o + 1) (w.setCell ⟨g, o, none⟩ v) (h.setCell hg v)

theorem flat_step {w3 wr w1 w2 : World} {f t c : Nat} {F : Nat → El} (Hb : Below w3.heap.size w3 wr) (hfz : w3.heap.size = f) (hb1 : Below wr.drew.heap.size wr.drew w1) (hb2 : Below w1.heap.size w1 w2)
    (h : ElRow wr f t c F) (hc : c < t) (e : El) (he : F c = e) :
    Below w3.heap.size w3 ((w2.alloc (.cells #[.int .u64 e.v, .int .u64 e.o, .int .u8 e.k, .bool e.r] 43)).setCells f (0 + c * 4) [.int .u64 e.v, .int .u64 e.o, .int .u8 e.k, .bool e.r]) ∧
    ElRow ((w2.alloc (.cells #[.int .u64 e.v, .int .u64 e.o, .int .u8 e.k, .bool e.r] 43)).setCells f (0 + c * 4) [.int .u64 e.v, .int .u64 e.o, .int .u8 e.k, .bool e.r]) f t (c + 1) F := by
  have hb1' := below_of_drew hb1
  have s1 : wr.heap.size ≤ w1.heap.size := hb1'.size
  have hf := h.lt
  have hf1 : f < w1.heap.size := by omega
  have hf2 : f < w2.heap.size := by have := hb2.size; omega
  have h1 : Below w3.heap.size w3 w2 := Hb.trans ((hb1'.trans (hb2.mono s1)).mono Hb.size)
  refine ⟨below_sets (a := w3) (by omega) _ _ _ (h1.alloc h1.size _), h.puts hc ?_ e he⟩
  rw [Deep.blk_alloc_lt _ _ _ hf2, hb2.block f hf1, hb1'.block f hf]

/-- The one-block sequence. -/
theorem one_seqM {wr : World} {f t : Nat} {F : Nat → El} (vis : Int) (h : ElRow wr f t t F) (o1 : Obj) :
    SeqM ((((wr.alloc o1).alloc (.cells (blkCells (some ⟨f, 0, none⟩) t t vis) 66)).alloc (.cells #[.pointer (some ⟨wr.heap.size + 1, 0, none⟩)] 47)).alloc (.cells (seqCells (some ⟨wr.heap.size + 1 + 1, 0, none⟩) 1 1 vis) 64))
      (wr.heap.size + 1 + 1 + 1) (wr.heap.size + 1 + 1) 1 1 (fun _ => wr.heap.size + 1) (fun _ => f) (fun _ => t) (fun _ => t) (fun _ => F) (fun _ => vis) vis := by
  have hf := h.lt
  have b3 := Deep.blk_alloc_new (((wr.alloc o1).alloc (.cells (blkCells (some ⟨f, 0, none⟩) t t vis) 66)).alloc (.cells #[.pointer (some ⟨wr.heap.size + 1, 0, none⟩)] 47)) (.cells (seqCells (some ⟨wr.heap.size + 1 + 1, 0, none⟩) 1 1 vis) 64)
  have b2 := Deep.blk_alloc_new ((wr.alloc o1).alloc (.cells (blkCells (some ⟨f, 0, none⟩) t t vis) 66)) (.cells #[.pointer (some ⟨wr.heap.size + 1, 0, none⟩)] 47)
  have b1 := Deep.blk_alloc_new (wr.alloc o1) (.cells (blkCells (some ⟨f, 0, none⟩) t t vis) 66)
  simp only [World.size_alloc] at b1 b2 b3
  rw [← Deep.blk_alloc_lt _ (.cells (seqCells (some ⟨wr.heap.size + 1 + 1, 0, none⟩) 1 1 vis) 64) _ (by simp)] at b2
  rw [← Deep.blk_alloc_lt _ (.cells #[.pointer (some ⟨wr.heap.size + 1, 0, none⟩)] 47) _ (by simp), ← Deep.blk_alloc_lt _ (.cells (seqCells (some ⟨wr.heap.size + 1 + 1, 0, none⟩) 1 1 vis) 64) _ (by simp)] at b1
  have he : ElRow ((((wr.alloc o1).alloc (.cells (blkCells (some ⟨f, 0, none⟩) t t vis) 66)).alloc (.cells #[.pointer (some ⟨wr.heap.size + 1, 0, none⟩)] 47)).alloc (.cells (seqCells (some ⟨wr.heap.size + 1 + 1, 0, none⟩) 1 1 vis) 64)) f t t F :=
    h.of_block (by rw [Deep.blk_alloc_lt _ _ _ (by simp; omega), Deep.blk_alloc_lt _ _ _ (by simp; omega), Deep.blk_alloc_lt _ _ _ (by simp; omega), Deep.blk_alloc_lt _ _ _ hf])
  have hbl : ∀ k, k < 1 → ((((wr.alloc o1).alloc (.cells (blkCells (some ⟨f, 0, none⟩) t t vis) 66)).alloc (.cells #[.pointer (some ⟨wr.heap.size + 1, 0, none⟩)] 47)).alloc (.cells (seqCells (some ⟨wr.heap.size + 1 + 1, 0, none⟩) 1 1 vis) 64)).cell? ⟨wr.heap.size + 1 + 1, k, none⟩ = some (.pointer (some ⟨wr.heap.size + 1, 0, none⟩)) := by
    intro k hk
    obtain rfl : k = 0 := by omega
    exact cell_of_blk b2 rfl
  exact ⟨cell_of_blk b3 rfl, cell_of_blk b3 rfl, hbl, fun k _ => cell_of_blk b1 rfl, fun k _ => cell_of_blk b1 rfl,
    fun k _ j hj => (he.cells hj).1, fun k _ j hj => (he.cells hj).2.1, fun k _ j hj => (he.cells hj).2.2.1, fun k _ j hj => (he.cells hj).2.2.2⟩

set_option maxRecDepth 100000 in
set_option maxHeartbeats 2000000 in
theorem cuts4 {w : World} {ao : Option Addr} {n nc gb go : Nat} {A : Nat → Option Addr} {L C RB RO : Nat → Nat} {E : Nat → Nat → El} (h : Arg w ao n gb go A L C RB RO E)
    {vo : Option Addr} {m mc vb vf : Nat} {V : Nat → Int} (hv : VArg w vo m vb vf V) (hm : m ≤ 9223372036854775807) (vis pos : Int) :
    Calls Try.prog 4 #[.slice ao n nc, .slice vo m mc, .int .i64 vis, .int .i64 pos] w fun e w' => e = .returned (.bool true) ∧ Below w.heap.size w w' := by
  go_enter Try.func4, Try.ntmps4
  go_wp2_with fail
  refine (zz14 h vo m mc hm _ _).mono ?_
  rintro e w1 ⟨⟨b1, rfl⟩, rfl⟩
  cases b1
  · go_wp2
    go_ret
    exact ⟨rfl, Below.refl _ _⟩
  go_wp2_with fail
  refine (size9 h vo m mc hm).mono ?_
  rintro e w1 ⟨⟨b1, rfl, hsz⟩, rfl⟩
  cases b1
  · go_wp2
    go_ret
    exact ⟨rfl, Below.refl _ _⟩
  have hs := hsz rfl
  clear hsz
  go_wp2_with fail
  refine (well10 h hv vis hs).mono ?_
  rintro e w1 ⟨⟨b1, rfl, hwf⟩, rfl⟩
  cases b1
  · go_wp2
    go_ret
    exact ⟨rfl, Below.refl _ _⟩
  obtain ⟨rfl, hV, hvis⟩ := hwf rfl
  clear hwf
  by_cases p1 : pos < 0
  · have d1 : decide (pos < (0 : Int)) = true := by simp; omega
    go_wp2
    go_ret
    exact ⟨rfl, Below.refl _ _⟩
  have d1 : decide (pos < (0 : Int)) = false := by simp; omega
  by_cases p2 : vis ≤ pos
  · have d2 : decide (vis ≤ pos) = true := by simp; omega
    go_wp2
    go_ret
    exact ⟨rfl, Below.refl _ _⟩
  have d2 : decide (vis ≤ pos) = false := by simp; omega
  have HV : Hid (∀ k, k < m → V k = cntR (RR E k) (L k)) := hV
  have Hvis : Hid (vis = before (RR E) L m) := hvis
  clear hV hvis
  go_wp2_with fail
  refine (build11 h hv vis hs).mono ?_
  rintro e w2 ⟨sb, P, G, rfl, hB⟩
  go_wp2_with fail
  refine (zvis12 hB.seqM hs HV.out pos (by omega) (by rw [← Hvis.out]; omega)).mono ?_
  rintro e w3 ⟨⟨b, i, rfl, hat⟩, hb3⟩
  have hb13 : Below w1.heap.size w1 w3 := hB.out.below.trans (hb3.mono hB.out.below.size)
  have h3 := h.kept hb13
  obtain rfl := h.ga (by have := hat.1; omega)
  have hm := hs.n
  clear hB hb3 hv
  go_wp2_with fail
  -- the total
  go_loop [13, 14] (fun s x => ∃ (k t : Nat), k ≤ m ∧ x = .int .i64 k ∧ s = .int .i64 t ∧ t ≤ 43690 ∧ Hid (t = sumN L k)) (fun _ x => m - (intOf x).toNat)
  case atStart => exact ⟨0, 0, Nat.zero_le _, rfl, rfl, by omega, rfl⟩
  case round =>
    obtain ⟨k, t, hk, rfl, rfl, ht1, ht⟩ := hrel
    by_cases hkm : k < m
    · have hrow := h3.row k hkm
      have hl := hs.row hkm
      have hsum := hs.sum (show k + 1 ≤ m by omega)
      rw [show sumN L (k + 1) = sumN L k + L k from rfl, ← ht.out] at hsum
      go_wp2
      go_round
      case rel => exact ⟨k + 1, t + L k, by omega, by go_num, by go_num, by omega, by show _ = _; rw [show sumN L (k + 1) = sumN L k + L k from rfl, ← ht.out]⟩
      case measure => simp [intOf]; omega
    · obtain rfl : m = k := by omega
      have hmk := run_make43c t ht1
      obtain ⟨f, hfz⟩ : ∃ f, w3.heap.size = f := ⟨_, rfl⟩
      go_wp2_with fail
      clear hmk
      -- the flat row
      go_loopw [15, 16] (fun v x wr => ∃ (k c : Nat), k ≤ m ∧ x = .int .i64 k ∧ v = .slice (some ⟨f, 0, none⟩) c t ∧ c ≤ t ∧ Hid (c = sumN L k) ∧ Below w3.heap.size w3 wr ∧ ElRow wr f t c (flatE E L m)) (fun _ x _ => m - (intOf x).toNat)
      case atStart =>
        subst hfz
        exact ⟨0, 0, Nat.zero_le _, rfl, rfl, Nat.zero_le _, rfl, (Below.refl _ _).alloc (Nat.le_refl _) _, _, Deep.blk_alloc_new _ _, size_madeCells _ _, fun i hi => absurd hi (Nat.not_lt_zero _)⟩
      case round =>
        obtain ⟨k, c, hk, rfl, rfl, hct, hc, hb, hrw⟩ := hrel
        by_cases hkm : k < m
        · go_wp2_with fail
          go_loopw [15, 17] (fun v x wr => ∃ (j c : Nat), j ≤ L k ∧ x = .int .i64 j ∧ v = .slice (some ⟨f, 0, none⟩) c t ∧ c ≤ t ∧ Hid (c = sumN L k + j) ∧ Below w3.heap.size w3 wr ∧ ElRow wr f t c (flatE E L m)) (fun _ x _ => L k - (intOf x).toNat)
          case atStart => exact ⟨0, c, Nat.zero_le _, rfl, rfl, hct, hc, hb, hrw⟩
          case round =>
            clear hb hrw hc hct
            obtain ⟨j, c, hj, rfl, rfl, hct, hc, hb, hrw⟩ := hrel
            have h4 := h3.kept hb
            have hrow := h4.row k hkm
            have hl := hs.row hkm
            by_cases hjl : j < L k
            · rw [h.lead k hkm j hjl] at hrow
              have c0 := h4.c0 k hkm j hjl
              have c1 := h4.c1 k hkm j hjl
              have c2 := h4.c2 k hkm j hjl
              have c3 := h4.c3 k hkm j hjl
              have hclt : c < t := by
                have e1 := sumN_mono L (show k + 1 ≤ m by omega)
                have e2 : sumN L (k + 1) = sumN L k + L k := rfl
                have e3 := hc.out
                have e4 := ht.out
                omega
              have n1 : gb ≠ f := by have := World.block_lt_of_cell? _ _ (h3.row k hkm); simp at this; omega
              have n2 : RB k ≠ f := by have := World.block_lt_of_cell? _ _ (h3.c0 k hkm j hjl); simp at this; omega
              have b3 : f < wr.heap.size := hrw.lt
              have jz0 : (0 : Int) ≤ (j : Int) := by omega
              have jz1 : (j : Int) < (L k : Int) := by omega
              have kz0 : (0 : Int) ≤ (k : Int) := by omega
              have kz1 : (k : Int) < (m : Int) := by omega
              obtain ⟨i0, hi0, hz0, hz1, hz2⟩ := info_parts Try.info43
              have HI0 : Hid (Try.prog.info? 43 = some i0) := hi0
              have HZ1 : Hid (i0.size = 4) := hz1
              have Hrw : Hid (ElRow wr f t c (flatE E L m)) := hrw
              have Hb : Hid (Below w3.heap.size w3 wr) := hb
              have Hcut : Hid (c + 1 ≤ t) := hclt
              have Hfz : Hid (w3.heap.size = f) := hfz
              clear hi0 hz0 hz1 hz2 hrw hb h4 hfz
              go_wp2_with fail
              go_region_held3 (fun w' => w'.cell? ⟨gb, go + k, none⟩ = some (.slice (some ⟨RB k, RO k, none⟩) (L k) (C k)) ∧ w'.cell? ⟨RB k, RO k + j * 4, none⟩ = some (.int .u64 (E k j).v) ∧ w'.cell? ⟨RB k, RO k + j * 4 + 1, none⟩ = some (.int .u64 (E k j).o) ∧ w'.cell? ⟨RB k, RO k + j * 4 + 2, none⟩ = some (.int .u8 (E k j).k) ∧ w'.cell? ⟨RB k, RO k + j * 4 + 3, none⟩ = some (.bool (E k j).r))
                (((try dsimp only); (try go_split_ands); refine ⟨?_, ?_, ?_, ?_, ?_⟩ <;> first | (rw [cell_sets n1]; assumption) | (rw [cell_sets n2]; assumption) | (with_reducible refine cell_old ?_ _; assumption) | (apply cell_kept; assumption; first | assumption | (simp; assumption)) | go_keep))
                (first
                  | (go_at_call 16; refine (uuid16 (E k j).v (E k j).o (E k j).k (E k j).r _).mono ?_; rintro e w1 ⟨rfl, hb1⟩; have b4 : f < w1.heap.size := Nat.lt_of_lt_of_le b3 hb1.size; have e4 : Hid (w1.heap[f]? = wr.heap[f]?) := hb1.block f b3)
                  | (go_at_call 15; refine (elem15 (E k j).v (E k j).o (E k j).k (E k j).r _).mono ?_; rintro e w2 ⟨rfl, hb2⟩; have b5 : f < w2.heap.size := Nat.lt_of_lt_of_le b4 hb2.size; have e5 : Hid (w2.heap[f]? = wr.heap[f]?) := (hb2.block f b4).trans e4.out)
                  | (refine step_append_room (by rfl) _ _ 38 (by rfl) 43 i0 4 Try.underlying38 HI0.out HZ1.out f 0 c t (by rfl) ⟨w2.heap.size, 0, none⟩ 1 1 [.int .u64 (E k j).v, .int .u64 (E k j).o, .int .u8 (E k j).k, .bool (E k j).r] (by rfl) (by rfl) (World.news_of_block (cs := #[.int .u64 (E k j).v, .int .u64 (E k j).o, .int .u8 (E k j).k, .bool (E k j).r]) (t := 43) (fr := (0, 0)) (heap_alloc_new w2 _)) (by simp [Value.oneCell']) Hcut.out (Hrw.out.spare Hcut.out ((Deep.blk_alloc_lt _ _ _ b5).trans e5.out) _ rfl) ?_))
              have R := flat_step Hb.out Hfz.out hb1 hb2 Hrw.out Hcut.out (E k j) (by rw [hc.out]; exact flatE_at E L hkm hjl)
              generalize ((w2.alloc (.cells #[.int .u64 (E k j).v, .int .u64 (E k j).o, .int .u8 (E k j).k, .bool (E k j).r] 43)).setCells f (0 + c * 4) [.int .u64 (E k j).v, .int .u64 (E k j).o, .int .u8 (E k j).k, .bool (E k j).r]) = W at R ⊢
              have HR : Hid (Below w3.heap.size w3 W ∧ ElRow W f t (c + 1) (flatE E L m)) := R
              clear R
              go_wp2
              go_roundw
              case rel => exact ⟨j + 1, c + 1, by omega, by go_num, rfl, Hcut.out, by have := hc.out; show _ = _; omega, HR.out.1, HR.out.2⟩
              case measure => simp [intOf]; omega
            · obtain rfl : L k = j := by omega
              go_wp2
              go_roundw
              case rel => exact ⟨k + 1, c, by omega, by go_num, rfl, hct, hc, hb, hrw⟩
              case measure => simp [intOf]; omega
        · obtain rfl : m = k := by omega
          have hct' : c = t := by rw [hc.out, ht.out]
          subst hct'
          have Hrw : Hid (ElRow wr f c c (flatE E L m)) := hrw
          have Hb : Hid (Below w3.heap.size w3 wr) := hb
          clear hrw hb hfz
          go_wp2_with fail
          refine (block18 _ _ _ _ _).mono ?_
          rintro e w4 ⟨rfl, rfl⟩
          go_wp2_with fail
          refine (seq17 _ _ _ _ _).mono ?_
          rintro e w4 ⟨rfl, rfl⟩
          go_wp2_with fail
          have HS := one_seqM vis Hrw.out (.cells #[.int .u64 0, .int .u64 0, .int .u8 0] 41)
          have hb5 : Below w3.heap.size w3 ((((wr.alloc (.cells #[.int .u64 0, .int .u64 0, .int .u8 0] 41)).alloc (.cells (blkCells (some ⟨f, 0, none⟩) c c vis) 66)).alloc (.cells #[.pointer (some ⟨wr.heap.size + 1, 0, none⟩)] 47)).alloc (.cells (seqCells (some ⟨wr.heap.size + 1 + 1, 0, none⟩) 1 1 vis) 64)) := by
            have q := Hb.out.size
            exact (((Hb.out.alloc q _).alloc (by simp; omega) _).alloc (by simp; omega) _).alloc (by simp; omega) _
          have hS1 : Sz 1 0 (fun _ => c) := by
            have e1 := hat.1
            obtain ⟨q1, q2, q3⟩ := hs
            rw [← hc.out] at q3
            refine ⟨by omega, by omega, ?_⟩
            simp only [sumN]
            omega
          have hV1 : ∀ k, k < 1 → (fun _ => vis) k = ((cntR (RR (fun _ => flatE E L m) k) ((fun _ : Nat => c) k) : Nat) : Int) := by
            intro k _
            show vis = ((cntR (fun i => (flatE E L m i).r) c : Nat) : Int)
            rw [hc.out, flat_before E L m (Nat.le_refl _), Hvis.out]
          have hP1 : pos < ((before (RR (fun _ => flatE E L m)) (fun _ => c) 1 : Nat) : Int) := by
            have q := hV1 0 (by omega)
            have q2 : before (RR (fun _ => flatE E L m)) (fun _ => c) 1 = 0 + cntR (RR (fun _ => flatE E L m) 0) c := rfl
            rw [q2, Nat.zero_add]
            rw [← show vis = _ from q]
            omega
          have hat2 := flat_isAt hat
          rw [← hc.out] at hat2
          have Hat2 : Hid (IsAt (RR (fun _ => flatE E L m)) (fun _ => c) 1 pos.toNat 0 (sumN L b + i)) := hat2
          have HB5 := hb5
          clear hat2 hb5
          generalize ((((wr.alloc (.cells #[.int .u64 0, .int .u64 0, .int .u8 0] 41)).alloc (.cells (blkCells (some ⟨f, 0, none⟩) c c vis) 66)).alloc (.cells #[.pointer (some ⟨wr.heap.size + 1, 0, none⟩)] 47)).alloc (.cells (seqCells (some ⟨wr.heap.size + 1 + 1, 0, none⟩) 1 1 vis) 64)) = W5 at HS HB5 ⊢
          generalize wr.heap.size + 1 + 1 + 1 = sb5 at HS ⊢
          refine (zvis12 HS hS1 hV1 pos (by omega) hP1).mono ?_
          rintro e w6 ⟨⟨b1, i1, rfl, hat1⟩, hb6⟩
          obtain ⟨hb0, hi0⟩ := isAt_unique hat1 Hat2.out
          subst hb0
          subst hi0
          have hb36 : Below w3.heap.size w3 w6 := HB5.trans (hb6.mono HB5.size)
          have h6 := h3.kept hb36
          obtain ⟨hbn, hil, hr, hrank⟩ := hat
          have hrow := h6.row b hbn
          have hlb := hs.row hbn
          clear HS hS1 hV1 hP1 HB5 hb6 hat1 hr hrank Hrw Hb
          have d5 : decide ((b : Int) < 0) = false := by simp
          have d6 : decide ((m : Int) ≤ (b : Int)) = false := by simp; omega
          have d7 : decide ((i : Int) < 0) = false := by simp
          have d8 : decide ((L b : Int) ≤ (i : Int)) = false := by simp; omega
          go_wp2_with fail
          go_loop [21, 22] (fun s x => ∃ (k t : Nat), k ≤ b ∧ x = .int .i64 k ∧ s = .int .i64 t ∧ t ≤ 43690 ∧ Hid (t = sumN L k)) (fun _ x => b - (intOf x).toNat)
          case atStart => exact ⟨0, 0, Nat.zero_le _, rfl, rfl, by omega, rfl⟩
          case round =>
            clear hrow
            obtain ⟨k, u, hk, rfl, rfl, hu1, hu⟩ := hrel
            by_cases hkb : k < b
            · have hrow := h6.row k (by omega)
              have hl := hs.row (show k < m by omega)
              have hsum := hs.sum (show k + 1 ≤ m by omega)
              rw [show sumN L (k + 1) = sumN L k + L k from rfl, ← hu.out] at hsum
              go_wp2
              go_round
              case rel => exact ⟨k + 1, u + L k, by omega, by go_num, by go_num, by omega, by show _ = _; rw [show sumN L (k + 1) = sumN L k + L k from rfl, ← hu.out]⟩
              case measure => simp [intOf]; omega
            · obtain rfl : b = k := by omega
              have d9 : (((sumN L b : Nat) : Int) + (i : Int) == (u : Int) + (i : Int)) = true := by rw [hu.out]; simp
              go_wp2
              go_ret
              exact ⟨rfl, hb13.trans (hb36.mono hb13.size)⟩
end Go.Proofs.Qxb6603828a
