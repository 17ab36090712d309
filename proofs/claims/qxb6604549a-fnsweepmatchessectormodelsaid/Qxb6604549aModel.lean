import Derived.Test.Qxb6604549aModPlain
import Derived.Test.Qxb6604549aSpan
import Derived.Test.Qxb6604549aTv
import Derived.BigQuiet
import Derived.Test.Qxb6604549aZs
import Derived.Test.Qxb6604549aTot
namespace Go.Proofs.Qxb6604549a
open Go.RowKit
set_option linter.unusedVariables false
set_option linter.unusedSimpArgs false

theorem Try.info34' : (Try.prog.info? 34).map (fun i => (i.zero, i.size, i.bytes)) = some (some (.int .u64 0), 1, 8) := by kernel_rfl

theorem Try.info55' : (Try.prog.info? 55).map (fun i => (i.zero, i.size, i.bytes)) = some (some (.agg #[.int .u64 0, .int .u32 0]), 2, 16) := by kernel_rfl
theorem Try.info3' : (Try.prog.info? 3).map (fun i => (i.zero, i.size, i.bytes)) = some (some (.int .i64 0), 1, 8) := by kernel_rfl
theorem Try.info57' : (Try.prog.info? 57).map (fun i => (i.zero, i.size, i.bytes)) = some (some (.agg #[.int .u64 0, .int .u64 0, .int .u32 0, .int .i64 0]), 4, 32) := by kernel_rfl

def u64s (l : List Nat) : List Value := l.map (fun x : Nat => .int .u64 (x : Int))

theorem u64s_snoc (l : List Nat) (x : Nat) : u64s (l ++ [x]) = u64s l ++ [.int .u64 (x : Int)] := by simp [u64s]

/-- Growing a row of one's own leaves what is older. -/
theorem below_grown {B : Nat} {w w1 w2 : World} {o : Option Nat} (h : Below B w w1) (hg : w1.grownBy w2 o) (hB : B ≤ w1.heap.size) (ho : ∀ g, o = some g → B ≤ g) : Below B w w2 :=
  ⟨hg.os.trans h.os, hg.tape.trans h.tape, hg.output.trans h.output, Nat.le_trans h.size hg.size, fun b hb => by
    rw [hg.block b (by omega) (fun e => by have := ho b e.symm; omega)]
    exact h.block b hb⟩

/-- The rows of numbers, as the sort wants them. -/
theorem urow_of {w : World} {B : Nat} {v : Value} {l : List Nat} (h : w.ownsRow B 34 1 v l.length (u64s l)) : ∃ eo g cap, v = .slice eo l.length cap ∧ (0 < l.length → eo = some ⟨g, 0, none⟩) ∧ URow w g l.length (fun i => l.getD i 0) ∧ B ≤ g := by
  rcases h.2 with ⟨rfl, h0⟩ | ⟨g, cap, cur, rfl, hg, hh, h1, h2, h3, h4⟩
  · exact ⟨none, B, 0, by rw [h0], fun q => by omega, fun i hi => by omega, Nat.le_refl _⟩
  · refine ⟨_, g, cap, rfl, fun _ => rfl, fun i hi => ⟨?_, ?_⟩, hg⟩
    · rw [World.ownsRow.cellAt h i (by omega)]
      simp [u64s, List.getElem?_eq_getElem hi, List.getD]
    · exact World.ownsRow.frozenAt h i

theorem got_of57 {w : World} {B : Nat} {v : Value} {l : List Stretch} (h : w.ownsRow B 57 4 v l.length (l.flatMap stc)) : ∃ ga g cap, v = .slice ga l.length cap ∧ Got w ga g l ∧ (0 < l.length → B ≤ g) := by
  rcases h.2 with ⟨rfl, h0⟩ | ⟨g, cap, cur, rfl, hg, hh, h1, h2, h3, h4⟩
  · refine ⟨none, 0, 0, by rw [h0], ⟨fun q => by omega, fun i s hs => ?_⟩, fun q => by omega⟩
    have : l = [] := List.eq_nil_of_length_eq_zero h0
    subst this
    simp at hs
  · refine ⟨_, g, cap, rfl, ⟨fun _ => rfl, fun i s hs => ?_⟩, fun _ => hg⟩
    have hlt : i < l.length := by
      rcases Nat.lt_or_ge i l.length with q | q
      · exact q
      · rw [List.getElem?_eq_none q] at hs; cases hs
    have q := stc_at l i s hs
    rw [← h4] at q
    rw [List.getElem?_take_of_lt (by omega), List.getElem?_take_of_lt (by omega), List.getElem?_take_of_lt (by omega), List.getElem?_take_of_lt (by omega)] at q
    simp only [Array.getElem?_toList] at q
    exact ⟨cell_of_blk hh q.1, cell_of_blk hh q.2.1, cell_of_blk hh q.2.2.1, cell_of_blk hh q.2.2.2⟩

/-- What stands through the sweep of the ends. -/
structure MS (w0 w : World) (tb eb n m : Nat) (f : Nat → Nat) (E : Nat → Nat → Sp) (L : Nat → Nat) : Prop where
  below : Below w0.heap.size w0 w
  tots : ∀ i, i < n → w.cell? ⟨tb, i, none⟩ = some (.int .u64 (tot E L i : Int))
  ends : ∀ i, i < m → w.cell? ⟨eb, i, none⟩ = some (.int .u64 (f i : Int))

theorem MS.kept {w0 w w' : World} {tb eb n m : Nat} {f : Nat → Nat} {E : Nat → Nat → Sp} {L : Nat → Nat} (h : MS w0 w tb eb n m f E L) (hb : Below w.heap.size w w') : MS w0 w' tb eb n m f E L :=
  ⟨h.below.trans (hb.mono h.below.size), fun i hi => cell_kept hb (h.tots i hi), fun i hi => cell_kept hb (h.ends i hi)⟩

/-- The best tag's variable, and what lies below it. -/
structure Bt (w wx : World) (tb : Nat) (t k : Int) : Prop where
  var : wx.heap[tb]? = some (.cells #[.int .u64 t, .int .u32 k] 55 (0, 0))
  low : Below tb w wx

theorem Bt.start (w : World) : Bt w (w.alloc (.cells #[.int .u64 0, .int .u32 0] 55)) w.heap.size 0 0 :=
  ⟨Deep.blk_alloc_new _ _, (Below.refl _ _).alloc (Nat.le_refl _) _⟩

theorem Bt.lt {w wx : World} {tb : Nat} {t k : Int} (h : Bt w wx tb t k) : tb < wx.heap.size := lt_of_block h.var

theorem Bt.set {w wx : World} {tb : Nat} {t k : Int} (h : Bt w wx tb t k) (t' k' : Int) : Bt w ((wx.setCell ⟨tb, 0, none⟩ (.int .u64 t')).setCell ⟨tb, 1, none⟩ (.int .u32 k')) tb t' k' :=
  ⟨by have := blk_set1 (a0 := 1) (v0 := .int .u32 k') (blk_set1 (a0 := 0) (v0 := .int .u64 t') h.var); rw [this]; rfl, (h.low.setCell (p := ⟨tb, 0, none⟩) (Nat.le_refl _) _).setCell (p := ⟨tb, 1, none⟩) (Nat.le_refl _) _⟩

theorem take_at {l : List (Int × Int)} {t : Nat} {y : Int × Int} (h : l[t]? = some y) : l.take (t + 1) = l.take t ++ [y] := by
  rw [List.take_add_one, h]; rfl

def ModRet (w : World) (n : Nat) (L : Nat → Nat) (E : Nat → Nat → Sp) (e : Ending) (w' : World) : Prop :=
  ∃ ga g cap out F, e = .returned (.slice ga out.length cap) ∧ Got w' ga g out ∧ chain E L n out 0 F ∧ reach E L F n ≤ n / 2 ∧ Below w.heap.size w w'

set_option maxRecDepth 100000 in
set_option maxHeartbeats 4000000 in
theorem model16 {w : World} {ao : Option Addr} {n nc gb go : Nat} {A : Nat → Option Addr} {L C RB RO : Nat → Nat} {E : Nat → Nat → Sp} (h : Arg w ao n gb go A L C RB RO E) (hn : n ≤ 256) (hL : ∀ k, k < n → L k ≤ 1048576) (hsum : sumN L n ≤ 4096)
    {cn : Nat} (hcn : cn ≤ 18446744073709551615) (hp : Prem n L E cn) :
    Calls Try.prog 16 #[.slice ao n nc] w fun e w' => ModRet w n L E e w' := by
  have Hp : Hid (Prem n L E cn) := hp
  clear hp
  obtain ⟨ti, hi0, hi1, hi2, hi3⟩ := info_parts Try.info34'
  have HI : Hid (Try.prog.info? 34 = some ti ∧ ti.zero = some (.int .u64 0) ∧ ti.size = 1 ∧ ti.bytes = 8) := ⟨hi0, hi1, hi2, hi3⟩
  clear hi0 hi1 hi2 hi3
  obtain ⟨ti55, hi0, hi1, hi2, hi3⟩ := info_parts Try.info55'
  have HI55 : Hid (Try.prog.info? 55 = some ti55 ∧ ti55.zero = some (.agg #[.int .u64 0, .int .u32 0]) ∧ ti55.size = 2 ∧ ti55.bytes = 16) := ⟨hi0, hi1, hi2, hi3⟩
  clear hi0 hi1 hi2 hi3
  obtain ⟨ti3, hi0, hi1, hi2, hi3⟩ := info_parts Try.info3'
  have HI3 : Hid (Try.prog.info? 3 = some ti3 ∧ ti3.zero = some (.int .i64 0) ∧ ti3.size = 1 ∧ ti3.bytes = 8) := ⟨hi0, hi1, hi2, hi3⟩
  clear hi0 hi1 hi2 hi3
  obtain ⟨ti57, hi0, hi1, hi2, hi3⟩ := info_parts Try.info57'
  have HI57 : Hid (Try.prog.info? 57 = some ti57 ∧ ti57.zero = some (.agg #[.int .u64 0, .int .u64 0, .int .u32 0, .int .i64 0]) ∧ ti57.size = 4 ∧ ti57.bytes = 32) := ⟨hi0, hi1, hi2, hi3⟩
  clear hi0 hi1 hi2 hi3
  go_enter Try.func16, Try.ntmps16
  go_wp2_with fail
  refine (tots18 h hn hL cn hcn Hp.out).mono ?_
  rintro e w1 ⟨rfl, hb1, hrow⟩
  have Hrow : Hid (w1.rowIs w.heap.size 34 n (fun i => .int .u64 (tot E L i : Int))) := hrow
  have h1 := h.kept hb1
  have Hb1 : Hid (Below w.heap.size w w1) := hb1
  have hwz : w.heap.size < w1.heap.size := hrow.lt
  clear hrow hb1 h
  go_wp2_with fail
  go_loopw [5, 6] (fun v x wr => ∃ k : Nat, k ≤ n ∧ x = .int .i64 k ∧ Below w1.heap.size w1 wr ∧ wr.ownsRow w1.heap.size 34 1 v (endsTo E L k).length (u64s (endsTo E L k))) (fun _ x _ => n - (intOf x).toNat)
  case atStart => exact ⟨0, Nat.zero_le _, rfl, Below.refl _ _, World.ownsRow_nil _ _ _ _⟩
  case round =>
    obtain ⟨k, hk, rfl, hb, hown⟩ := hrel
    by_cases hkn : k < n
    · obtain rfl := h1.ga (by omega)
      obtain ⟨w0, hw0⟩ : ∃ w0, w0 = wr := ⟨_, rfl⟩
      subst hw0
      have Hb : Hid (Below w1.heap.size w1 w0) := hb
      have Hown : Hid (w0.ownsRow w1.heap.size 34 1 u5 (endsTo E L k).length (u64s (endsTo E L k))) := hown
      have hbz := hb.size
      have hl := hL k hkn
      clear hb hown
      have dk : decide ((k : Int) < (n : Int)) = true := by simp; omega
      go_wp2_with fail
      go_loopw [5, 7, 8] (fun v t x wr => ∃ j : Nat, j ≤ L k ∧ x = .int .i64 j ∧ t = .int .u64 (st E k j : Int) ∧ Below w1.heap.size w1 wr ∧ wr.ownsRow w1.heap.size 34 1 v (endsTo E L k ++ rowEnds E k j).length (u64s (endsTo E L k ++ rowEnds E k j))) (fun _ _ x _ => L k - (intOf x).toNat)
      case atStart => exact ⟨0, Nat.zero_le _, rfl, rfl, Hb.out, by rw [rowEnds, List.append_nil]; exact Hown.out⟩
      case round =>
        clear Hb Hown
        obtain ⟨j, hj, rfl, rfl, hb, hown⟩ := hrel
        have h2 := h1.kept hb
        have hrw := h2.row k hkn
        have hbz2 := hb.size
        by_cases hjl : j < L k
        · have hA := h2.lead k hkn j hjl
          have c0 := h2.c0 k hkn j hjl
          rw [hA] at hrw
          have hsu := st_succ E k j
          have hle := Nat.le_trans (st_mono E k (show j + 1 ≤ L k by omega)) (Hp.out k hkn).2
          have hln : (endsTo E L k ++ rowEnds E k j).length ≤ 4096 := by
            rw [List.length_append, endsTo_len, rowEnds_len]
            have := sumN_mono L (show k + 1 ≤ n by omega)
            rw [sumN_succ] at this
            omega
          obtain ⟨x, hx1⟩ : ∃ x, x = st E k j := ⟨_, rfl⟩
          obtain ⟨c, hc1⟩ : ∃ c, c = (E k j).c := ⟨_, rfl⟩
          obtain ⟨l, hl1⟩ : ∃ l, l = endsTo E L k ++ rowEnds E k j := ⟨_, rfl⟩
          rw [← hl1] at hown hln
          rw [← hc1] at c0
          rw [← hx1, ← hc1] at hsu
          rw [← hx1]
          rw [hsu] at hle
          have Hsu : Hid (st E k (j + 1) = x + c) := hsu
          have Hl1 : Hid (l = endsTo E L k ++ rowEnds E k j) := hl1
          have Hb : Hid (Below w1.heap.size w1 wr) := hb
          have Hown : Hid (wr.ownsRow w1.heap.size 34 1 u5 l.length (u64s l)) := hown
          have dj : decide ((j : Int) < (L k : Int)) = true := by simp; omega
          clear hx1 hc1 hsu hl1 hb hown h2 hA
          go_wp2_with (at_builtin; refine wpList_append_lies _ rfl _ _ 58 rfl w1.heap.size 34 ti _ 1 8 Try.underlying58 HI.out.1 HI.out.2.1 HI.out.2.2.1 HI.out.2.2.2 rfl (by omega) u5 l.length (u64s l) rfl ?qown ⟨wr.heap.size, 0, none⟩ 1 1 [.int .u64 ((x + c : Nat) : Int)] rfl rfl ?qnews ?q1 (by omega) ?q63 ?qby ?qb (wr.heap.size + 1) ?qH ?_)
          case qown => exact Hown.out.alloc _
          case qnews => exact World.news_of_block (cs := #[.int .u64 ((x + c : Nat) : Int)]) (t := 34) (fr := (0, 0)) (by simpa using Deep.blk_alloc_new _ _)
          case q1 => simp [Value.oneCell']
          case q63 => unfold maxLen; omega
          case qby => omega
          case qb => simp; omega
          case qH => simp
          intro g cap w2 hown1 hgrow hat hlt
          have hb2 : Below w1.heap.size w1 w2 := below_grown (Hb.out.alloc Hb.out.size _) hgrow (by simp; omega) (fun g e => (Hown.out.lt g e).1)
          have HX : Hid (Below w1.heap.size w1 w2 ∧ w2.ownsRow w1.heap.size 34 1 (.slice (some ⟨g, 0, none⟩) (l.length + 1) cap) (l.length + 1) (u64s l ++ [.int .u64 ((x + c : Nat) : Int)])) := ⟨hb2, hown1⟩
          clear hown1 hgrow hat hb2
          go_wp2
          go_roundw
          case rel =>
            refine ⟨j + 1, by omega, by go_num, by rw [Hsu.out]; go_num, HX.out.1, ?_⟩
            rw [rowEnds, ← List.append_assoc, ← Hl1.out, Hsu.out, u64s_snoc, List.length_append]
            exact HX.out.2
          case measure => simp [intOf]; omega
        · obtain rfl : L k = j := by omega
          have Hb : Hid (Below w1.heap.size w1 wr) := hb
          have Hown : Hid (wr.ownsRow w1.heap.size 34 1 u5 (endsTo E L (k + 1)).length (u64s (endsTo E L (k + 1)))) := hown
          have dj : decide ((L k : Int) < (L k : Int)) = false := by simp
          clear hb hown h2
          go_wp2
          go_roundw
          case rel => exact ⟨k + 1, by omega, by go_num, Hb.out, Hown.out⟩
          case measure => simp [intOf]; omega
    · obtain rfl : n = k := by omega
      obtain ⟨eo, g, cap, rfl, heo, hU, hg⟩ := urow_of hown
      have hm := endsTo_len E L n
      rw [hm] at hU heo hown ⊢
      have dk : decide ((n : Int) < (n : Int)) = false := by simp
      have Hb : Hid (Below w1.heap.size w1 wr) := hb
      have hbz := hb.size
      obtain ⟨m, hm1⟩ : ∃ m, m = sumN L n := ⟨_, rfl⟩
      rw [← hm1] at hU heo hsum ⊢
      have Hm : Hid (m = sumN L n) := hm1
      have HU : Hid (URow wr g m (fun i => (endsTo E L n).getD i 0)) := hU
      have Heo : Hid (0 < m → eo = some ⟨g, 0, none⟩) := heo
      clear hb hm hown hm1 hU heo
      go_wp2_with fail
      refine (sort19 Heo.out HU.out (by omega)).mono ?_
      rintro e w2 ⟨rfl, hO, f, hU2, hs, hc⟩
      have hE : Ends E L n m f := by
        rw [Hm.out] at hs hc ⊢
        exact ends_of hs hc
      have hb2 : Below w1.heap.size w1 w2 := hO.below Hb.out hg
      have HMS : Hid (MS w2 w2 w.heap.size g n m f E L) := ⟨Below.refl _ _, fun i hi => cell_kept hb2 (Hrow.out.cell hi), fun i hi => (hU2 i hi).1⟩
      have HE : Hid (Ends E L n m f) := hE
      have h2 := h1.kept hb2
      have Hb2 : Hid (Below w.heap.size w w2) := Hb1.out.trans (hb2.mono Hb1.out.size)
      clear hO hU2 hs hc hE HU Hb Hrow Hb1 h1 hb2
      go_wp2_with fail
      go_loopw [9, 10, 11] (fun v q x wr => ∃ (k p : Nat) (out : List Stretch), k ≤ m ∧ x = .int .i64 k ∧ q = .int .u64 p ∧ p ≤ cn ∧ (∀ i, i < k → f i ≤ p) ∧ chain E L n out 0 p ∧ Below w2.heap.size w2 wr ∧ wr.ownsRow w2.heap.size 57 4 v out.length (out.flatMap stc)) (fun _ _ x _ => m - (intOf x).toNat)
      case atStart => exact ⟨0, 0, [], Nat.zero_le _, rfl, rfl, Nat.zero_le _, fun i hi => absurd hi (Nat.not_lt_zero _), rfl, Below.refl _ _, World.ownsRow_nil _ _ _ _⟩
      case round =>
        obtain ⟨k, p, out, hk, rfl, rfl, hpc, hbef, hch, hbr, hown⟩ := hrel
        obtain ⟨w6, hw6⟩ : ∃ w6, w6 = wr := ⟨_, rfl⟩
        subst hw6
        have Hch : Hid (chain E L n out 0 p) := hch
        have Hown : Hid (w6.ownsRow w2.heap.size 57 4 u9 out.length (out.flatMap stc)) := hown
        have Hbef : Hid (∀ i, i < k → f i ≤ p) := hbef
        have Hbr : Hid (Below w2.heap.size w2 w6) := hbr
        have HM6 : Hid (MS w2 w6 w.heap.size g n m f E L) := HMS.out.kept hbr
        have h6 := h2.kept hbr
        have hbz := hbr.size
        clear hch hbef hbr
        by_cases hkm : k < m
        · have hck := HM6.out.ends k hkm
          have heo := Heo.out (by omega)
          have dk : decide ((k : Int) < (m : Int)) = true := by simp; omega
          subst heo
          clear hown
          by_cases hfp : f k ≤ p
          · have df : decide ((f k : Int) ≤ (p : Int)) = true := by simp; omega
            go_wp2
            go_roundw
            case rel => exact ⟨k + 1, p, out, by omega, by go_num, rfl, hpc, fun i hi => by by_cases e : i = k; (subst e; exact hfp); exact Hbef.out i (by omega), Hch.out, Hbr.out, Hown.out⟩
            case measure => simp [intOf]; omega
          · have df : decide ((f k : Int) ≤ (p : Int)) = false := by simp; omega
            go_wp2_with fail
            go_loop [13, 14] (fun r x => ∃ i : Nat, i ≤ n ∧ x = .int .i64 i ∧ r = .int .i64 (reach E L p i : Int)) (fun _ x => n - (intOf x).toNat)
            case atStart => exact ⟨0, Nat.zero_le _, rfl, rfl⟩
            case round =>
              obtain ⟨i, hi, rfl, rfl⟩ := hrel
              have hrl := reach_le E L p i
              by_cases hin : i < n
              · have hct := HM6.out.tots i hin
                have di : decide ((i : Int) < (n : Int)) = true := by simp; omega
                have hrs : reach E L p (i + 1) = reach E L p i + (if p < ext E L i then 1 else 0) := rfl
                obtain ⟨r, hr1⟩ : ∃ r, r = reach E L p i := ⟨_, rfl⟩
                rw [← hr1] at hrs hrl ⊢
                have Hrs : Hid (reach E L p (i + 1) = r + (if p < ext E L i then 1 else 0)) := hrs
                obtain ⟨x, hx1⟩ : ∃ x, x = tot E L i := ⟨_, rfl⟩
                rw [← hx1] at hct
                have Hx1 : Hid (x = ext E L i) := hx1
                clear hr1 hrs hx1
                by_cases hpx : p < x
                · have dx : decide ((p : Int) < (x : Int)) = true := by simp; omega
                  go_wp2_with fail
                  go_round
                  case rel => exact ⟨i + 1, by omega, by go_num, by rw [Hrs.out, if_pos (by rw [← Hx1.out]; exact hpx)]; go_num⟩
                  case measure => simp [intOf]; omega
                · have dx : decide ((p : Int) < (x : Int)) = false := by simp; omega
                  go_wp2_with fail
                  go_round
                  case rel => exact ⟨i + 1, by omega, by go_num, by rw [Hrs.out, if_neg (by rw [← Hx1.out]; exact hpx)]; go_num⟩
                  case measure => simp [intOf]; omega
              · obtain rfl : n = i := by omega
                have di : decide ((n : Int) < (n : Int)) = false := by simp
                obtain ⟨r, hr1⟩ : ∃ r, r = reach E L p n := ⟨_, rfl⟩
                rw [← hr1] at hrl ⊢
                have Hr1 : Hid (r = reach E L p n) := hr1
                clear hr1
                by_cases hrn : r ≤ n / 2
                · have dr : decide ((r : Int) ≤ (n : Int) / 2) = true := by simp; omega
                  have dr' : decide (r ≤ n / 2) = true := by simp; omega
                  obtain ⟨ga, g', cap', rfl, hG, _⟩ := got_of57 Hown.out
                  have HX : Hid (Got w6 ga g' out) := hG
                  clear hG
                  go_wp2
                  go_ret
                  exact ⟨ga, g', cap', out, p, rfl, HX.out, Hch.out, by rw [← Hr1.out]; exact hrn, Hb2.out.trans (Hbr.out.mono Hb2.out.size)⟩
                · have dr : decide ((r : Int) ≤ (n : Int) / 2) = false := by simp; omega
                  have dr' : decide (r ≤ n / 2) = false := by simp; omega
                  have Hkm : Hid (k < m) := hkm
                  clear hck hkm hrl
                  go_wp2_with fail
                  go_loopw [15, 16, 17] (fun vt vv x wr => ∃ i : Nat, i ≤ n ∧ x = .int .i64 i ∧ TV w6 wr vt vv (holes E L p i)) (fun _ _ x _ => n - (intOf x).toNat)
                  case atStart => exact ⟨0, Nat.zero_le _, rfl, TV.start _⟩
                  case round =>
                    obtain ⟨i, hi, rfl, hTV⟩ := hrel
                    obtain ⟨w7, hw7⟩ : ∃ w7, w7 = wr := ⟨_, rfl⟩
                    subst hw7
                    have HTV : Hid (TV w6 w7 u15 u16 (holes E L p i)) := hTV
                    by_cases hin : i < n
                    · clear hTV
                      have di : decide ((i : Int) < (n : Int)) = true := by simp; omega
                      have hct := cell_kept HTV.out.below (HM6.out.tots i hin)
                      have h7 := h6.kept HTV.out.below
                      obtain rfl := h6.ga (by omega)
                      have hrw := h7.row i hin
                      have Hho : Hid (holes E L p (i + 1) = holes E L p i ++ (if p < ext E L i ∧ (E i (idx E L i p)).h = true then [((E i (idx E L i p)).t, (E i (idx E L i p)).k)] else [])) := rfl
                      obtain ⟨x, hx1⟩ : ∃ x, x = tot E L i := ⟨_, rfl⟩
                      rw [← hx1] at hct
                      have Hx1 : Hid (x = ext E L i) := hx1
                      clear hx1
                      by_cases hpx : x ≤ p
                      · have dx : decide ((x : Int) ≤ (p : Int)) = true := by simp; omega
                        go_wp2_with fail
                        go_roundw
                        case rel => exact ⟨i + 1, by omega, by go_num, by rw [Hho.out, if_neg (fun q => by have := q.1; rw [← Hx1.out] at this; omega), List.append_nil]; exact HTV.out⟩
                        case measure => simp [intOf]; omega
                      · have dx : decide ((x : Int) ≤ (p : Int)) = false := by simp; omega
                        have HS : Hid (Calls Try.prog 29 #[.slice (A i) (L i) (C i), .int .u64 (p : Int)] w7 fun e w' => SpRet w7 (E i (idx E L i p)) e w') :=
                          span29 h7 i hin (hL i hin) (Hp.out i hin).1 hcn (Hp.out i hin).2 p (by rw [← Hx1.out]; omega)
                        go_wp2_with fail
                        refine HS.out.mono ?_
                        rintro e w8 ⟨rfl, hb8⟩
                        clear HS
                        rw [spAgg]
                        have HTV8 : Hid (TV w6 w8 u15 u16 (holes E L p i)) := HTV.out.kept hb8
                        have Hpx : Hid (p < ext E L i) := by show _ < _; rw [← Hx1.out]; omega
                        obtain ⟨s, hs⟩ : ∃ s, s = E i (idx E L i p) := ⟨_, rfl⟩
                        rw [← hs]
                        rw [← hs] at Hho
                        clear hs hct hrw h7 hb8 HTV Hx1
                        cases hh : s.h
                        · go_wp2_with fail
                          go_roundw
                          case rel => exact ⟨i + 1, by omega, by go_num, by rw [Hho.out, if_neg (fun q => by have := q.2; rw [hh] at this; cases this), List.append_nil]; exact HTV8.out.kept ((Below.refl _ _).alloc (Nat.le_refl _) _)⟩
                          case measure => simp [intOf]; omega
                        · obtain ⟨hl, hl1⟩ : ∃ hl, hl = holes E L p i := ⟨_, rfl⟩
                          have hll : (uniq hl).length ≤ 256 := by
                            have a := uniq_len hl
                            have b := holes_len E L p i
                            rw [← hl1] at b
                            omega
                          rw [← hl1] at HTV8 Hho
                          have Hl1 : Hid (hl = holes E L p i) := hl1
                          clear hl1
                          have Hho2 : Hid (holes E L p (i + 1) = hl ++ [(s.t, s.k)]) := by
                            show _ = _
                            rw [Hho.out, if_pos ⟨Hpx.out, hh⟩]
                          clear Hho
                          obtain ⟨w9, hw9⟩ : ∃ w9, w9 = w8.alloc (.cells #[.int .u64 (s.c : Int), .int .u64 s.t, .int .u32 s.k, .bool true] 74) := ⟨_, rfl⟩
                          have y1 : w9.cell? ⟨w8.heap.size, 1, none⟩ = some (.int .u64 s.t) := by rw [hw9]; exact cell_of_blk (Deep.blk_alloc_new _ _) rfl
                          have y2 : w9.cell? ⟨w8.heap.size, 2, none⟩ = some (.int .u32 s.k) := by rw [hw9]; exact cell_of_blk (Deep.blk_alloc_new _ _) rfl
                          have hTV9 : TV w6 w9 u15 u16 hl := by rw [hw9]; exact HTV8.out.kept ((Below.refl _ _).alloc (Nat.le_refl _) _)
                          have HTV9 : Hid (TV w6 w9 u15 u16 hl) := hTV9
                          obtain ⟨to, vo, gt, gv, ct, cv, rfl, rfl, hgt, hgv, hat⟩ := hTV9.at
                          have Hat : Hid (TVat w9 to vo gt gv hl) := hat
                          clear hat hTV9 HTV8
                          go_wp2_with fail
                          rw [← hw9]
                          clear hw9
                          go_loopw [19, 20] (fun fd x wr => ∃ t : Nat, t ≤ (uniq hl).length ∧ x = .int .i64 t ∧ fd = .int .i64 (-1) ∧ Hid (∀ r y, r < t → (uniq hl)[r]? = some y → y ≠ (s.t, s.k)) ∧ Below w9.heap.size w9 wr) (fun _ x _ => (uniq hl).length - (intOf x).toNat)
                          case atStart => exact ⟨0, Nat.zero_le _, rfl, rfl, fun r y hr => absurd hr (Nat.not_lt_zero _), Below.refl _ _⟩
                          case round =>
                            obtain ⟨t, ht, rfl, rfl, hno, hbx⟩ := hrel
                            have y1 := cell_kept hbx y1
                            have y2 := cell_kept hbx y2
                            have HTVr : Hid (TV w6 wr (.slice to (uniq hl).length ct) (.slice vo (uniq hl).length cv) hl) := HTV9.out.kept hbx
                            have Hatr : Hid (TVat wr to vo gt gv hl) := ⟨Hat.out.lead, fun i x hx => ⟨cell_kept hbx (Hat.out.tag i x hx).1, cell_kept hbx (Hat.out.tag i x hx).2⟩, fun i x hx => ⟨cell_kept hbx (Hat.out.vote i x hx).1, HTVr.out.frozen (Hat.out.lead) hx⟩⟩
                            have Hbx : Hid (Below w9.heap.size w9 wr) := hbx
                            clear hbx
                            by_cases htl : t < (uniq hl).length
                            · obtain ⟨y, hy⟩ : ∃ y, (uniq hl)[t]? = some y := ⟨_, List.getElem?_eq_getElem htl⟩
                              have hld := Hatr.out.lead (by omega)
                              obtain ⟨rfl, rfl⟩ := hld
                              obtain ⟨z1, z2⟩ := Hatr.out.tag t y hy
                              obtain ⟨z3, z4⟩ := Hatr.out.vote t y hy
                              have dt : decide ((t : Int) < ((uniq hl).length : Int)) = true := by simp; omega
                              have Hy : Hid ((uniq hl)[t]? = some y) := hy
                              clear hy
                              have hcnt : cnt y hl ≤ 256 := by
                                have a := cnt_le y hl
                                have b := holes_len E L p i
                                rw [← Hl1.out] at b
                                omega
                              by_cases hye : y = (s.t, s.k)
                              · have e1 : y.1 = s.t := by rw [hye]
                                have e2 : y.2 = s.k := by rw [hye]
                                rw [e1] at z1
                                rw [e2] at z2
                                have Hye : Hid (y = (s.t, s.k)) := hye
                                obtain ⟨c, hc1⟩ : ∃ c, c = cnt y hl := ⟨_, rfl⟩
                                rw [← hc1] at z3 hcnt
                                have Hc1 : Hid (c = cnt y hl) := hc1
                                clear hye e1 e2 hc1
                                go_wp2_with fail
                                go_quiet (fail)
                                obtain ⟨wx, hwx⟩ : ∃ wx, wx = wr.drewN nq := ⟨_, rfl⟩
                                have z3' : wx.cell? ⟨gv, t, none⟩ = some (.int .i64 (c : Int)) := by rw [hwx]; exact cell_kept (below_drewN (Below.refl _ _) _) z3
                                have HTVx : Hid (TV w6 wx (.slice (some ⟨gt, 0, none⟩) (uniq hl).length ct) (.slice (some ⟨gv, 0, none⟩) (uniq hl).length cv) hl) := by rw [hwx]; exact HTVr.out.kept (below_drewN (Below.refl _ _) _)
                                have z4' : wx.frozen? ⟨gv, t, none⟩ = false := HTVx.out.frozen (fun _ => ⟨rfl, rfl⟩) Hy.out
                                rw [← hwx]
                                clear hwx z1 z2 z3 z4 y1 y2
                                go_wp2_with fail
                                go_roundw
                                case rel =>
                                  refine ⟨i + 1, by omega, by go_num, ?_⟩
                                  rw [Hho2.out, ← Hye.out]
                                  have := HTVx.out.vote Hy.out
                                  rw [← Hc1.out] at this
                                  exact this
                                case measure => simp [intOf]; omega
                              · have hno2 : Hid (∀ r y, r < t + 1 → (uniq hl)[r]? = some y → y ≠ (s.t, s.k)) := fun r x hr hx => by
                                  by_cases q : r = t
                                  · subst q
                                    rw [Hy.out] at hx
                                    cases hx
                                    exact hye
                                  · exact hno.out r x (by omega) hx
                                obtain ⟨y1', y2'⟩ := y
                                by_cases q1 : y1' = s.t
                                · have d7 : (y2' == s.k) = false := by
                                    rw [beq_eq_false_iff_ne]
                                    exact fun q2 => hye (by rw [q1, q2])
                                  subst q1
                                  clear hye
                                  go_wp2_with fail
                                  go_quiet (fail)
                                  go_wp2_with fail
                                  go_roundw
                                  case rel => exact ⟨t + 1, by omega, by go_num, rfl, hno2, below_drewN Hbx.out _⟩
                                  case measure => simp [intOf]; omega
                                · have d6 : (y1' == s.t) = false := by
                                    rw [beq_eq_false_iff_ne]
                                    exact q1
                                  clear hye
                                  go_wp2_with fail
                                  go_quiet (fail)
                                  go_wp2_with fail
                                  go_roundw
                                  case rel => exact ⟨t + 1, by omega, by go_num, rfl, hno2, below_drewN Hbx.out _⟩
                                  case measure => simp [intOf]; omega
                            · obtain rfl : (uniq hl).length = t := by omega
                              have dt : decide (((uniq hl).length : Int) < ((uniq hl).length : Int)) = false := by simp
                              have hnew : (s.t, s.k) ∉ uniq hl := fun q => by
                                obtain ⟨r, hr, e⟩ := List.getElem_of_mem q
                                exact hno.out r _ hr (List.getElem?_eq_getElem hr) e
                              have Hnew : Hid ((s.t, s.k) ∉ uniq hl) := hnew
                              clear hnew hno
                              go_wp2_with (at_builtin; refine wpList_append_lies _ rfl _ _ 83 rfl w6.heap.size 55 ti55 _ 2 16 Try.underlying83 HI55.out.1 HI55.out.2.1 HI55.out.2.2.1 HI55.out.2.2.2 rfl (by omega) (.slice to (uniq hl).length ct) (uniq hl).length ((uniq hl).flatMap tagc) rfl ?qown ⟨wr.heap.size, 0, none⟩ 1 1 (tagc (s.t, s.k)) rfl rfl ?qnews ?q1 (by omega) ?q63 ?qby ?qb (wr.heap.size + 1) ?qH ?_)
                              case qown => exact HTVr.out.tags.alloc _
                              case qnews => exact World.news_of_block (cs := #[.int .u64 s.t, .int .u32 s.k]) (t := 55) (fr := (0, 0)) (by simpa using Deep.blk_alloc_new _ _)
                              case q1 => simp [Value.oneCell', tagc]
                              case q63 => unfold maxLen; omega
                              case qby => omega
                              case qb => have := HTVr.out.below.size; simp; omega
                              case qH => simp
                              intro g1 cap1 wa hown1 hgrow1 hat1 hlt1
                              have hbA : Below wr.heap.size wr (wr.alloc (.cells #[.int .u64 s.t, .int .u32 s.k] 55)) := (Below.refl _ _).alloc (Nat.le_refl _) _
                              have hbB : Below wa.heap.size wa (wa.alloc (.cells #[.int .i64 1] 3)) := (Below.refl _ _).alloc (Nat.le_refl _) _
                              have hvo2 := HTVr.out.votes2 hbA hgrow1 hbB
                              have HV2 : Hid ((wa.alloc (.cells #[.int .i64 1] 3)).ownsRow w6.heap.size 3 1 (.slice vo (uniq hl).length cv) (uniq hl).length (vts hl (uniq hl))) := hvo2
                              have hwaz : w6.heap.size ≤ wa.heap.size := by
                                have a := HTVr.out.below.size
                                have b := hgrow1.size
                                simp at b
                                omega
                              have HG1 : Hid (Below wr.heap.size wr (wr.alloc (.cells #[.int .u64 s.t, .int .u32 s.k] 55)) ∧ (wr.alloc (.cells #[.int .u64 s.t, .int .u32 s.k] 55)).grownBy wa (Value.slice to (uniq hl).length ct).ownBlock ∧ wa.ownsRow w6.heap.size 55 2 (.slice (some ⟨g1, 0, none⟩) ((uniq hl).length + 1) cap1) ((uniq hl).length + 1) ((uniq hl).flatMap tagc ++ tagc (s.t, s.k)) ∧ Below wa.heap.size wa (wa.alloc (.cells #[.int .i64 1] 3))) := ⟨hbA, hgrow1, hown1, hbB⟩
                              clear hvo2 hbA hbB hown1 hgrow1 hat1 y1 y2
                              go_wp2_with (at_builtin; refine wpList_append_lies _ rfl _ _ 84 rfl w6.heap.size 3 ti3 _ 1 8 Try.underlying84 HI3.out.1 HI3.out.2.1 HI3.out.2.2.1 HI3.out.2.2.2 rfl (by omega) (.slice vo (uniq hl).length cv) (uniq hl).length (vts hl (uniq hl)) rfl ?qown ⟨wa.heap.size, 0, none⟩ 1 1 [.int .i64 1] rfl rfl ?qnews ?q1 (by omega) ?q63 ?qby ?qb (wa.heap.size + 1) ?qH ?_)
                              case qown => exact HV2.out
                              case qnews => exact World.news_of_block (cs := #[.int .i64 1]) (t := 3) (fr := (0, 0)) (by simpa using Deep.blk_alloc_new _ _)
                              case q1 => simp [Value.oneCell']
                              case q63 => unfold maxLen; omega
                              case qby => omega
                              case qb => simp; omega
                              case qH => simp
                              intro g2 cap2 wb hown2 hgrow2 hat2 hlt2
                              have hadd : TV w6 wb (.slice (some ⟨g1, 0, none⟩) ((uniq hl).length + 1) cap1) (.slice (some ⟨g2, 0, none⟩) ((uniq hl).length + 1) cap2) (hl ++ [(s.t, s.k)]) :=
                                HTVr.out.add Hnew.out HG1.out.1 HG1.out.2.1 HG1.out.2.2.1 HG1.out.2.2.2 hgrow2 hown2
                              have HA : Hid (TV w6 wb (.slice (some ⟨g1, 0, none⟩) ((uniq hl).length + 1) cap1) (.slice (some ⟨g2, 0, none⟩) ((uniq hl).length + 1) cap2) (hl ++ [(s.t, s.k)])) := hadd
                              clear hadd hown2 hgrow2 hat2 HG1 HV2
                              go_wp2_with fail
                              go_roundw
                              case rel => exact ⟨i + 1, by omega, by go_num, by rw [Hho2.out]; exact HA.out⟩
                              case measure => simp [intOf]; omega
                    · obtain rfl : n = i := by omega
                      have di : decide ((n : Int) < (n : Int)) = false := by simp
                      clear hTV
                      obtain ⟨hl, hl1⟩ : ∃ hl, hl = holes E L p n := ⟨_, rfl⟩
                      have hb1 := holes_len E L p n
                      rw [← hl1] at HTV hb1
                      have hll : (uniq hl).length ≤ 256 := by
                        have a := uniq_len hl
                        omega
                      have Hl1 : Hid (hl = holes E L p n) := hl1
                      clear hl1
                      obtain ⟨to, vo, gt, gv, ct, cv, rfl, rfl, hgt, hgv, hat⟩ := HTV.out.at
                      have Hat : Hid (TVat w7 to vo gt gv hl) := hat
                      clear hat
                      go_wp2_with fail
                      go_loopw [22, 23] (fun vv x wr => ∃ (t bv : Nat) (bt bk : Int), t ≤ (uniq hl).length ∧ x = .int .i64 t ∧ vv = .int .i64 bv ∧ bv ≤ 256 ∧ Hid (((bt, bk), bv) = pick hl ((0, 0), 0) ((uniq hl).take t)) ∧ Bt w7 wr w7.heap.size bt bk) (fun _ x _ => (uniq hl).length - (intOf x).toNat)
                      case atStart => exact ⟨0, 0, 0, 0, Nat.zero_le _, rfl, rfl, Nat.zero_le _, rfl, Bt.start _⟩
                      case round =>
                        obtain ⟨t, bv, bt, bk, ht, rfl, rfl, hbv, hpk, hB⟩ := hrel
                        have HB : Hid (Bt w7 wr w7.heap.size bt bk) := hB
                        obtain ⟨tb, htb⟩ : ∃ tb, tb = w7.heap.size := ⟨_, rfl⟩
                        rw [← htb] at hB HB ⊢
                        have Htb : Hid (tb = w7.heap.size) := htb
                        have tc0 : wr.cell? ⟨tb, 0, none⟩ = some (.int .u64 bt) := cell_of_blk hB.var rfl
                        have tc1 : wr.cell? ⟨tb, 1, none⟩ = some (.int .u32 bk) := cell_of_blk hB.var rfl
                        have tf : ∀ o, wr.frozen? ⟨tb, o, none⟩ = false := fun o => frozen_of_blk hB.var
                        have hlow : Below w7.heap.size w7 wr := by rw [← htb]; exact hB.low
                        have Hlow : Hid (Below w7.heap.size w7 wr) := hlow
                        clear htb
                        by_cases htl : t < (uniq hl).length
                        · obtain ⟨y, hy⟩ : ∃ y, (uniq hl)[t]? = some y := ⟨_, List.getElem?_eq_getElem htl⟩
                          have hld := Hat.out.lead (by omega)
                          obtain ⟨rfl, rfl⟩ := hld
                          have z1 := cell_kept hlow (Hat.out.tag t y hy).1
                          have z2 := cell_kept hlow (Hat.out.tag t y hy).2
                          have z3 := cell_kept hlow (Hat.out.vote t y hy).1
                          have hgl : gv ≠ tb := by
                            have := World.block_lt_of_cell? _ _ (Hat.out.vote t y hy).1
                            rw [Htb.out]
                            simp at this
                            omega
                          have z4 : ∀ a b, ((wr.setCell ⟨tb, 0, none⟩ a).setCell ⟨tb, 1, none⟩ b).cell? ⟨gv, t, none⟩ = some (.int .i64 ((cnt y hl : Nat) : Int)) := fun a b => by
                            rw [World.cell?_setCell_other _ _ _ _ (fun e => hgl (by have := congrArg Addr.block e; simp at this; omega)), World.cell?_setCell_other _ _ _ _ (fun e => hgl (by have := congrArg Addr.block e; simp at this; omega))]; exact z3
                          have dt : decide ((t : Int) < ((uniq hl).length : Int)) = true := by simp; omega
                          have hcnt : cnt y hl ≤ 256 := by
                            have a := cnt_le y hl
                            omega
                          have hnext : Hid (pick hl ((0, 0), 0) ((uniq hl).take (t + 1)) = if bv < cnt y hl then (y, cnt y hl) else ((bt, bk), bv)) := by
                            show _ = _
                            rw [take_at hy, pick_snoc, ← hpk.out]
                          obtain ⟨c, hc1⟩ : ∃ c, c = cnt y hl := ⟨_, rfl⟩
                          rw [← hc1] at z3 z4 hcnt hnext
                          obtain ⟨y1, y2⟩ := y
                          clear hc1 hy hlow hB
                          by_cases hvc : bv < c
                          · have d8 : decide ((bv : Int) < (c : Int)) = true := by simp; omega
                            go_wp2_with fail
                            go_roundw
                            case rel => exact ⟨t + 1, c, y1, y2, by omega, by go_num, rfl, by omega, by show _ = _; rw [hnext.out, if_pos hvc], HB.out.set y1 y2⟩
                            case measure => simp [intOf]; omega
                          · have d8 : decide ((bv : Int) < (c : Int)) = false := by simp; omega
                            go_wp2_with fail
                            go_roundw
                            case rel => exact ⟨t + 1, bv, bt, bk, by omega, by go_num, rfl, by omega, by show _ = _; rw [hnext.out, if_neg hvc], HB.out⟩
                            case measure => simp [intOf]; omega
                        · obtain rfl : (uniq hl).length = t := by omega
                          have dt : decide (((uniq hl).length : Int) < ((uniq hl).length : Int)) = false := by simp
                          have hpf : ((bt, bk), bv) = pick hl ((0, 0), 0) hl := by
                            have := hpk.out
                            rw [List.take_of_length_le (Nat.le_refl _), pick_uniq] at this
                            exact this
                          have hrp : 0 < reach E L p n := by rw [← Hr1.out]; omega
                          have hnx := ends_next hcn Hp.out HE.out Hkm.out Hbef.out (by omega) hrp
                          have hsl := step_le hcn Hp.out hrp
                          rw [← hnx] at hsl
                          have hst : stretchAt E L n p = ⟨f k - p, bt, bk, bv⟩ := by
                            unfold stretchAt
                            rw [← Hl1.out, ← hpf, hnx]
                            simp
                          have hbel : Below w6.heap.size w6 wr := HTV.out.below.trans (hlow.mono HTV.out.below.size)
                          have Hbel : Hid (Below w6.heap.size w6 wr) := hbel
                          have hownr := own_kept Hown.out hbel
                          have Hownr : Hid (wr.ownsRow w2.heap.size 57 4 u9 out.length (out.flatMap stc)) := hownr
                          have hol : out.length ≤ 4096 := by
                            have := chain_short hcn Hp.out Hch.out
                            rw [← Hm.out] at this
                            omega
                          have Hst : Hid (stretchAt E L n p = ⟨f k - p, bt, bk, bv⟩) := hst
                          have Hnx : Hid (f k = p + least E L p n) := hnx
                          have hsl2 := hsl.2
                          have hz1 := hbel.size
                          have hz2 := hB.lt
                          obtain ⟨q, hq⟩ : ∃ q, q = f k := ⟨_, rfl⟩
                          have Hq : Hid (q = f k) := hq
                          rw [← hq] at hsl2 hfp ⊢
                          clear hq hst hnx hsl hbel hownr hpf hpk hlow hB
                          go_wp2_with (at_builtin; refine wpList_append_lies _ rfl _ _ 51 rfl w2.heap.size 57 ti57 _ 4 32 Try.underlying51 HI57.out.1 HI57.out.2.1 HI57.out.2.2.1 HI57.out.2.2.2 rfl (by omega) u9 out.length (out.flatMap stc) rfl ?qown ⟨wr.heap.size, 0, none⟩ 1 1 [.int .u64 ((q : Int) - (p : Int)), .int .u64 bt, .int .u32 bk, .int .i64 (bv : Int)] rfl rfl ?qnews ?q1 (by omega) ?q63 ?qby ?qb (wr.heap.size + 1) ?qH ?_)
                          case qown => exact Hownr.out.alloc _
                          case qnews => exact World.news_of_block (cs := #[.int .u64 ((q : Int) - (p : Int)), .int .u64 bt, .int .u32 bk, .int .i64 (bv : Int)]) (t := 57) (fr := (0, 0)) (by simpa using Deep.blk_alloc_new _ _)
                          case q1 => simp [Value.oneCell']
                          case q63 => unfold maxLen; omega
                          case qby => omega
                          case qb => simp; omega
                          case qH => simp
                          intro g1 cap1 wa hown1 hgrow1 hat1 hlt1
                          have hbA : Below w2.heap.size w2 wr := Hbr.out.trans (Hbel.out.mono Hbr.out.size)
                          have hbB : Below w2.heap.size w2 wa := below_grown (hbA.alloc hbA.size _) hgrow1 (by simp; omega) (fun g e => (Hownr.out.lt g e).1)
                          have hcs : [Value.int .u64 ((q : Int) - (p : Int)), .int .u64 bt, .int .u32 bk, .int .i64 (bv : Int)] = stc ⟨f k - p, bt, bk, bv⟩ := by
                            rw [← Hq.out]
                            have : ((q - p : Nat) : Int) = (q : Int) - (p : Int) := by omega
                            simp [stc, this]
                          rw [hcs, ← Hst.out] at hown1
                          have HX : Hid (Below w2.heap.size w2 wa ∧ wa.ownsRow w2.heap.size 57 4 (.slice (some ⟨g1, 0, none⟩) (out.length + 1) cap1) (out ++ [stretchAt E L n p]).length ((out ++ [stretchAt E L n p]).flatMap stc)) := by
                            refine ⟨hbB, ?_⟩
                            rw [List.length_append, List.flatMap_append]
                            have e3 : [stretchAt E L n p].flatMap stc = stc (stretchAt E L n p) := by simp
                            rw [e3]
                            exact hown1
                          clear hown1 hgrow1 hat1 hcs hbA hbB
                          go_wp2_with fail
                          go_roundw
                          case rel =>
                            refine ⟨k + 1, q, out ++ [stretchAt E L n p], by have := Hkm.out; omega, by go_num, rfl, hsl2, fun i hi => ?_, ?_, HX.out.1, HX.out.2⟩
                            · by_cases e : i = k
                              · subst e; rw [Hq.out]; exact Nat.le_refl _
                              · have := Hbef.out i (by omega); omega
                            · have := chain_snoc out Hch.out (by rw [← Hr1.out]; omega)
                              rw [← Hnx.out, ← Hq.out] at this
                              exact this
                          case measure => have := Hkm.out; simp [intOf]; omega
        · obtain rfl : m = k := by omega
          obtain ⟨ga, g', cap', rfl, hG, _⟩ := got_of57 hown
          have hz := ends_out HE.out Hbef.out
          have dk : decide ((m : Int) < (m : Int)) = false := by simp
          have HX : Hid (Got w6 ga g' out) := hG
          clear hG hown
          go_wp2
          go_ret
          exact ⟨ga, g', cap', out, p, rfl, HX.out, Hch.out, by omega, Hb2.out.trans (Hbr.out.mono Hb2.out.size)⟩
end Go.Proofs.Qxb6604549a
