import Derived.Test.Qxb6603828aReads
import Derived.Test.Qxb6603828aZVis
import Derived.Test.Qxb6603828aZz
namespace Go.Proofs.Qxb6603828a
open Go.RowKit
set_option linter.unusedVariables false
set_option linter.unusedSimpArgs false

theorem cnt_exists (R : Nat → Bool) (l x : Nat) (h : x < cntR R l) : ∃ i, i < l ∧ R i = false ∧ cntR R i = x := by
  induction l with
  | zero => simp [cntR] at h
  | succ l ih =>
    by_cases h' : x < cntR R l
    · obtain ⟨i, a, b, c⟩ := ih h'
      exact ⟨i, by omega, b, c⟩
    · cases hr : R l
      · rw [cntR_hit hr] at h
        exact ⟨l, by omega, hr, by omega⟩
      · rw [cntR_miss hr] at h
        exact absurd h h'

theorem exists_at (R : Nat → Nat → Bool) (L : Nat → Nat) (N s : Nat) (h : s < before R L N) : ∃ b i, IsAt R L N s b i := by
  induction N with
  | zero => simp [before, sumN] at h
  | succ N ih =>
    by_cases h' : s < before R L N
    · obtain ⟨b, i, a, c⟩ := ih h'
      exact ⟨b, i, by omega, c⟩
    · rw [before_succ] at h
      obtain ⟨i, a, b, c⟩ := cnt_exists (R N) (L N) (s - before R L N) (by omega)
      exact ⟨N, i, by omega, a, b, by omega⟩

theorem run_make41f (n : Nat) (h : n ≤ 65536) (w : World) : (Instr.makeSlice 50 (.int .i64 (n : Int)) (.int .i64 (n : Int))).run Try.prog w =
    .ok (.slice (some ⟨w.heap.size, 0, none⟩) n n) (w.alloc (.cells (madeCells #[.int .u64 0, .int .u64 0, .int .u8 0] (n * 3)) 41)) := by
  obtain ⟨i, hi, hzz⟩ := Option.map_eq_some_iff.1 Try.info41
  simp only [Prod.mk.injEq] at hzz
  obtain ⟨hz, hs, hb⟩ := hzz
  have := run_make (P := Try.prog) w 50 41 i _ Try.underlying50 hi hz .i64 .i64 (n : Int) (n : Int) (by omega) (by omega) (by rw [hb]; omega) (by omega)
  rw [this, hs]
  rfl

/-- The sequence stands, t events are laid in the row f. -/
structure Wt (w wr : World) (sb m f cn t pn : Nat) (P G L : Nat → Nat) (E : Nat → Nat → El) (V : Nat → Int) (vis : Int) : Prop where
  sq : SeqW wr sb w.heap.size m P G L E V vis
  below : Below w.heap.size w wr
  ev : EvRow wr f cn t m pn L E
  far : ¬ OfSeq sb w.heap.size m P G f
  f0 : w.heap.size ≤ f

theorem wt_start {w w3 : World} {sb m cn pn : Nat} {P G L : Nat → Nat} {E : Nat → Nat → El} {V : Nat → Int} {vis : Int} (h : SeqW w3 sb w.heap.size m P G L E V vis) (hb : Below w.heap.size w w3) :
    Wt w (w3.alloc (.cells (madeCells #[.int .u64 0, .int .u64 0, .int .u8 0] (cn * 3)) 41)) sb m w3.heap.size cn 0 pn P G L E V vis :=
  ⟨h.carry (fun b hb' => Deep.blk_alloc_lt _ _ _ (h.lt hb')), hb.alloc hb.size _, ⟨_, Deep.blk_alloc_new _ _, size_madeCells _ _, fun k j s _ _ _ hs _ => absurd hs (Nat.not_lt_zero _)⟩,
    fun hc => absurd (h.lt hc) (Nat.lt_irrefl _), hb.size⟩

theorem wt_step {w wr w4 w5 : World} {sb m f cn t pn : Nat} {P G L : Nat → Nat} {E : Nat → Nat → El} {V : Nat → Int} {vis : Int} (h : Wt w wr sb m f cn t pn P G L E V vis) (h4 : Below wr.heap.size wr w4) (h5 : Below w4.heap.size w4 w5)
    (ht : t < cn) {b i : Nat} (hat : IsAt (RR E) L m (pn + t) b i) :
    Wt w (((w5.setCell ⟨f, t * 3, none⟩ (.int .u64 (E b i).v)).setCell ⟨f, t * 3 + 1, none⟩ (.int .u64 (E b i).o)).setCell ⟨f, t * 3 + 2, none⟩ (.int .u8 (E b i).k)) sb m f cn (t + 1) pn P G L E V vis := by
  have h45 : Below wr.heap.size wr w5 := h4.trans (h5.mono h4.size)
  have far : ∀ c, c ≠ f → (((w5.setCell ⟨f, t * 3, none⟩ (.int .u64 (E b i).v)).setCell ⟨f, t * 3 + 1, none⟩ (.int .u64 (E b i).o)).setCell ⟨f, t * 3 + 2, none⟩ (.int .u8 (E b i).k)).heap[c]? = w5.heap[c]? := fun c hc => by
    rw [Deep.blk_setCell_other _ _ _ _ hc, Deep.blk_setCell_other _ _ _ _ hc, Deep.blk_setCell_other _ _ _ _ hc]
  refine ⟨h.sq.carry (fun c hc => ?_), ?_, ?_, h.far, h.f0⟩
  · rw [far c (fun e => h.far (e ▸ hc)), h45.block c (h.sq.lt hc)]
  · exact (((h.below.trans (h45.mono h.below.size)).setCell (p := ⟨f, t * 3, none⟩) h.f0 _).setCell (p := ⟨f, t * 3 + 1, none⟩) h.f0 _).setCell (p := ⟨f, t * 3 + 2, none⟩) h.f0 _
  · have := h.ev.put ht (h45.block f h.ev.lt) hat
    rw [Nat.zero_add] at this
    exact this

theorem EvRow.room {w : World} {g cap t N r : Nat} {L : Nat → Nat} {E : Nat → Nat → El} (h : EvRow w g cap t N r L E) (ht : t < cap) :
    (∃ x0 x1 x2, w.cell? ⟨g, t * 3, none⟩ = some x0 ∧ w.cell? ⟨g, t * 3 + 1, none⟩ = some x1 ∧ w.cell? ⟨g, t * 3 + 2, none⟩ = some x2) ∧ ∀ o, w.frozen? ⟨g, o, none⟩ = false := by
  obtain ⟨c, h1, h2, _⟩ := h
  refine ⟨⟨c[t * 3], c[t * 3 + 1], c[t * 3 + 2], ?_, ?_, ?_⟩, fun o => frozen_of_blk h1⟩ <;> simp [World.cell?, h1]

set_option maxRecDepth 100000 in
set_option maxHeartbeats 2000000 in
theorem shifts6 {w : World} {ao : Option Addr} {n nc gb go : Nat} {A : Nat → Option Addr} {L C RB RO : Nat → Nat} {E : Nat → Nat → El} (h : Arg w ao n gb go A L C RB RO E)
    {vo : Option Addr} {m mc vb vf : Nat} {V : Nat → Int} (hv : VArg w vo m vb vf V) (hm : m ≤ 9223372036854775807) (vis p c q : Int) :
    Calls Try.prog 6 #[.slice ao n nc, .slice vo m mc, .int .i64 vis, .int .i64 p, .int .i64 c, .int .i64 q] w fun e w' => e = .returned (.bool true) ∧ Below w.heap.size w w' := by
  go_enter Try.func6, Try.ntmps6
  go_wp2_with fail
  refine (zz26 h vo m mc hm _ _ _ _).mono ?_
  rintro e w1 ⟨⟨b1, rfl⟩, rfl⟩
  cases b1
  · go_wp2
    go_ret
    exact ⟨rfl, Below.refl _ _⟩
  go_wp2_with fail
  refine (size9 h vo m mc hm).mono ?_
  rintro e w1 ⟨⟨b1, rfl, hsz⟩, rfl⟩
  cases b1
  · go_wp2
    go_ret
    exact ⟨rfl, Below.refl _ _⟩
  have hs := hsz rfl
  clear hsz
  go_wp2_with fail
  refine (well10 h hv vis hs).mono ?_
  rintro e w1 ⟨⟨b1, rfl, hwf⟩, rfl⟩
  cases b1
  · go_wp2
    go_ret
    exact ⟨rfl, Below.refl _ _⟩
  obtain ⟨rfl, hV, hvis⟩ := hwf rfl
  clear hwf
  have hv43 : 0 ≤ vis ∧ vis ≤ 43690 := by
    have h1 := before_le (RR E) L m
    have h2 := hs.sum (Nat.le_refl m)
    rw [hvis]; omega
  obtain ⟨hv0, hv1⟩ := hv43
  have HV : Hid (∀ k, k < m → V k = cntR (RR E k) (L k)) := hV
  have Hvis : Hid (vis = before (RR E) L m) := hvis
  clear hV hvis
  by_cases p1 : p < 0
  · have d1 : decide (p < (0 : Int)) = true := by simp; omega
    go_wp2
    go_ret
    exact ⟨rfl, Below.refl _ _⟩
  have d1 : decide (p < (0 : Int)) = false := by simp; omega
  by_cases p2 : vis ≤ p
  · have d2 : decide (vis ≤ p) = true := by simp; omega
    go_wp2
    go_ret
    exact ⟨rfl, Below.refl _ _⟩
  have d2 : decide (vis ≤ p) = false := by simp; omega
  by_cases p3 : c < 0
  · have d3 : decide (c < (0 : Int)) = true := by simp; omega
    go_wp2
    go_ret
    exact ⟨rfl, Below.refl _ _⟩
  have d3 : decide (c < (0 : Int)) = false := by simp; omega
  by_cases p4 : 65536 < c
  · have d4 : decide ((65536 : Int) < c) = true := by simp; omega
    go_wp2
    go_ret
    exact ⟨rfl, Below.refl _ _⟩
  have d4 : decide ((65536 : Int) < c) = false := by simp; omega
  by_cases p5 : vis - p < c
  · have d5 : decide (vis - p < c) = true := by simp; omega
    go_wp2
    go_ret
    exact ⟨rfl, Below.refl _ _⟩
  have d5 : decide (vis - p < c) = false := by simp; omega
  by_cases p6 : q < 0
  · have d6 : decide (q < (0 : Int)) = true := by simp; omega
    go_wp2
    go_ret
    exact ⟨rfl, Below.refl _ _⟩
  have d6 : decide (q < (0 : Int)) = false := by simp; omega
  by_cases p7 : vis - c ≤ q
  · have d7 : decide (vis - c ≤ q) = true := by simp; omega
    go_wp2
    go_ret
    exact ⟨rfl, Below.refl _ _⟩
  have d7 : decide (vis - c ≤ q) = false := by simp; omega
  go_wp2_with fail
  refine (build11 h hv vis hs).mono ?_
  rintro e w2 ⟨sb, P, G, rfl, hB⟩
  obtain ⟨pn, rfl⟩ := Int.eq_ofNat_of_zero_le (show 0 ≤ p by omega)
  obtain ⟨cn, rfl⟩ := Int.eq_ofNat_of_zero_le (show 0 ≤ c by omega)
  obtain ⟨qn, rfl⟩ := Int.eq_ofNat_of_zero_le (show 0 ≤ q by omega)
  have hmk := run_make41f cn (by omega)
  by_cases hqp : pn ≤ qn
  rotate_left
  all_goals
    go_wp2_with fail
    refine (zvis12 hB.seqM hs HV.out _ (by omega) (by rw [← Hvis.out]; omega)).mono ?_
    rintro e w3 ⟨⟨wb, wi, rfl, hat0⟩, hb3⟩
    obtain ⟨src, hat, Hsrc⟩ : ∃ src : Nat, IsAt (RR E) L m src wb wi ∧ Hid ((src < pn ∧ src = qn) ∨ (pn + cn ≤ src ∧ src = qn + cn)) := ⟨_, hat0, by show _ ∨ _; omega⟩
    have Hat : Hid (IsAt (RR E) L m src wb wi) := hat
    have hW3 := hB.seqW.kept hb3
    have hb13 : Below w1.heap.size w1 w3 := hB.out.below.trans (hb3.mono hB.out.below.size)
    clear hat0 hat hB hb3 hv
    go_wp2_with fail
    have hW0 := wt_start (cn := cn) (pn := pn) hW3 hb13
    have HW0 : Hid (Wt w1 (w3.alloc (.cells (madeCells #[.int .u64 0, .int .u64 0, .int .u8 0] (cn * 3)) 41)) sb m w3.heap.size cn 0 pn P G L E V vis) := hW0
    clear hW0 hmk hW3
    obtain ⟨f, hfz⟩ : ∃ f, w3.heap.size = f := ⟨_, rfl⟩
    rw [hfz] at HW0 ⊢
    go_loopw [19] (fun x wr => ∃ t : Nat, t ≤ cn ∧ x = .int .i64 t ∧ Wt w1 wr sb m f cn t pn P G L E V vis) (fun x _ => cn - (intOf x).toNat)
    case atStart => exact ⟨0, Nat.zero_le _, rfl, HW0.out⟩
    case round =>
      clear HW0 hfz
      obtain ⟨t, ht, rfl, hT⟩ := hrel
      by_cases htc : t < cn
      · go_wp2_with fail
        refine (zvis12 hT.sq.seqM hs HV.out _ (by omega) (by rw [← Hvis.out]; omega)).mono ?_
        rintro e w4 ⟨⟨b, i, rfl, hat⟩, hb4⟩
        have hat' : IsAt (RR E) L m (pn + t) b i := by
          rw [show ((pn : Int) + (t : Int)).toNat = pn + t from by omega] at hat
          exact hat
        have Hat' : Hid (IsAt (RR E) L m (pn + t) b i) := hat'
        have hbm := hat.1
        have hil := hat.2.1
        obtain rfl := h.ga (by omega)
        have h4 := (h.kept hT.below).kept hb4
        have hrow := h4.row b hbm
        have hS4 := (hT.sq.kept hb4).seqM
        have hbl := hS4.bl b hbm
        have hlb := hs.row hbm
        have hmm := hs.n
        have d8 : decide ((b : Int) < 0) = false := by simp
        have d9 : decide ((m : Int) ≤ (b : Int)) = false := by simp; omega
        have d10 : decide ((i : Int) < 0) = false := by simp
        have d11 : decide ((L b : Int) ≤ (i : Int)) = false := by simp; omega
        have HT : Hid (Wt w1 wr sb m f cn t pn P G L E V vis) := hT
        have hlt := hT.ev.lt
        obtain ⟨⟨x0, x1, x2, hx0, hx1, hx2⟩, hfr⟩ := hT.ev.room htc
        have y0 := cell_kept hb4 hx0
        have y1 := cell_kept hb4 hx1
        have y2 := cell_kept hb4 hx2
        have yf := fun o => (hb4.frozen (p := ⟨f, o, none⟩) hlt).trans (hfr o)
        have hlt4 : f < w4.heap.size := Nat.lt_of_lt_of_le hlt hb4.size
        clear hT hat hat' h4 hx0 hx1 hx2 hfr
        go_wp2_with fail
        refine (event23 hS4 hbm hil).mono ?_
        rintro e w5 ⟨rfl, hb5⟩
        have z0 := cell_kept hb5 y0
        have z1 := cell_kept hb5 y1
        have z2 := cell_kept hb5 y2
        have zf := fun o => (hb5.frozen (p := ⟨f, o, none⟩) hlt4).trans (yf o)
        have R := wt_step HT.out hb4 hb5 htc Hat'.out
        have HR : Hid (Wt w1 (((w5.setCell ⟨f, t * 3, none⟩ (.int .u64 (E b i).v)).setCell ⟨f, t * 3 + 1, none⟩ (.int .u64 (E b i).o)).setCell ⟨f, t * 3 + 2, none⟩ (.int .u8 (E b i).k)) sb m f cn (t + 1) pn P G L E V vis) := R
        clear R y0 y1 y2 yf hS4 hrow hbl
        go_wp2
        go_roundw
        case rel => exact ⟨t + 1, by omega, by go_num, HR.out⟩
        case measure => simp [intOf]; omega
      · obtain rfl : cn = t := by omega
        go_wp2_with fail
        refine (zvis12 hT.sq.seqM hs HV.out _ (by omega) (by rw [← Hvis.out]; omega)).mono ?_
        rintro e w4 ⟨⟨ab, ai, rfl, hat⟩, hb4⟩
        have hat' : IsAt (RR E) L m pn ab ai := by
          rw [Int.toNat_natCast] at hat
          exact hat
        have hrk : rank (RR E) L ab ai = pn := hat'.2.2.2
        have Hrem := zremove20 (hT.sq.kept hb4) hs HV.out Hvis.out ab ai cn hat'.1 hat'.2.1 (by omega) (by rw [hrk]; have := Hvis.out; omega)
        rw [hrk] at Hrem
        have HH : Hid (Calls Try.prog 20 #[.pointer (some ⟨sb, 0, none⟩), .int .i64 ab, .int .i64 ai, .int .i64 cn] w4 fun e w' => RmRet w4 sb w1.heap.size m cn pn P G L E vis e w') := Hrem
        have HT : Hid (Wt w1 wr sb m f cn cn pn P G L E V vis) := hT
        have hWant : EvRow w4 f cn cn m pn L E := hT.ev.of_block (hb4.block f hT.ev.lt)
        have HWant : Hid (EvRow w4 f cn cn m pn L E) := hWant
        have hB4 : Below w1.heap.size w1 w4 := hT.below.trans (hb4.mono hT.below.size)
        have HB4 : Hid (Below w1.heap.size w1 w4) := hB4
        clear Hrem hT hat hat' hrk hWant hB4
        go_wp2_with fail
        refine HH.out.mono ?_
        rintro e w5 ⟨g, rfl, hg, hRm⟩
        have hWant5 : EvRow w5 f cn cn m pn L E := HWant.out.of_block (hRm.keep f HWant.out.lt HT.out.far)
        have HG : Hid (EvRow w5 g cn cn m pn L E) := hRm.ev
        have HF : Hid (EvRow w5 f cn cn m pn L E) := hWant5
        have HSq : Hid (SeqW w5 sb w1.heap.size m P G L (markE E L pn cn) (fun k => ((cntR (RR (markE E L pn cn) k) (L k) : Nat) : Int)) (vis - cn)) := hRm.sq
        have HB5 : Hid (Below w1.heap.size w1 w5) := HB4.out.trans hRm.below
        clear hRm hWant5
        have d12 : ((cn : Int) != (cn : Int)) = false := by simp
        go_wp2_with fail
        go_loopw [25] (fun x wx => ∃ (t nq : Nat), t ≤ cn ∧ x = .int .i64 t ∧ wx = w5.drewN nq) (fun x _ => cn - (intOf x).toNat)
        case atStart => exact ⟨0, 0, Nat.zero_le _, rfl, rfl⟩
        case round =>
          obtain ⟨t, nq, ht, rfl, rfl⟩ := hrel
          by_cases htc : t < cn
          · obtain ⟨b, i, hat⟩ := exists_at (RR E) L m (pn + t) (by have := Hvis.out; omega)
            obtain ⟨u0, u1, u2⟩ := HG.out.cells hat.1 hat.2.1 hat.2.2.1 htc hat.2.2.2
            obtain ⟨v0, v1, v2⟩ := HF.out.cells hat.1 hat.2.1 hat.2.2.1 htc hat.2.2.2
            clear hat
            have tz : (t : Int) < (cn : Int) := by omega
            go_wp2_with fail
            go_quiet (fail)
            go_wp2
            go_roundw
            case rel => exact ⟨t + 1, _, by omega, by go_num, rfl⟩
            case measure => simp [intOf]; omega
          · obtain rfl : cn = t := by omega
            have hS6 : SeqW (w5.drewN nq) sb w1.heap.size m P G L (markE E L pn cn) (fun k => ((cntR (RR (markE E L pn cn) k) (L k) : Nat) : Int)) (vis - cn) := HSq.out.carry (fun _ _ => rfl)
            have HB6 : Hid (Below w1.heap.size w1 (w5.drewN nq)) := below_drewN HB5.out nq
            have HS6 : Hid (SeqW (w5.drewN nq) sb w1.heap.size m P G L (markE E L pn cn) (fun k => ((cntR (RR (markE E L pn cn) k) (L k) : Nat) : Int)) (vis - cn)) := hS6
            clear hS6 HSq HB5 HG HF
            generalize w5.drewN nq = w6 at HB6 HS6 ⊢
            have d13 : (vis - (cn : Int) != vis - (cn : Int)) = false := by simp
            go_wp2_with fail
            refine (svis25 HS6.out.seqM).mono ?_
            rintro e w7 ⟨rfl, rfl⟩
            go_wp2_with fail
            refine (zvis12 HS6.out.seqM hs (fun _ _ => rfl) _ (by omega) ?qb).mono ?_
            case qb =>
              have e1 := Hvis.out
              rw [before_mark]
              unfold shift
              have e2 : ¬ before (RR E) L m ≤ pn := by omega
              rw [if_neg e2]
              by_cases e3 : before (RR E) L m ≤ pn + cn
              · rw [if_pos e3]; omega
              · rw [if_neg e3]; omega
            rintro e w8 ⟨⟨b2, i2, rfl, hat2⟩, hb8⟩
            have hmk := isAt_mark (r := pn) (n := cn) Hat.out (by have := Hsrc.out; omega)
            have hq : (if src < pn then src else src - cn) = qn := by
              rcases Hsrc.out with ⟨q1, q2⟩ | ⟨q1, q2⟩
              · rw [if_pos q1]; exact q2
              · rw [if_neg (by omega)]; omega
            rw [hq] at hmk
            rw [Int.toNat_natCast] at hat2
            obtain ⟨rfl, rfl⟩ := isAt_unique hat2 hmk
            have HB8 : Hid (Below w1.heap.size w1 w8) := HB6.out.trans (hb8.mono HB6.out.size)
            clear hat2 hmk hq hb8
            have d14 : ((b2 : Int) == (b2 : Int)) = true := by simp
            have d15 : ((i2 : Int) == (i2 : Int)) = true := by simp
            go_wp2
            go_ret
            exact ⟨rfl, HB8.out⟩
end Go.Proofs.Qxb6603828a
