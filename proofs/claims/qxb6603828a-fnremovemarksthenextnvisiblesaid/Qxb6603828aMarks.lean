import Derived.Test.Qxb6603828aReads
import Derived.Test.Qxb6603828aZz
import Derived.Deep.RegionHeld3
import Derived.Deep.DrawnRows
namespace Go.Proofs.Qxb6603828a
open Go.RowKit
set_option linter.unusedVariables false
set_option linter.unusedSimpArgs false
attribute [local go_sem ↓] Go.wp_at_zero Go.wp_at_succ

/-- The marked sequence and its events stand. -/
structure Ck (w wr : World) (sb m g c r : Nat) (P G L : Nat → Nat) (E : Nat → Nat → El) (vis : Int) : Prop where
  sq : SeqW wr sb w.heap.size m P G L (markE E L r c) (fun k => ((cntR (RR (markE E L r c) k) (L k) : Nat) : Int)) (vis - c)
  ev : EvRow wr g c c m r L E
  below : Below w.heap.size w wr

theorem Ck.kept {w wr w' : World} {sb m g c r : Nat} {P G L : Nat → Nat} {E : Nat → Nat → El} {vis : Int} (h : Ck w wr sb m g c r P G L E vis) (hb : Below wr.heap.size wr w') : Ck w w' sb m g c r P G L E vis :=
  ⟨h.sq.kept hb, h.ev.of_block (hb.block g h.ev.lt), h.below.trans (hb.mono h.below.size)⟩

theorem Ck.drewN {w wr : World} {sb m g c r : Nat} {P G L : Nat → Nat} {E : Nat → Nat → El} {vis : Int} (h : Ck w wr sb m g c r P G L E vis) (q : Nat) : Ck w (wr.drewN q) sb m g c r P G L E vis :=
  h.kept (below_drewN (Below.refl _ _) q)

/-- Where the check stands in row k: x: the rank, tk: how many of the row were taken so far. -/
def At (E : Nat → Nat → El) (L : Nat → Nat) (r c k j x tk : Nat) : Prop := x = rank (RR E) L k j ∧ tk + cntR (RR (markE E L r c) k) j = cntR (RR E k) j

theorem at_gone {E : Nat → Nat → El} {L : Nat → Nat} {r c k j x tk : Nat} (h : At E L r c k j x tk) (hr : (E k j).r = true) : At E L r c k (j + 1) x tk ∧ (markE E L r c k j).r = true := by
  have hm : (markE E L r c k j).r = true := by show ((E k j).r || _) = true; rw [hr]; rfl
  refine ⟨⟨?_, ?_⟩, hm⟩
  · rw [rank_miss (show RR E k j = true from hr)]; exact h.1
  · rw [cntR_miss (show RR E k j = true from hr), cntR_miss (show RR (markE E L r c) k j = true from hm)]; exact h.2

theorem at_hit {E : Nat → Nat → El} {L : Nat → Nat} {r c k j x tk : Nat} (h : At E L r c k j x tk) (hr : (E k j).r = false) (h1 : r ≤ x) (h2 : x < r + c) : At E L r c k (j + 1) (x + 1) (tk + 1) ∧ (markE E L r c k j).r = true := by
  have hm : (markE E L r c k j).r = true := by
    show ((E k j).r || (decide (r ≤ rank (RR E) L k j) && decide (rank (RR E) L k j < r + c))) = true
    rw [hr, ← h.1]; simp [h1, h2]
  refine ⟨⟨?_, ?_⟩, hm⟩
  · rw [rank_hit (show RR E k j = false from hr), ← h.1]
  · rw [cntR_hit (show RR E k j = false from hr), cntR_miss (show RR (markE E L r c) k j = true from hm)]; have := h.2; omega

theorem at_stay {E : Nat → Nat → El} {L : Nat → Nat} {r c k j x tk : Nat} (h : At E L r c k j x tk) (hr : (E k j).r = false) (h1 : x < r ∨ r + c ≤ x) : At E L r c k (j + 1) (x + 1) tk ∧ (markE E L r c k j).r = false := by
  have hm : (markE E L r c k j).r = false := by
    show ((E k j).r || (decide (r ≤ rank (RR E) L k j) && decide (rank (RR E) L k j < r + c))) = false
    rw [hr, ← h.1]; simp; omega
  refine ⟨⟨?_, ?_⟩, hm⟩
  · rw [rank_hit (show RR E k j = false from hr), ← h.1]
  · rw [cntR_hit (show RR E k j = false from hr), cntR_hit (show RR (markE E L r c) k j = false from hm)]; have := h.2; omega

set_option maxHeartbeats 400000 in
theorem event23c {w : World} {pk gk l kk j : Nat} {e : El} (p0' : w.cell? ⟨pk, 0, none⟩ = some (.slice (some ⟨gk, 0, none⟩) l kk)) (e0' : w.cell? ⟨gk, j * 4, none⟩ = some (.int .u64 e.v))
    (e1' : w.cell? ⟨gk, j * 4 + 1, none⟩ = some (.int .u64 e.o)) (e2' : w.cell? ⟨gk, j * 4 + 2, none⟩ = some (.int .u8 e.k)) (hj : j < l) :
    Calls Try.prog 23 #[.pointer (some ⟨pk, 0, none⟩), .int .i64 j] w fun e' w' => e' = .returned (.agg #[.int .u64 e.v, .int .u64 e.o, .int .u8 e.k]) ∧ Below w.heap.size w w' := by
  have p0 := cell_old p0'
  have e0 := cell_old e0'
  have e1 := cell_old e1'
  have e2 := cell_old e2'
  have jz : (j : Int) < (l : Int) := by omega
  go_enter Try.func23, Try.ntmps23
  go_wp2
  exact bodyPost_ret (v := .agg #[.int .u64 e.v, .int .u64 e.o, .int .u8 e.k]) (by simp [results, Try.results23, go_sem]) rfl ⟨rfl, (Below.refl _ _).alloc (Nat.le_refl _) _⟩

/-- A new box of four cells: they lie there, and what stood stands. -/
theorem Ck.box {w wr : World} {sb m g c r : Nat} {P G L : Nat → Nat} {E : Nat → Nat → El} {vis : Int} (h : Ck w wr sb m g c r P G L E vis) (v o k : Int) (b : Bool) :
    ∃ eb W, wr.heap.size = eb ∧ wr.alloc (.cells #[.int .u64 v, .int .u64 o, .int .u8 k, .bool b] 36) = W ∧ Ck w W sb m g c r P G L E vis ∧
      W.cell? ⟨eb, 0, none⟩ = some (.int .u64 v) ∧ W.cell? ⟨eb, 1, none⟩ = some (.int .u64 o) ∧ W.cell? ⟨eb, 2, none⟩ = some (.int .u8 k) ∧ W.cell? ⟨eb, 3, none⟩ = some (.bool b) := by
  have hn := Deep.blk_alloc_new wr (.cells #[.int .u64 v, .int .u64 o, .int .u8 k, .bool b] 36)
  exact ⟨_, _, rfl, rfl, h.kept ((Below.refl _ _).alloc (Nat.le_refl _) _), cell_of_blk hn rfl, cell_of_blk hn rfl, cell_of_blk hn rfl, cell_of_blk hn rfl⟩

set_option maxRecDepth 100000 in
set_option maxHeartbeats 2000000 in
theorem marks5 {w : World} {ao : Option Addr} {n nc gb go : Nat} {A : Nat → Option Addr} {L C RB RO : Nat → Nat} {E : Nat → Nat → El} (h : Arg w ao n gb go A L C RB RO E)
    {vo : Option Addr} {m mc vb vf : Nat} {V : Nat → Int} (hv : VArg w vo m vb vf V) (hm : m ≤ 9223372036854775807) (vis b0 i0 c : Int) :
    Calls Try.prog 5 #[.slice ao n nc, .slice vo m mc, .int .i64 vis, .int .i64 b0, .int .i64 i0, .int .i64 c] w fun e w' => e = .returned (.bool true) ∧ Below w.heap.size w w' := by
  go_enter Try.func5, Try.ntmps5
  go_wp2_with fail
  refine (zz19 h vo m mc hm _ _ _ _).mono ?_
  rintro e w1 ⟨⟨b1, rfl⟩, rfl⟩
  cases b1
  · go_wp2
    go_ret
    exact ⟨rfl, Below.refl _ _⟩
  go_wp2_with fail
  refine (size9 h vo m mc hm).mono ?_
  rintro e w1 ⟨⟨b1, rfl, hsz⟩, rfl⟩
  cases b1
  · go_wp2
    go_ret
    exact ⟨rfl, Below.refl _ _⟩
  have hs := hsz rfl
  clear hsz
  go_wp2_with fail
  refine (well10 h hv vis hs).mono ?_
  rintro e w1 ⟨⟨b1, rfl, hwf⟩, rfl⟩
  cases b1
  · go_wp2
    go_ret
    exact ⟨rfl, Below.refl _ _⟩
  obtain ⟨rfl, hV, hvis⟩ := hwf rfl
  clear hwf
  have hv43 : 0 ≤ vis ∧ vis ≤ 43690 := by
    have h1 := before_le (RR E) L m
    have h2 := hs.sum (Nat.le_refl m)
    rw [hvis]; omega
  obtain ⟨hv0, hv1⟩ := hv43
  have HV : Hid (∀ k, k < m → V k = cntR (RR E k) (L k)) := hV
  have Hvis : Hid (vis = before (RR E) L m) := hvis
  clear hV hvis
  by_cases p1 : b0 < 0
  · have d1 : decide (b0 < (0 : Int)) = true := by simp; omega
    go_wp2
    go_ret
    exact ⟨rfl, Below.refl _ _⟩
  have d1 : decide (b0 < (0 : Int)) = false := by simp; omega
  by_cases p2 : (m : Int) ≤ b0
  · have d2 : decide ((m : Int) ≤ b0) = true := by simp; omega
    go_wp2
    go_ret
    exact ⟨rfl, Below.refl _ _⟩
  have d2 : decide ((m : Int) ≤ b0) = false := by simp; omega
  obtain ⟨bn, rfl⟩ := Int.eq_ofNat_of_zero_le (show 0 ≤ b0 by omega)
  have hbm : bn < m := by omega
  obtain rfl := h.ga (by omega)
  have hrow := h.row bn hbm
  have hlb := hs.row hbm
  by_cases p3 : i0 < 0
  · have d3 : decide (i0 < (0 : Int)) = true := by simp; omega
    go_wp2
    go_ret
    exact ⟨rfl, Below.refl _ _⟩
  have d3 : decide (i0 < (0 : Int)) = false := by simp; omega
  by_cases p4 : (L bn : Int) ≤ i0
  · have d4 : decide ((L bn : Int) ≤ i0) = true := by simp; omega
    go_wp2
    go_ret
    exact ⟨rfl, Below.refl _ _⟩
  have d4 : decide ((L bn : Int) ≤ i0) = false := by simp; omega
  obtain ⟨jn, rfl⟩ := Int.eq_ofNat_of_zero_le (show 0 ≤ i0 by omega)
  have hjl : jn < L bn := by omega
  have hc3 := h.c3 bn hbm jn hjl
  rw [h.lead bn hbm jn hjl] at hrow
  cases her : (E bn jn).r
  rotate_left
  · rw [her] at hc3
    go_wp2
    go_ret
    exact ⟨rfl, Below.refl _ _⟩
  rw [her] at hc3
  by_cases p5 : c < 0
  · have d5 : decide (c < (0 : Int)) = true := by simp; omega
    go_wp2
    go_ret
    exact ⟨rfl, Below.refl _ _⟩
  have d5 : decide (c < (0 : Int)) = false := by simp; omega
  by_cases p6 : 65536 < c
  · have d6 : decide ((65536 : Int) < c) = true := by simp; omega
    go_wp2
    go_ret
    exact ⟨rfl, Below.refl _ _⟩
  have d6 : decide ((65536 : Int) < c) = false := by simp; omega
  obtain ⟨cn, rfl⟩ := Int.eq_ofNat_of_zero_le (show 0 ≤ c by omega)
  have h13 := vbef13 (nc := nc) h hs (bn : Int) (jn : Int) (by omega) (by omega) (by omega) (by simp; omega)
  simp only [Int.toNat_natCast] at h13
  have H13 : Hid (Calls Try.prog 13 #[.slice (some ⟨gb, go, none⟩) m nc, .int .i64 bn, .int .i64 jn] w1 fun e w' => e = .returned (.int .i64 (rank (RR E) L bn jn : Nat)) ∧ w' = w1) := h13
  have hrk : rank (RR E) L bn jn ≤ 43690 := hs.at (RR E) hbm (by omega)
  clear h13
  go_wp2_with fail
  refine H13.out.mono ?_
  rintro e w2 ⟨rfl, rfl⟩
  obtain ⟨r, hr⟩ : ∃ r, rank (RR E) L bn jn = r := ⟨_, rfl⟩
  have Hr : Hid (rank (RR E) L bn jn = r) := hr
  rw [hr] at hrk ⊢
  clear hr H13
  by_cases p7 : vis - r < cn
  · have d7 : decide (vis - (r : Int) < (cn : Int)) = true := by simp; omega
    go_wp2
    go_ret
    exact ⟨rfl, Below.refl _ _⟩
  have d7 : decide (vis - (r : Int) < (cn : Int)) = false := by simp; omega
  clear hrow hc3
  go_wp2_with fail
  refine (build11 h hv vis hs).mono ?_
  rintro e w3 ⟨sb, P, G, rfl, hB⟩
  go_wp2_with fail
  have hrem := zremove20 hB.seqW hs HV.out Hvis.out bn jn cn hbm hjl (by omega) (by rw [Hr.out]; have := Hvis.out; omega)
  rw [Hr.out] at hrem
  refine hrem.mono ?_
  rintro e w4 ⟨g, rfl, hg, hRm⟩
  have hC : Ck w2 w4 sb m g cn r P G L E vis := ⟨hRm.sq, hRm.ev, hB.out.below.trans hRm.below⟩
  clear hrem hRm hB hg
  have d8 : ((cn : Int) != (cn : Int)) = false := by simp
  have HC : Hid (Ck w2 w4 sb m g cn r P G L E vis) := hC
  clear hC
  go_wp2_with fail
  go_loopw [17, 18] (fun s x wr => ∃ (k t : Nat), k ≤ m ∧ x = .int .i64 k ∧ s = .int .i64 t ∧ t ≤ 43690 ∧ Hid (t = before (RR E) L k) ∧ Ck w2 wr sb m g cn r P G L E vis) (fun _ x _ => m - (intOf x).toNat)
  case atStart => exact ⟨0, 0, Nat.zero_le _, rfl, rfl, by omega, rfl, HC.out⟩
  case round =>
    clear HC
    obtain ⟨k, t, hk, rfl, rfl, ht1, ht, hC⟩ := hrel
    by_cases hkm : k < m
    · have hrow := (h.kept hC.below).row k hkm
      have hS := hC.sq.seqM
      have hbl := hS.bl k hkm
      have hl := hs.row hkm
      have kz : (k : Int) < (m : Int) := by omega
      have hm6 := hs.n
      have d9 : ((L k : Int) != (L k : Int)) = false := by simp
      have HC : Hid (Ck w2 wr sb m g cn r P G L E vis) := hC
      clear hC hS
      go_wp2_with fail
      go_quiet ((go_at_call 21; exact Calls.quiet_of_same (len21 (HC.out.drewN _).sq.seqM hkm)))
      have HC1 : Hid (Ck w2 (wr.drewN nq) sb m g cn r P G L E vis) := HC.out.drewN nq
      generalize wr.drewN nq = wa at HC1 ⊢
      clear HC hrow hbl
      go_wp2_with fail
      go_loopw [17, 19, 20] (fun s u y wr => ∃ (j x tk : Nat), j ≤ L k ∧ y = .int .i64 j ∧ s = .int .i64 x ∧ u = .int .i64 tk ∧ x ≤ 43690 ∧ tk ≤ j ∧ Hid (At E L r cn k j x tk) ∧ Ck w2 wr sb m g cn r P G L E vis) (fun _ _ y _ => L k - (intOf y).toNat)
      case atStart => exact ⟨0, t, 0, Nat.zero_le _, rfl, rfl, rfl, ht1, Nat.le_refl _, ⟨ht.out, rfl⟩, HC1.out⟩
      case round =>
        clear HC1
        obtain ⟨j, x, tk, hj, rfl, rfl, rfl, hx1, htk, hx, hC⟩ := hrel
        have hA := h.kept hC.below
        have hrow := hA.row k hkm
        by_cases hjl : j < L k
        · rw [hA.lead k hkm j hjl] at hrow
          have c0 := hA.c0 k hkm j hjl
          have c1 := hA.c1 k hkm j hjl
          have c2 := hA.c2 k hkm j hjl
          have c3 := hA.c3 k hkm j hjl
          have jz : (j : Int) < (L k : Int) := by omega
          have HC : Hid (Ck w2 wr sb m g cn r P G L E vis) := hC
          obtain ⟨eb, W, heb, hWq, hCW, q0, q1, q2, q3⟩ := hC.box (E k j).v (E k j).o (E k j).k (E k j).r
          have HWq : Hid (wr.alloc (.cells #[.int .u64 (E k j).v, .int .u64 (E k j).o, .int .u8 (E k j).k, .bool (E k j).r] 36) = W) := hWq
          have HCW : Hid (Ck w2 W sb m g cn r P G L E vis) := hCW
          have S1 := hCW.sq.seqM.bl k hkm
          have S2 := hCW.sq.seqM.p0 k hkm
          have S3 : W.cell? ⟨G k, j * 4, none⟩ = some (.int .u64 (E k j).v) := hCW.sq.seqM.e0 k hkm j hjl
          have S4 : W.cell? ⟨G k, j * 4 + 1, none⟩ = some (.int .u64 (E k j).o) := hCW.sq.seqM.e1 k hkm j hjl
          have S5 : W.cell? ⟨G k, j * 4 + 2, none⟩ = some (.int .u8 (E k j).k) := hCW.sq.seqM.e2 k hkm j hjl
          clear hC hA hWq hCW
          cases hrr : (E k j).r
          · rw [hrr] at c3 q3 HWq
            have hx2 : x + 1 ≤ 43690 := by
              have q := hs.at (RR E) hkm (show j + 1 ≤ L k by omega)
              rw [show before (RR E) L k + cntR (RR E k) (j + 1) = rank (RR E) L k (j + 1) from rfl, rank_hit (show RR E k j = false from hrr), ← hx.out.1] at q
              exact q
            by_cases hxr : x < r
            · have d10 : decide ((r : Int) ≤ (x : Int)) = false := by simp; omega
              obtain ⟨hnext, hmr⟩ := at_stay hx.out hrr (Or.inl hxr)
              have Hnext : Hid (At E L r cn k (j + 1) (x + 1) tk) := hnext
              clear hnext
              go_wp2_with fail
              rw [HWq.out]
              have H22 : Hid (∀ q, Calls Try.prog 22 #[.pointer (some ⟨P k, 0, none⟩), .int .i64 j] (W.drewN q) fun e w' => e = .returned (.bool false) ∧ w' = W.drewN q) := fun q => by
                have := removed22 (HCW.out.drewN q).sq.seqM hkm hjl
                rw [hmr] at this
                exact this
              clear hmr
              have H23 : Hid (∀ w' : World, w'.cell? ⟨P k, 0, none⟩ = some (.slice (some ⟨G k, 0, none⟩) (L k) (L k)) → w'.cell? ⟨G k, j * 4, none⟩ = some (.int .u64 (E k j).v) → w'.cell? ⟨G k, j * 4 + 1, none⟩ = some (.int .u64 (E k j).o) → w'.cell? ⟨G k, j * 4 + 2, none⟩ = some (.int .u8 (E k j).k) →
                  Calls Try.prog 23 #[.pointer (some ⟨P k, 0, none⟩), .int .i64 j] w' fun e' w'' => e' = .returned (.agg #[.int .u64 (E k j).v, .int .u64 (E k j).o, .int .u8 (E k j).k]) ∧ Below w'.heap.size w' w'') := fun w' a1 a2 a3 a4 => event23c a1 a2 a3 a4 hjl
              go_quiet ((go_at_call 22; exact Calls.quiet_of_same (H22.out _)))
              go_wp2_with fail
              go_region_held3 (fun w' => w'.cell? ⟨w2.heap.size, k, none⟩ = some (.pointer (some ⟨P k, 0, none⟩)) ∧ w'.cell? ⟨P k, 0, none⟩ = some (.slice (some ⟨G k, 0, none⟩) (L k) (L k)) ∧ w'.cell? ⟨G k, j * 4, none⟩ = some (.int .u64 (E k j).v) ∧ w'.cell? ⟨G k, j * 4 + 1, none⟩ = some (.int .u64 (E k j).o) ∧ w'.cell? ⟨G k, j * 4 + 2, none⟩ = some (.int .u8 (E k j).k) ∧ w'.cell? ⟨eb, 0, none⟩ = some (.int .u64 (E k j).v) ∧ w'.cell? ⟨eb, 1, none⟩ = some (.int .u64 (E k j).o) ∧ w'.cell? ⟨eb, 2, none⟩ = some (.int .u8 (E k j).k) ∧ w'.cell? ⟨eb, 3, none⟩ = some (.bool false))
                (((try dsimp only); (try go_split_ands); refine ⟨?_, ?_, ?_, ?_, ?_, ?_, ?_, ?_, ?_⟩ <;> first | assumption | (apply cell_kept; assumption; first | assumption | (simp; assumption)) | go_keep))
                (first
                  | (go_at_call 16; refine (uuid16 (E k j).v (E k j).o (E k j).k false _).mono ?_; rintro e wx ⟨rfl, hbx⟩)
                  | (go_at_call 23; refine (H23.out _ ?_ ?_ ?_ ?_).mono ?_; (go_split_ands; first | assumption | (simp; assumption)); (go_split_ands; first | assumption | (simp; assumption)); (go_split_ands; first | assumption | (simp; assumption)); (go_split_ands; first | assumption | (simp; assumption)); rintro e wy ⟨rfl, hby⟩))
              all_goals
                first
                  | (have HCf : Hid (Ck w2 wx sb m g cn r P G L E vis) := ((HCW.out.drewN nq).kept (below_of_drew hby)).kept hbx
                     go_wp2
                     go_roundw
                     case rel => exact ⟨j + 1, x + 1, tk, by omega, by go_num, by go_num, by go_num, hx2, by omega, Hnext, HCf.out⟩
                     case measure => simp [intOf]; omega)
                  | (have HCf : Hid (Ck w2 wy sb m g cn r P G L E vis) := ((HCW.out.drewN nq).kept (below_of_drew hbx)).kept hby
                     go_wp2
                     go_roundw
                     case rel => exact ⟨j + 1, x + 1, tk, by omega, by go_num, by go_num, by go_num, hx2, by omega, Hnext, HCf.out⟩
                     case measure => simp [intOf]; omega)
            · have d10 : decide ((r : Int) ≤ (x : Int)) = true := by simp; omega
              by_cases hxc : x < r + cn
              · have d11 : decide ((x : Int) < (r : Int) + (cn : Int)) = true := by simp; omega
                obtain ⟨hnext, hmr⟩ := at_hit hx.out hrr (by omega) hxc
                have Hnext : Hid (At E L r cn k (j + 1) (x + 1) (tk + 1)) := hnext
                clear hnext
                obtain ⟨s, hsx⟩ : ∃ s, x = r + s := ⟨x - r, by omega⟩
                obtain ⟨g0, g1, g2⟩ := HCW.out.ev.cells hkm hjl hrr (show s < cn by omega) (by rw [← hx.out.1]; exact hsx)
                subst hsx
                have sz0 : (s : Int) < (cn : Int) := by omega
                have wz : IntKind.i64.wrap ((r : Int) + (s : Int) - (r : Int)) = (s : Int) := by
                  rw [show (r : Int) + (s : Int) - (r : Int) = (s : Int) from by omega]
                  exact IntWalk.i64_in _ ⟨by omega, by omega⟩
                have sz1 : (0 : Int) ≤ (s : Int) := by omega
                go_wp2_with fail
                rw [HWq.out]
                go_region_held3 (fun w' => w'.cell? ⟨g, s * 3, none⟩ = some (.int .u64 (E k j).v) ∧ w'.cell? ⟨g, s * 3 + 1, none⟩ = some (.int .u64 (E k j).o) ∧ w'.cell? ⟨g, s * 3 + 2, none⟩ = some (.int .u8 (E k j).k) ∧ w'.cell? ⟨eb, 0, none⟩ = some (.int .u64 (E k j).v) ∧ w'.cell? ⟨eb, 1, none⟩ = some (.int .u64 (E k j).o) ∧ w'.cell? ⟨eb, 2, none⟩ = some (.int .u8 (E k j).k) ∧ w'.cell? ⟨eb, 3, none⟩ = some (.bool false))
                  (((try dsimp only); (try go_split_ands); refine ⟨?_, ?_, ?_, ?_, ?_, ?_, ?_⟩ <;> first | assumption | (apply cell_kept; assumption; first | assumption | (simp; assumption)) | go_keep))
                  (first
                    | (go_at_call 16; refine (uuid16 (E k j).v (E k j).o (E k j).k false _).mono ?_; rintro e wu ⟨rfl, hbu⟩))
                have HCU : Hid (Ck w2 wu sb m g cn r P G L E vis) := HCW.out.kept (below_of_drew hbu)
                have T1 := cell_kept (below_of_drew hbu) S1
                have T2 := cell_kept (below_of_drew hbu) S2
                have T3 := cell_kept (below_of_drew hbu) S3
                have T4 := cell_kept (below_of_drew hbu) S4
                have T5 := cell_kept (below_of_drew hbu) S5
                have o0 := cell_kept (below_of_drew hbu) q0
                have o1 := cell_kept (below_of_drew hbu) q1
                have o2 := cell_kept (below_of_drew hbu) q2
                have o3 := cell_kept (below_of_drew hbu) q3
                clear S1 S2 S3 S4 S5 q0 q1 q2 q3 g0 g1 g2 hbu HCW HWq hrow c0 c1 c2 c3 heb
                go_wp2_with fail
                have H22 : Hid (∀ q, Calls Try.prog 22 #[.pointer (some ⟨P k, 0, none⟩), .int .i64 j] (wu.drewN q) fun e w' => e = .returned (.bool true) ∧ w' = wu.drewN q) := fun q => by
                  have := removed22 (HCU.out.drewN q).sq.seqM hkm hjl
                  rw [hmr] at this
                  exact this
                clear hmr
                have H23 : Hid (∀ w' : World, w'.cell? ⟨P k, 0, none⟩ = some (.slice (some ⟨G k, 0, none⟩) (L k) (L k)) → w'.cell? ⟨G k, j * 4, none⟩ = some (.int .u64 (E k j).v) → w'.cell? ⟨G k, j * 4 + 1, none⟩ = some (.int .u64 (E k j).o) → w'.cell? ⟨G k, j * 4 + 2, none⟩ = some (.int .u8 (E k j).k) →
                    Calls Try.prog 23 #[.pointer (some ⟨P k, 0, none⟩), .int .i64 j] w' fun e' w'' => e' = .returned (.agg #[.int .u64 (E k j).v, .int .u64 (E k j).o, .int .u8 (E k j).k]) ∧ Below w'.heap.size w' w'') := fun w' a1 a2 a3 a4 => event23c a1 a2 a3 a4 hjl
                go_quiet ((go_at_call 22; exact Calls.quiet_of_same (H22.out _)))
                go_wp2_with fail
                go_region_held3 (fun w' => w'.cell? ⟨w2.heap.size, k, none⟩ = some (.pointer (some ⟨P k, 0, none⟩)) ∧ w'.cell? ⟨P k, 0, none⟩ = some (.slice (some ⟨G k, 0, none⟩) (L k) (L k)) ∧ w'.cell? ⟨G k, j * 4, none⟩ = some (.int .u64 (E k j).v) ∧ w'.cell? ⟨G k, j * 4 + 1, none⟩ = some (.int .u64 (E k j).o) ∧ w'.cell? ⟨G k, j * 4 + 2, none⟩ = some (.int .u8 (E k j).k) ∧ w'.cell? ⟨eb, 0, none⟩ = some (.int .u64 (E k j).v) ∧ w'.cell? ⟨eb, 1, none⟩ = some (.int .u64 (E k j).o) ∧ w'.cell? ⟨eb, 2, none⟩ = some (.int .u8 (E k j).k) ∧ w'.cell? ⟨eb, 3, none⟩ = some (.bool false))
                  (((try dsimp only); (try go_split_ands); refine ⟨?_, ?_, ?_, ?_, ?_, ?_, ?_, ?_, ?_⟩ <;> first | assumption | (apply cell_kept; assumption; first | assumption | (simp; assumption)) | go_keep))
                  (first
                    | (go_at_call 16; refine (uuid16 (E k j).v (E k j).o (E k j).k false _).mono ?_; rintro e wx ⟨rfl, hbx⟩)
                    | (go_at_call 23; refine (H23.out _ ?_ ?_ ?_ ?_).mono ?_; (go_split_ands; first | assumption | (simp; assumption)); (go_split_ands; first | assumption | (simp; assumption)); (go_split_ands; first | assumption | (simp; assumption)); (go_split_ands; first | assumption | (simp; assumption)); rintro e wy ⟨rfl, hby⟩))
                all_goals
                  first
                    | (have HCf : Hid (Ck w2 wx sb m g cn r P G L E vis) := ((HCU.out.drewN nq).kept (below_of_drew hby)).kept hbx
                       go_wp2
                       go_roundw
                       case rel => exact ⟨j + 1, r + s + 1, tk + 1, by omega, by go_num, by go_num, by go_num, hx2, by omega, Hnext, HCf.out⟩
                       case measure => simp [intOf]; omega)
                    | (have HCf : Hid (Ck w2 wy sb m g cn r P G L E vis) := ((HCU.out.drewN nq).kept (below_of_drew hbx)).kept hby
                       go_wp2
                       go_roundw
                       case rel => exact ⟨j + 1, r + s + 1, tk + 1, by omega, by go_num, by go_num, by go_num, hx2, by omega, Hnext, HCf.out⟩
                       case measure => simp [intOf]; omega)
              · have d11 : decide ((x : Int) < (r : Int) + (cn : Int)) = false := by simp; omega
                obtain ⟨hnext, hmr⟩ := at_stay hx.out hrr (Or.inr (by omega))
                have Hnext : Hid (At E L r cn k (j + 1) (x + 1) tk) := hnext
                clear hnext
                go_wp2_with fail
                rw [HWq.out]
                have H22 : Hid (∀ q, Calls Try.prog 22 #[.pointer (some ⟨P k, 0, none⟩), .int .i64 j] (W.drewN q) fun e w' => e = .returned (.bool false) ∧ w' = W.drewN q) := fun q => by
                  have := removed22 (HCW.out.drewN q).sq.seqM hkm hjl
                  rw [hmr] at this
                  exact this
                clear hmr
                have H23 : Hid (∀ w' : World, w'.cell? ⟨P k, 0, none⟩ = some (.slice (some ⟨G k, 0, none⟩) (L k) (L k)) → w'.cell? ⟨G k, j * 4, none⟩ = some (.int .u64 (E k j).v) → w'.cell? ⟨G k, j * 4 + 1, none⟩ = some (.int .u64 (E k j).o) → w'.cell? ⟨G k, j * 4 + 2, none⟩ = some (.int .u8 (E k j).k) →
                    Calls Try.prog 23 #[.pointer (some ⟨P k, 0, none⟩), .int .i64 j] w' fun e' w'' => e' = .returned (.agg #[.int .u64 (E k j).v, .int .u64 (E k j).o, .int .u8 (E k j).k]) ∧ Below w'.heap.size w' w'') := fun w' a1 a2 a3 a4 => event23c a1 a2 a3 a4 hjl
                go_quiet ((go_at_call 22; exact Calls.quiet_of_same (H22.out _)))
                go_wp2_with fail
                go_region_held3 (fun w' => w'.cell? ⟨w2.heap.size, k, none⟩ = some (.pointer (some ⟨P k, 0, none⟩)) ∧ w'.cell? ⟨P k, 0, none⟩ = some (.slice (some ⟨G k, 0, none⟩) (L k) (L k)) ∧ w'.cell? ⟨G k, j * 4, none⟩ = some (.int .u64 (E k j).v) ∧ w'.cell? ⟨G k, j * 4 + 1, none⟩ = some (.int .u64 (E k j).o) ∧ w'.cell? ⟨G k, j * 4 + 2, none⟩ = some (.int .u8 (E k j).k) ∧ w'.cell? ⟨eb, 0, none⟩ = some (.int .u64 (E k j).v) ∧ w'.cell? ⟨eb, 1, none⟩ = some (.int .u64 (E k j).o) ∧ w'.cell? ⟨eb, 2, none⟩ = some (.int .u8 (E k j).k) ∧ w'.cell? ⟨eb, 3, none⟩ = some (.bool false))
                  (((try dsimp only); (try go_split_ands); refine ⟨?_, ?_, ?_, ?_, ?_, ?_, ?_, ?_, ?_⟩ <;> first | assumption | (apply cell_kept; assumption; first | assumption | (simp; assumption)) | go_keep))
                  (first
                    | (go_at_call 16; refine (uuid16 (E k j).v (E k j).o (E k j).k false _).mono ?_; rintro e wx ⟨rfl, hbx⟩)
                    | (go_at_call 23; refine (H23.out _ ?_ ?_ ?_ ?_).mono ?_; (go_split_ands; first | assumption | (simp; assumption)); (go_split_ands; first | assumption | (simp; assumption)); (go_split_ands; first | assumption | (simp; assumption)); (go_split_ands; first | assumption | (simp; assumption)); rintro e wy ⟨rfl, hby⟩))
                all_goals
                  first
                    | (have HCf : Hid (Ck w2 wx sb m g cn r P G L E vis) := ((HCW.out.drewN nq).kept (below_of_drew hby)).kept hbx
                       go_wp2
                       go_roundw
                       case rel => exact ⟨j + 1, x + 1, tk, by omega, by go_num, by go_num, by go_num, hx2, by omega, Hnext, HCf.out⟩
                       case measure => simp [intOf]; omega)
                    | (have HCf : Hid (Ck w2 wy sb m g cn r P G L E vis) := ((HCW.out.drewN nq).kept (below_of_drew hbx)).kept hby
                       go_wp2
                       go_roundw
                       case rel => exact ⟨j + 1, x + 1, tk, by omega, by go_num, by go_num, by go_num, hx2, by omega, Hnext, HCf.out⟩
                       case measure => simp [intOf]; omega)
          · rw [hrr] at c3 q3 HWq
            go_wp2_with fail
            rw [HWq.out]
            obtain ⟨hnext, hmr⟩ := at_gone hx.out hrr
            have Hnext : Hid (At E L r cn k (j + 1) x tk) := hnext
            clear hnext
            have H22 : Hid (∀ q, Calls Try.prog 22 #[.pointer (some ⟨P k, 0, none⟩), .int .i64 j] (W.drewN q) fun e w' => e = .returned (.bool true) ∧ w' = W.drewN q) := fun q => by
              have := removed22 (HCW.out.drewN q).sq.seqM hkm hjl
              rw [hmr] at this
              exact this
            clear hmr
            have H23 : Hid (∀ w' : World, w'.cell? ⟨P k, 0, none⟩ = some (.slice (some ⟨G k, 0, none⟩) (L k) (L k)) → w'.cell? ⟨G k, j * 4, none⟩ = some (.int .u64 (E k j).v) → w'.cell? ⟨G k, j * 4 + 1, none⟩ = some (.int .u64 (E k j).o) → w'.cell? ⟨G k, j * 4 + 2, none⟩ = some (.int .u8 (E k j).k) →
                Calls Try.prog 23 #[.pointer (some ⟨P k, 0, none⟩), .int .i64 j] w' fun e' w'' => e' = .returned (.agg #[.int .u64 (E k j).v, .int .u64 (E k j).o, .int .u8 (E k j).k]) ∧ Below w'.heap.size w' w'') := fun w' a1 a2 a3 a4 => event23c a1 a2 a3 a4 hjl
            go_quiet ((go_at_call 22; exact Calls.quiet_of_same (H22.out _)))
            go_wp2_with fail
            go_region_held3 (fun w' => w'.cell? ⟨w2.heap.size, k, none⟩ = some (.pointer (some ⟨P k, 0, none⟩)) ∧ w'.cell? ⟨P k, 0, none⟩ = some (.slice (some ⟨G k, 0, none⟩) (L k) (L k)) ∧ w'.cell? ⟨G k, j * 4, none⟩ = some (.int .u64 (E k j).v) ∧ w'.cell? ⟨G k, j * 4 + 1, none⟩ = some (.int .u64 (E k j).o) ∧ w'.cell? ⟨G k, j * 4 + 2, none⟩ = some (.int .u8 (E k j).k) ∧ w'.cell? ⟨eb, 0, none⟩ = some (.int .u64 (E k j).v) ∧ w'.cell? ⟨eb, 1, none⟩ = some (.int .u64 (E k j).o) ∧ w'.cell? ⟨eb, 2, none⟩ = some (.int .u8 (E k j).k) ∧ w'.cell? ⟨eb, 3, none⟩ = some (.bool true))
              (((try dsimp only); (try go_split_ands); refine ⟨?_, ?_, ?_, ?_, ?_, ?_, ?_, ?_, ?_⟩ <;> first | assumption | (apply cell_kept; assumption; first | assumption | (simp; assumption)) | go_keep))
              (first
                | (go_at_call 16; refine (uuid16 (E k j).v (E k j).o (E k j).k true _).mono ?_; rintro e wx ⟨rfl, hbx⟩)
                | (go_at_call 23; refine (H23.out _ ?_ ?_ ?_ ?_).mono ?_; (go_split_ands; first | assumption | (simp; assumption)); (go_split_ands; first | assumption | (simp; assumption)); (go_split_ands; first | assumption | (simp; assumption)); (go_split_ands; first | assumption | (simp; assumption)); rintro e wy ⟨rfl, hby⟩))
            all_goals
              first
                | (have HCf : Hid (Ck w2 wx sb m g cn r P G L E vis) := ((HCW.out.drewN nq).kept (below_of_drew hby)).kept hbx
                   go_wp2
                   go_roundw
                   case rel => exact ⟨j + 1, x, tk, by omega, by go_num, rfl, rfl, hx1, by omega, Hnext, HCf.out⟩
                   case measure => simp [intOf]; omega)
                | (have HCf : Hid (Ck w2 wy sb m g cn r P G L E vis) := ((HCW.out.drewN nq).kept (below_of_drew hbx)).kept hby
                   go_wp2
                   go_roundw
                   case rel => exact ⟨j + 1, x, tk, by omega, by go_num, rfl, rfl, hx1, by omega, Hnext, HCf.out⟩
                   case measure => simp [intOf]; omega)
        · obtain rfl : L k = j := by omega
          obtain ⟨cE, hcE⟩ : ∃ cE, cE = cntR (RR E k) (L k) := ⟨_, rfl⟩
          obtain ⟨cM, hcM⟩ : ∃ cM, cM = cntR (RR (markE E L r cn) k) (L k) := ⟨_, rfl⟩
          have hsum : tk + cM = cE := by rw [hcE, hcM]; exact hx.out.2
          have hcE1 : cE ≤ L k := by rw [hcE]; exact cntR_le _ _
          have hvk : wr.cell? ⟨vb, vf + k, none⟩ = some (.int .i64 (cE : Int)) := by
            have q := cell_kept hC.below (hv.cell k hkm)
            rw [HV.out k hkm, ← hcE] at q
            exact q
          obtain rfl := hv.va (by omega)
          have hbl := hC.sq.seqM.bl k hkm
          have d12 : ((cM : Int) != (cE : Int) - (tk : Int)) = false := by rw [bne_eq_false_iff_eq]; omega
          have wz : IntKind.i64.wrap ((cE : Int) - (tk : Int)) = (cE : Int) - (tk : Int) := IntWalk.i64_in _ ⟨by omega, by omega⟩
          have H24 : Hid (∀ q, Calls Try.prog 24 #[.pointer (some ⟨P k, 0, none⟩)] (wr.drewN q) fun e w' => e = .returned (.int .i64 (cM : Int)) ∧ w' = wr.drewN q) := fun q => by
            have := bvis24 (hC.drewN q).sq.seqM hkm
            rw [hcM]
            exact this
          have Hlast : Hid (x = before (RR E) L (k + 1)) := hx.out.1
          have HC : Hid (Ck w2 wr sb m g cn r P G L E vis) := hC
          clear hC hA hcE hcM hsum
          go_wp2_with fail
          go_quiet ((go_at_call 24; exact Calls.quiet_of_same (H24.out _)))
          have HCf : Hid (Ck w2 (wr.drewN nq) sb m g cn r P G L E vis) := HC.out.drewN nq
          go_wp2
          go_roundw
          case rel => exact ⟨k + 1, x, by omega, by go_num, rfl, hx1, Hlast, HCf.out⟩
          case measure => simp [intOf]; omega
    · obtain rfl : m = k := by omega
      have HC : Hid (Ck w2 wr sb m g cn r P G L E vis) := hC
      have d13 : (vis - (cn : Int) == vis - (cn : Int)) = true := by simp
      clear hC
      go_wp2_with fail
      refine (svis25 HC.out.sq.seqM).mono ?_
      rintro e w7 ⟨rfl, rfl⟩
      go_wp2
      go_ret
      exact ⟨rfl, HC.out.below⟩
end Go.Proofs.Qxb6603828a
