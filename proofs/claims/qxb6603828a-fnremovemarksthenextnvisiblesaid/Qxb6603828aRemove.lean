import Derived.Test.Qxb6603828aSeqW
import Derived.Deep.QuietTactic
import Derived.BigQuiet
import Derived.ArgAppend
import Derived.Deep.AppendLies
namespace Go.Proofs.Qxb6603828a
open Go.RowKit
set_option linter.unusedVariables false
set_option linter.unusedSimpArgs false

theorem Try.info41 : (Try.prog.info? 41).map (fun i => (i.zero, i.size, i.bytes)) = some (some (.agg #[.int .u64 0, .int .u64 0, .int .u8 0]), 3, 24) := by kernel_rfl

theorem run_make41c (n : Nat) (h : n ≤ 65536) (w : World) : (Instr.makeSlice 50 (.int .i64 0) (.int .i64 (n : Int))).run Try.prog w =
    .ok (.slice (some ⟨w.heap.size, 0, none⟩) 0 n) (w.alloc (.cells (madeCells #[.int .u64 0, .int .u64 0, .int .u8 0] (n * 3)) 41)) := by
  obtain ⟨i, hi, hzz⟩ := Option.map_eq_some_iff.1 Try.info41
  simp only [Prod.mk.injEq] at hzz
  obtain ⟨hz, hs, hb⟩ := hzz
  have := run_make (P := Try.prog) w 50 41 i _ Try.underlying50 hi hz .i64 .i64 0 (n : Int) (by omega) (by omega) (by rw [hb]; omega) (by omega)
  rw [this, hs]
  rfl

/-- append where there is room, at a plain region's list, the world written out. -/
theorem wpList_append_room {P : Program} (w : World) {ops : Array Oper} {rest : List Oper} {o : Oper} {a : Act} {Q : Exit → Act → World → Prop}
    (hg : o.guard = none) (s x : Operand) (t : TypeId) (hop : o.op = Op.call { callee := Callee.builtin Builtin.append, args := #[s, x], argTypes := #[t, t] })
    (e : TypeId) (i : TypeInfo) (size : Nat) (h1 : P.underlying t = some (.slice e)) (h2 : P.info? e = some i) (h4 : i.size = size)
    (b off n cap : Nat) (hs : a.eval s = .slice (some ⟨b, off, none⟩) n cap)
    (ad : Addr) (m c : Nat) (news : List Value) (hx : a.eval x = .slice (some ad) m c) (hn : news.length = m * size) (hc : ∀ j u, news[j]? = some u → w.cell? (ad.add j) = some u) (h1c : ∀ u ∈ news, u.oneCell' = true)
    (hroom : n + m ≤ cap) (hspare : ∀ j, j < news.length → (w.cell? ⟨b, off + n * size + j, none⟩).isSome = true ∧ w.frozen? ⟨b, off + n * size + j, none⟩ = false)
    (hK : wpList P ops Q rest (a.put o.dst (.slice (some ⟨b, off, none⟩) (n + m) cap)) (w.setCells b (off + n * size) news)) :
    wpList P ops Q (o :: rest) a w := by
  refine wpList_plain hg fun K hK' => ?_
  subst h4
  have hrun := run_append_room_cells (P := P) w t o.type e i h1 h2 b off n cap ad m c news hn hc h1c hroom (fun j hj => (hspare j hj).1) (fun j hj => (hspare j hj).2)
  unfold Oper.wp
  simp [execOp, hop, resolve, invoke, builtin, hs, hx, hrun, Result.andThen]
  exact hK' _ _ hK

/-- WHAT remove HAS DONE after t elements. -/
structure Rm (w wr : World) (sb bb N g n r t : Nat) (P G L : Nat → Nat) (E : Nat → Nat → El) (vis : Int) : Prop where
  sq : SeqW wr sb bb N P G L (markE E L r t) (fun k => ((cntR (RR (markE E L r t) k) (L k) : Nat) : Int)) (vis - t)
  ev : EvRow wr g n t N r L E
  below : Below bb w wr
  keep : ∀ c, c < w.heap.size → ¬ OfSeq sb bb N P G c → wr.heap[c]? = w.heap[c]?

theorem rm_start {w : World} {sb bb N n r : Nat} {P G L : Nat → Nat} {E : Nat → Nat → El} {V : Nat → Int} {vis : Int} (h : SeqW w sb bb N P G L E V vis) (hV : ∀ k, k < N → V k = cntR (RR E k) (L k)) (o : Obj) :
    Rm w ((w.alloc o).alloc (.cells (madeCells #[.int .u64 0, .int .u64 0, .int .u8 0] (n * 3)) 41)) sb bb N (w.heap.size + 1) n r 0 P G L E vis := by
  have hbb := h.bl.lt
  have same : ∀ c, c < w.heap.size → ((w.alloc o).alloc (.cells (madeCells #[.int .u64 0, .int .u64 0, .int .u8 0] (n * 3)) 41)).heap[c]? = w.heap[c]? := fun c hc => by
    rw [Deep.blk_alloc_lt _ _ _ (by simp; omega), Deep.blk_alloc_lt _ _ _ hc]
  refine ⟨?_, ?_, ((Below.refl _ _).alloc (by omega) _).alloc (by simp; omega) _, fun c hc _ => same c hc⟩
  · rw [mark_zero]
    have : vis - ((0 : Nat) : Int) = vis := by simp
    rw [this]
    exact (h.carry (fun b hb => same b (h.lt hb))).congr (fun _ _ _ _ => rfl) (fun k hk => (hV k hk).symm)
  · have := Deep.blk_alloc_new (w.alloc o) (.cells (madeCells #[.int .u64 0, .int .u64 0, .int .u8 0] (n * 3)) 41)
    exact ⟨_, by simpa using this, size_madeCells _ _, fun k j s _ _ _ hs _ => absurd hs (Nat.not_lt_zero _)⟩

/-- One element more is taken. -/
theorem rm_step {w wr : World} {sb bb N g n r t : Nat} {P G L : Nat → Nat} {E : Nat → Nat → El} {vis : Int} (h : Rm w wr sb bb N g n r t P G L E vis) (hg : ¬ OfSeq sb bb N P G g) (hgw : w.heap.size ≤ g) (hbw : bb ≤ w.heap.size) (ht : t < n) {b i : Nat} (hat : IsAt (RR E) L N (r + t) b i)
    (x y : Int) (hx : x = (cntR (RR (markE E L r t) b) (L b) : Nat) - 1) (hy : y = vis - t - 1) (o : Obj) :
    Rm w ((((((wr.setCell ⟨G b, i * 4 + 3, none⟩ (.bool true)).setCell ⟨P b, 1, none⟩ (.int .i64 x)).setCell ⟨sb, 2, none⟩ (.int .i64 y)).alloc o)).setCells g (0 + t * 3) [.int .u64 (E b i).v, .int .u64 (E b i).o, .int .u8 (E b i).k]) sb bb N g n r (t + 1) P G L E vis := by
  have hT := h.sq.take hat.1 hat.2.1 x y
  have hglt := h.ev.lt
  have hob := h.sq.ord b hat.1
  have htop := h.sq.top
  have hsb := h.sq.sbLt
  have nG : g ≠ G b := fun e => hg (Or.inr (Or.inr ⟨b, hat.1, Or.inr e⟩))
  have nP : g ≠ P b := fun e => hg (Or.inr (Or.inr ⟨b, hat.1, Or.inl e⟩))
  have nS : g ≠ sb := fun e => hg (Or.inr (Or.inl e))
  have eg : ((((wr.setCell ⟨G b, i * 4 + 3, none⟩ (.bool true)).setCell ⟨P b, 1, none⟩ (.int .i64 x)).setCell ⟨sb, 2, none⟩ (.int .i64 y)).alloc o).heap[g]? = wr.heap[g]? := by
    rw [Deep.blk_alloc_lt _ _ _ (by simp; omega), Deep.blk_setCell_other _ _ _ _ nS, Deep.blk_setCell_other _ _ _ _ nP, Deep.blk_setCell_other _ _ _ _ nG]
  have sets : ∀ (W : World) (c : Nat), c ≠ g → (W.setCells g (0 + t * 3) [.int .u64 (E b i).v, .int .u64 (E b i).o, .int .u8 (E b i).k]).heap[c]? = W.heap[c]? := by
    intro W c hne
    show (((W.setCell _ _).setCell _ _).setCell _ _).heap[c]? = _
    rw [Deep.blk_setCell_other _ _ _ _ hne, Deep.blk_setCell_other _ _ _ _ hne, Deep.blk_setCell_other _ _ _ _ hne]
  refine ⟨?_, h.ev.put ht eg hat, ?_, ?_⟩
  · have q : SeqW ((((((wr.setCell ⟨G b, i * 4 + 3, none⟩ (.bool true)).setCell ⟨P b, 1, none⟩ (.int .i64 x)).setCell ⟨sb, 2, none⟩ (.int .i64 y)).alloc o)).setCells g (0 + t * 3) [.int .u64 (E b i).v, .int .u64 (E b i).o, .int .u8 (E b i).k]) sb bb N P G L _ _ y :=
      hT.carry (fun c hc => by rw [sets _ _ (fun e => hg (e ▸ hc)), Deep.blk_alloc_lt _ _ _ (hT.lt hc)])
    have hv : vis - ((t + 1 : Nat) : Int) = y := by rw [hy]; omega
    rw [hv]
    refine q.congr (fun k j hk hj => ?_) (fun k hk => ?_)
    · rw [mark_step hat hk hj]
      rfl
    · have e1 := mark_cnt_at hat
      by_cases e : k = b
      · subst e
        rw [if_pos rfl, hx, ← e1]
        omega
      · rw [if_neg e, mark_cnt_other hat hk e]
  · exact (((((h.below.setCell (by show bb ≤ G b; omega) _).setCell (by show bb ≤ P b; omega) _).setCell (by show bb ≤ sb; omega) _).alloc (by simp; omega) o).setCell (p := ⟨g, 0 + t * 3, none⟩) (by show bb ≤ g; omega) _).setCell (p := ⟨g, 0 + t * 3 + 1, none⟩) (by show bb ≤ g; omega) _ |>.setCell (p := ⟨g, 0 + t * 3 + 1 + 1, none⟩) (by show bb ≤ g; omega) _
  · intro c hc hn
    have n1 : c ≠ G b := fun e => hn (Or.inr (Or.inr ⟨b, hat.1, Or.inr e⟩))
    have n2 : c ≠ P b := fun e => hn (Or.inr (Or.inr ⟨b, hat.1, Or.inl e⟩))
    have n3 : c ≠ sb := fun e => hn (Or.inr (Or.inl e))
    have hs := h.below.size
    rw [sets _ _ (by omega), Deep.blk_alloc_lt _ _ _ (by simp; omega), Deep.blk_setCell_other _ _ _ _ n3, Deep.blk_setCell_other _ _ _ _ n2, Deep.blk_setCell_other _ _ _ _ n1]
    exact h.keep c hc hn
theorem Rm.drewN {w wr : World} {sb bb N g n r t : Nat} {P G L : Nat → Nat} {E : Nat → Nat → El} {vis : Int} (h : Rm w wr sb bb N g n r t P G L E vis) (q : Nat) : Rm w (wr.drewN q) sb bb N g n r t P G L E vis :=
  ⟨h.sq.carry (fun _ _ => rfl), h.ev.of_block rfl, below_drewN h.below q, h.keep⟩

/-- How many rounds are left at most. -/
def left (L : Nat → Nat) (N b i : Nat) : Nat := sumN L N + N - (sumN L b + i + b)

theorem left_in {L : Nat → Nat} {N b i : Nat} (hb : b < N) (hi : i < L b) : left L N b (i + 1) < left L N b i := by
  have h1 := sumN_mono L (show b + 1 ≤ N by omega)
  have h2 : sumN L (b + 1) = sumN L b + L b := rfl
  unfold left
  omega

theorem left_next {L : Nat → Nat} {N b : Nat} (hb : b < N) : left L N (b + 1) 0 < left L N b (L b) := by
  have h1 := sumN_mono L (show b + 1 ≤ N by omega)
  have h2 : sumN L (b + 1) = sumN L b + L b := rfl
  unfold left
  omega

def RmRet (w : World) (sb bb N n r : Nat) (P G L : Nat → Nat) (E : Nat → Nat → El) (vis : Int) (e : Ending) (w' : World) : Prop :=
  ∃ g, e = .returned (.slice (some ⟨g, 0, none⟩) n n) ∧ w.heap.size ≤ g ∧ Rm w w' sb bb N g n r n P G L E vis

set_option maxRecDepth 100000 in
set_option maxHeartbeats 1000000 in
theorem remove31 {w : World} {sb bb N m : Nat} {P G L : Nat → Nat} {E : Nat → Nat → El} {V : Nat → Int} {vis : Int} (h : SeqW w sb bb N P G L E V vis) (hs : Sz N m L)
    (hV : ∀ k, k < N → V k = cntR (RR E k) (L k)) (hvis : vis = before (RR E) L N) (b0 i0 n : Nat) (hb0 : b0 < N) (hi0 : i0 < L b0) (hn : n ≤ 65536) (hroom : rank (RR E) L b0 i0 + n ≤ before (RR E) L N) :
    Calls Try.prog 31 #[.pointer (some ⟨sb, 0, none⟩), .agg #[.int .i64 b0, .int .i64 i0], .int .i64 n] w fun e w' => RmRet w sb bb N n (rank (RR E) L b0 i0) P G L E vis e w' := by
  obtain ⟨r, hr⟩ : ∃ r, r = rank (RR E) L b0 i0 := ⟨_, rfl⟩
  rw [← hr] at hroom ⊢
  have Hr : Hid (rank (RR E) L b0 i0 = r) := hr.symm
  have hmk := run_make41c n hn
  have hbb := h.bl.lt
  have hsb := h.sbLt
  have hNn := hs.n
  have hS : ∀ o, Rm w ((w.alloc o).alloc (.cells (madeCells #[.int .u64 0, .int .u64 0, .int .u8 0] (n * 3)) 41)) sb bb N (w.heap.size + 1) n r 0 P G L E vis := fun o => rm_start h hV o
  have HS : Hid (∀ o, Rm w ((w.alloc o).alloc (.cells (madeCells #[.int .u64 0, .int .u64 0, .int .u8 0] (n * 3)) 41)) sb bb N (w.heap.size + 1) n r 0 P G L E vis) := hS
  have hgN : ¬ OfSeq sb bb N P G (w.heap.size + 1) := fun hc => by have := h.lt hc; omega
  have Hroom : Hid (r + n ≤ before (RR E) L N) := hroom
  have Hvis : Hid (vis = before (RR E) L N) := hvis
  have hv43 : 0 ≤ vis ∧ vis ≤ 43690 := by
    have h1 := before_le (RR E) L N
    have h2 := hs.sum (Nat.le_refl N)
    rw [hvis]; omega
  obtain ⟨hv0, hv1⟩ := hv43
  clear hr hroom hS hV h hvis
  go_enter Try.func31, Try.ntmps31
  go_wp2
  go_quiet (fail)
  go_wp2_with fail
  go_loopg [7, 8, 9] (left L N b0 i0) (fun gk v x y wr => ∃ (t b i : Nat), t ≤ n ∧ v = .slice (some ⟨w.heap.size + 1, 0, none⟩) t n ∧ x = .int .i64 b ∧ y = .int .i64 i ∧ b < N ∧ i ≤ L b ∧ Hid (rank (RR E) L b i = r + t) ∧ gk = left L N b i ∧ Rm w wr sb bb N (w.heap.size + 1) n r t P G L E vis)
  case atStart => exact ⟨0, b0, i0, Nat.zero_le _, rfl, rfl, rfl, hb0, by omega, Hr, rfl, (HS.out _).drewN _⟩
  case round =>
    obtain ⟨t, b, i, ht, rfl, rfl, rfl, hbN, hiL, hrk, rfl, hR⟩ := hrel
    clear hmk HS
    have hsq := hR.sq
    have hlb := hs.row hbN
    by_cases htn : t < n
    · have hs0 := hsq.seqM.s0
      have hbl := hsq.seqM.bl b hbN
      have hp0 := hsq.seqM.p0 b hbN
      by_cases hil : i < L b
      · have hde : (((i : Nat) : Int) == ((L b : Nat) : Int)) = false := by rw [beq_eq_false_iff_ne]; omega
        have c0 : wr.cell? ⟨G b, i * 4, none⟩ = some (.int .u64 (E b i).v) := hsq.seqM.e0 b hbN i hil
        have c1 : wr.cell? ⟨G b, i * 4 + 1, none⟩ = some (.int .u64 (E b i).o) := hsq.seqM.e1 b hbN i hil
        have c2 : wr.cell? ⟨G b, i * 4 + 2, none⟩ = some (.int .u8 (E b i).k) := hsq.seqM.e2 b hbN i hil
        have c3 : wr.cell? ⟨G b, i * 4 + 3, none⟩ = some (.bool (E b i).r) := by
          have q := hsq.seqM.e3 b hbN i hil
          rw [show (markE E L r t b i).r = (E b i).r from mark_at hrk.out] at q
          exact q
        cases her : (E b i).r
        · have hat : IsAt (RR E) L N (r + t) b i := ⟨hbN, hil, her, hrk.out⟩
          rw [her] at c3
          obtain ⟨cv, hcv⟩ : ∃ cv, cv = cntR (RR (markE E L r t) b) (L b) := ⟨_, rfl⟩
          have hcv1 : cv ≤ L b := by rw [hcv]; exact cntR_le _ _
          have p1 : wr.cell? ⟨P b, 1, none⟩ = some (.int .i64 cv) := by rw [hcv]; exact hsq.seqM.p1 b hbN
          have s2 : wr.cell? ⟨sb, 2, none⟩ = some (.int .i64 (vis - (t : Int))) := hsq.seqM.s2
          have hob := hsq.ord b hbN
          have f1 : ∀ x, (wr.setCell ⟨G b, i * 4 + 3, none⟩ x).cell? ⟨P b, 1, none⟩ = some (.int .i64 cv) := fun x => by
            rw [World.cell?_setCell_other _ _ _ _ (by first | (simp; done) | (simp; omega))]; exact p1
          have f2 : ∀ x y, ((wr.setCell ⟨G b, i * 4 + 3, none⟩ x).setCell ⟨P b, 1, none⟩ y).cell? ⟨sb, 2, none⟩ = some (.int .i64 (vis - (t : Int))) := fun x y => by
            rw [World.cell?_setCell_other _ _ _ _ (by first | (simp; done) | (simp; omega)), World.cell?_setCell_other _ _ _ _ (by first | (simp; done) | (simp; omega))]; exact s2
          have f3 : ∀ x y z o, o ≠ i * 4 + 3 → (((wr.setCell ⟨G b, i * 4 + 3, none⟩ x).setCell ⟨P b, 1, none⟩ y).setCell ⟨sb, 2, none⟩ z).cell? ⟨G b, o, none⟩ = wr.cell? ⟨G b, o, none⟩ := fun x y z o ho => by
            rw [World.cell?_setCell_other _ _ _ _ (by first | (simp; done) | (simp; omega)), World.cell?_setCell_other _ _ _ _ (by first | (simp; done) | (simp; omega)), World.cell?_setCell_other _ _ _ _ (by first | (simp; done) | (simp; omega))]
          have f4 := fun x y z => (f3 x y z (i * 4) (by omega)).trans c0
          have f5 := fun x y z => (f3 x y z (i * 4 + 1) (by omega)).trans c1
          have f6 := fun x y z => (f3 x y z (i * 4 + 2) (by omega)).trans c2
          have z1 : wr.frozen? ⟨G b, i * 4 + 3, none⟩ = false := (hsq.els b hbN).frozen _
          have z2 : wr.frozen? ⟨P b, 1, none⟩ = false := frozen_of_blk (hsq.blk b hbN)
          have z3 : wr.frozen? ⟨sb, 2, none⟩ = false := frozen_of_blk hsq.sq
          obtain ⟨ti, hi0', hz0, hz1, hz2⟩ := info_parts Try.info41
          have HI0 : Hid (Try.prog.info? 41 = some ti) := hi0'
          have HZ1 : Hid (ti.size = 3) := hz1
          have HR : Hid (Rm w wr sb bb N (w.heap.size + 1) n r t P G L E vis) := hR
          have Hcv : Hid (cv = cntR (RR (markE E L r t) b) (L b)) := hcv
          have Hat : Hid (IsAt (RR E) L N (r + t) b i) := hat
          have Hcut : Hid (t + 1 ≤ n) := htn
          have hglt := hR.ev.lt
          have hsbl := hsq.sbLt
          have hsbw := hsb
          have Heg : Hid (∀ x y z o, ((((wr.setCell ⟨G b, i * 4 + 3, none⟩ x).setCell ⟨P b, 1, none⟩ y).setCell ⟨sb, 2, none⟩ z).alloc o).heap[w.heap.size + 1]? = wr.heap[w.heap.size + 1]?) := fun x y z o => by
            rw [Deep.blk_alloc_lt _ _ _ (by simp; omega), Deep.blk_setCell_other _ _ _ _ (by simp; omega), Deep.blk_setCell_other _ _ _ _ (by simp; omega), Deep.blk_setCell_other _ _ _ _ (by simp; omega)]
          clear hR hsq hi0' hz0 hz1 hz2 hcv hat f3 c0 c1 c2 p1 s2
          go_wp2_with (at_builtin; refine wpList_append_room _ rfl _ _ 50 rfl 41 ti 3 Try.underlying50 HI0.out HZ1.out (w.heap.size + 1) 0 t n (by rfl) ⟨wr.heap.size, 0, none⟩ 1 1 [.int .u64 (E b i).v, .int .u64 (E b i).o, .int .u8 (E b i).k] (by rfl) (by rfl) ?qnews ?q1 Hcut.out ?qsp ?_)
          case qnews => exact World.news_of_block (cs := #[.int .u64 (E b i).v, .int .u64 (E b i).o, .int .u8 (E b i).k]) (t := 41) (fr := (0, 0)) (by
            have q := Deep.blk_alloc_new (((wr.setCell ⟨G b, i * 4 + 3, none⟩ (.bool true)).setCell ⟨P b, 1, none⟩ (.int .i64 ((cv : Int) - 1))).setCell ⟨sb, 2, none⟩ (.int .i64 (vis - (t : Int) - 1))) (.cells #[.int .u64 (E b i).v, .int .u64 (E b i).o, .int .u8 (E b i).k] 41)
            simpa using q)
          case q1 => simp [Value.oneCell']
          case qsp => exact HR.out.ev.spare Hcut.out (Heg.out _ _ _ _) _ rfl
          have R := rm_step HR.out hgN (by omega) (by omega) Hcut.out Hat.out ((cv : Int) - 1) (vis - (t : Int) - 1) (by rw [Hcv.out]) rfl (.cells #[.int .u64 (E b i).v, .int .u64 (E b i).o, .int .u8 (E b i).k] 41)
          rw [Nat.zero_add] at R
          go_roundg (left L N b (i + 1))
          case measure => exact left_in hbN hil
          case rel => exact ⟨t + 1, b, i + 1, Hcut.out, rfl, rfl, by go_num, hbN, by omega, by have := hrk.out; show _ = _; rw [rank_hit (show RR E b i = false from her)]; omega, rfl, R⟩
        · have HR : Hid (Rm w wr sb bb N (w.heap.size + 1) n r t P G L E vis) := hR
          rw [her] at c3
          clear hR hsq
          go_wp2
          go_roundg (left L N b (i + 1))
          case measure => exact left_in hbN hil
          case rel => exact ⟨t, b, i + 1, by omega, rfl, rfl, by go_num, hbN, by omega, by have := hrk.out; show _ = _; rw [rank_miss (show RR E b i = true from her)]; exact this, rfl, HR.out⟩
      · obtain rfl : L b = i := by omega
        have hd : (((L b : Nat) : Int) == ((L b : Nat) : Int)) = true := by simp
        have hb1 : b + 1 < N := by
          rcases Nat.lt_or_ge (b + 1) N with q | q
          · exact q
          · have e1 : b + 1 = N := by omega
            have e2 := hrk.out
            rw [rank_end, e1] at e2
            have := Hroom.out
            omega
        have HR : Hid (Rm w wr sb bb N (w.heap.size + 1) n r t P G L E vis) := hR
        clear hR hsq
        go_wp2
        go_roundg (left L N (b + 1) 0)
        case measure => exact left_next hbN
        case rel => exact ⟨t, b + 1, 0, by omega, rfl, by go_num, rfl, hb1, Nat.zero_le _, by have := hrk.out; rw [rank_end] at this; exact this, rfl, HR.out⟩
    · obtain rfl : n = t := by omega
      have HR : Hid (Rm w wr sb bb N (w.heap.size + 1) n r n P G L E vis) := hR
      clear hR hsq
      go_wp2
      go_ret
      exact ⟨_, rfl, by omega, HR.out⟩

end Go.Proofs.Qxb6603828a
