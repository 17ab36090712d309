import Derived.Test.Qxb6604549aZs
import Derived.Test.Qxb6604549aTot
namespace Go.Proofs.Qxb6604549a
open Go.RowKit
set_option linter.unusedVariables false
set_option linter.unusedSimpArgs false

def LawRet (w : World) (e : Ending) (w' : World) : Prop := e = .returned (.bool true) ∧ Below w.heap.size w w'

theorem chain_cn {E : Nat → Nat → Sp} {L : Nat → Nat} {n cn : Nat} (hcn : cn ≤ 18446744073709551615) (hp : Prem n L E cn) : ∀ (l : List Stretch) {p q : Nat}, chain E L n l p q → p ≤ cn → q ≤ cn
  | [], p, q, h, hpc => by have e : p = q := h; omega
  | s :: l, p, q, h, hpc => by
    have h1 := h.1
    have := step_le (p := p) hcn hp (by omega)
    exact chain_cn hcn hp l h.2.2 this.2

/-- What the law asks of the next stretch. -/
theorem next_ok {E : Nat → Nat → Sp} {L : Nat → Nat} {n cn : Nat} (hcn : cn ≤ 18446744073709551615) (hp : Prem n L E cn) {s : Stretch} {l : List Stretch} {p q : Nat} (h : chain E L n (s :: l) p q) :
    0 < s.c ∧ p + s.c ≤ q ∧ s.v ≤ n ∧ (s.v = 0 → s.t = 0 ∧ s.k = 0) ∧ chain E L n l (p + s.c) q := by
  obtain ⟨h1, h2, h3⟩ := h
  have a := step_le (p := p) hcn hp (by omega)
  have b := chain_le l h3
  have c := stretch_ok E L n p
  rw [← h2] at c
  have e : s.c = least E L p n := by rw [h2]; rfl
  rw [e]
  exact ⟨a.1, b, c.1, c.2, h3⟩

set_option maxRecDepth 100000 in
set_option maxHeartbeats 2000000 in
theorem cov5 {w : World} {ao : Option Addr} {n nc gb go : Nat} {A : Nat → Option Addr} {L C RB RO : Nat → Nat} {E : Nat → Nat → Sp} (h : Arg w ao n gb go A L C RB RO E) {cn : Nat} (hcn : cn ≤ 18446744073709551615) (hd : Int) :
    Calls Try.prog 5 #[.int .u64 (cn : Int), .slice ao n nc, .int .i64 hd] w fun e w' => LawRet w e w' := by
  go_enter Try.func5, Try.ntmps5
  go_wp2_with fail
  refine (zz17 h _ _).mono ?_
  rintro e w1 ⟨⟨b1, rfl, hz⟩, rfl⟩
  cases b1
  · go_wp2
    go_ret
    exact ⟨rfl, Below.refl _ _⟩
  have hL := hz rfl
  clear hz
  by_cases p1 : 256 < n
  · have d1 : decide ((256 : Int) < (n : Int)) = true := by simp; omega
    go_wp2
    go_ret
    exact ⟨rfl, Below.refl _ _⟩
  have d1 : decide ((256 : Int) < (n : Int)) = false := by simp; omega
  have hn : n ≤ 256 := by omega
  go_wp2_with fail
  refine (spanTotal12 h hn hL).mono ?_
  rintro e w1 ⟨⟨T, rfl, hT1, hT⟩, rfl⟩
  by_cases p2 : 4096 < T
  · have d2 : decide ((4096 : Int) < (T : Int)) = true := by simp; omega
    go_wp2
    go_ret
    exact ⟨rfl, Below.refl _ _⟩
  have d2 : decide ((4096 : Int) < (T : Int)) = false := by simp; omega
  have hsum : sumN L n ≤ 4096 := by have := hT (by omega); omega
  have HT : Hid (T = sumN L n) := hT (by omega)
  clear hT
  have d3 : decide ((1048576 : Int) < 24 * (n : Int) + 32 * (T : Int)) = false := by simp; omega
  go_wp2_with fail
  refine (prem13 h hn hL cn hcn hd).mono ?_
  rintro e w1 ⟨⟨b1, rfl, hp⟩, rfl⟩
  cases b1
  · go_wp2
    go_ret
    exact ⟨rfl, Below.refl _ _⟩
  have Hp : Hid (Prem n L E cn) := hp rfl
  clear hp
  go_wp2_with fail
  refine (reg15 h hn hL).mono ?_
  rintro e w2 ⟨ro, B, S, rfl, hR, hb2⟩
  go_wp2_with fail
  refine (zs14 hR hn hL hsum hcn Hp.out hd).mono ?_
  rintro e w3 ⟨ga, g, cap, out, F, rfl, hG, hch, hF, hb3⟩
  have hb13 : Below w1.heap.size w1 w3 := hb2.trans (hb3.mono hb2.size)
  have Hch : Hid (chain E L n out 0 F ∧ reach E L F n ≤ n / 2) := ⟨hch, hF⟩
  have hlen : out.length ≤ T := by rw [HT.out]; exact chain_short hcn Hp.out hch
  clear hch hF hR hb2 hb3
  go_wp2_with fail
  refine (tots18 (h.kept hb13) hn hL cn hcn Hp.out).mono ?_
  rintro e w4 ⟨rfl, hb4, hrow⟩
  have hU : URow w4 w3.heap.size n (tot E L) := fun i hi => ⟨hrow.cell hi, hrow.frozen i⟩
  have hG4 := hG.kept hb4
  have hgl : 0 < out.length → g < w3.heap.size := fun q => by
    obtain ⟨s, hs⟩ : ∃ s, out[0]? = some s := ⟨_, List.getElem?_eq_getElem q⟩
    exact World.block_lt_of_cell? _ _ (hG.cells 0 s hs).1
  go_wp2_with fail
  refine (sort19 (fun _ => rfl) hU (by omega)).mono ?_
  rintro e w5 ⟨rfl, hO, f, hU5, hs, hc⟩
  have hG5 : Got w5 ga g out := by
    have key : ∀ i s, out[i]? = some s → ∀ o, w5.cell? ⟨g, o, none⟩ = w4.cell? ⟨g, o, none⟩ := fun i s hs o => by
      have h0 : 0 < out.length := by
        rcases Nat.eq_zero_or_pos out.length with q | q
        · rw [List.getElem?_eq_none (by omega)] at hs; cases hs
        · exact q
      have := hgl h0
      simp only [World.cell?, hO.block g (by omega)]
    exact ⟨hG4.lead, fun i s hs => ⟨by rw [key i s hs]; exact (hG4.cells i s hs).1, by rw [key i s hs]; exact (hG4.cells i s hs).2.1, by rw [key i s hs]; exact (hG4.cells i s hs).2.2.1, by rw [key i s hs]; exact (hG4.cells i s hs).2.2.2⟩⟩
  have hb15 : Below w1.heap.size w1 w5 := by
    have q := hb13.trans (hb4.mono hb13.size)
    have z := hb13.size
    exact ⟨hO.os.trans q.os, hO.tape.trans q.tape, hO.output.trans q.output, by rw [hO.size]; exact q.size, fun b hb => by rw [hO.block b (by omega)]; exact q.block b hb⟩
  have hFf : F = if 0 < n then f (n - n / 2 - 1) else 0 := by
    by_cases n0 : 0 < n
    · rw [if_pos n0]
      exact cover_eq Hp.out Hch.out.1 Hch.out.2 hs hc n0
    · have : n = 0 := by omega
      subst this
      exact (cover_zero Hch.out.1).1
  have hFc : F ≤ cn := chain_cn hcn Hp.out out Hch.out.1 (Nat.zero_le _)
  have d4 : decide (T < out.length) = false := by simp; omega
  have HG5 : Hid (Got w5 ga g out) := hG5
  have Hb15 : Hid (Below w1.heap.size w1 w5) := hb15
  clear hG hG4 hG5 hb13 hb4 hb15 hO hs hc hrow hU hgl d1 d2 d3 h hsum
  have HF : Hid (F = if 0 < n then f (n - n / 2 - 1) else 0) := hFf
  clear hFf
  by_cases n0 : 0 < n
  · have d5 : decide ((0 : Int) < (n : Int)) = true := by simp; omega
    have c5 := (hU5 (n - n / 2 - 1) (by omega)).1
    have hFe := HF.out
    rw [if_pos n0] at hFe
    rw [← hFe] at c5
    clear hFe hU5
    go_wp2
    clear c5 d5
    go_loopw [12, 13] (fun c i wr => ∃ (k p : Nat), k ≤ out.length ∧ i = .int .i64 k ∧ c = .int .u64 p ∧ p ≤ F ∧ Hid (chain E L n (out.drop k) p F) ∧ Below w5.heap.size w5 wr) (fun _ i _ => out.length - (intOf i).toNat)
    case atStart => exact ⟨0, 0, Nat.zero_le _, rfl, rfl, Nat.zero_le _, Hch.out.1, Below.refl _ _⟩
    case round =>
      obtain ⟨k, p, hk, rfl, rfl, hpF, hchk, hbr⟩ := hrel
      by_cases hkn : k < out.length
      · obtain ⟨s, hs⟩ : ∃ s, out[k]? = some s := ⟨_, List.getElem?_eq_getElem hkn⟩
        have hdr : out.drop k = s :: out.drop (k + 1) := by
          rw [List.drop_eq_getElem_cons hkn]
          rw [List.getElem?_eq_getElem hkn] at hs
          cases hs
          rfl
        have hq := hchk.out
        rw [hdr] at hq
        obtain ⟨q1, q2, q3, q4, q5⟩ := next_ok hcn Hp.out hq
        have Hq5 : Hid (chain E L n (out.drop (k + 1)) (p + s.c) F) := q5
        have hGr := HG5.out.kept hbr
        have hga := hGr.lead (by omega)
        obtain ⟨x0, x1, x2, x3⟩ := hGr.cells k s hs
        subst hga
        clear hq q5 hchk hdr hs hGr
        have e1 : ((s.c : Int) == 0) = false := by simp; omega
        have e2 : decide (((F : Int) - (p : Int)) < (s.c : Int)) = false := by simp; omega
        have e3 : decide ((s.v : Int) < 0) = false := by simp
        have e4 : decide (n < s.v) = false := by simp; omega
        have dk : decide ((k : Int) < (out.length : Int)) = true := by simp; omega
        go_wp2
        all_goals
          go_roundw
          case rel => exact ⟨k + 1, p + s.c, by omega, by go_num, by go_num, by omega, Hq5, hbr.alloc hbr.size _⟩
          case measure => simp [intOf]; omega
      · have dk : decide ((k : Int) < (out.length : Int)) = false := by simp; omega
        obtain rfl : out.length = k := by omega
        have hpe : p = F := by
          have := hchk.out
          rw [List.drop_eq_nil_of_le (Nat.le_refl _)] at this
          exact this
        subst hpe
        go_wp2
        go_ret
        exact ⟨rfl, Hb15.out.trans (hbr.mono Hb15.out.size)⟩
  · have d5 : decide ((0 : Int) < (n : Int)) = false := by simp; omega
    obtain rfl : n = 0 := by omega
    have ho := (cover_zero Hch.out.1).2
    subst ho
    have hFe : F = 0 := HF.out
    subst hFe
    clear hU5
    go_wp2
    go_loopw [12, 13] (fun c i wr => c = .int .u64 0 ∧ i = .int .i64 0 ∧ wr = w5) (fun _ _ _ => 0)
    case atStart => exact ⟨rfl, rfl, rfl⟩
    case round =>
      obtain ⟨rfl, rfl, rfl⟩ := hrel
      go_wp2
      go_ret
      exact ⟨rfl, Hb15.out⟩
end Go.Proofs.Qxb6604549a
