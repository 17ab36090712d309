import Derived.Test.Qxb6604549aModel
namespace Go.Proofs.Qxb6604549a
open Go.RowKit
set_option linter.unusedVariables false
set_option linter.unusedSimpArgs false

def MatchRet (w : World) (e : Ending) (w' : World) : Prop := e = .returned (.bool true) ∧ Below w.heap.size w w'

set_option maxRecDepth 100000 in
set_option maxHeartbeats 2000000 in
theorem match4 {w : World} {ao : Option Addr} {n nc gb go : Nat} {A : Nat → Option Addr} {L C RB RO : Nat → Nat} {E : Nat → Nat → Sp} (h : Arg w ao n gb go A L C RB RO E) {cn : Nat} (hcn : cn ≤ 18446744073709551615) (hd : Int) :
    Calls Try.prog 4 #[.int .u64 (cn : Int), .slice ao n nc, .int .i64 hd] w fun e w' => MatchRet w e w' := by
  go_enter Try.func4, Try.ntmps4
  go_wp2_with fail
  refine (zz11 h _ _).mono ?_
  rintro e w1 ⟨⟨b1, rfl, hz⟩, rfl⟩
  cases b1
  · go_wp2
    go_ret
    exact ⟨rfl, Below.refl _ _⟩
  have hL := hz rfl
  clear hz
  by_cases p1 : 256 < n
  · have d1 : decide ((256 : Int) < (n : Int)) = true := by simp; omega
    go_wp2
    go_ret
    exact ⟨rfl, Below.refl _ _⟩
  have d1 : decide ((256 : Int) < (n : Int)) = false := by simp; omega
  have hn : n ≤ 256 := by omega
  go_wp2_with fail
  refine (spanTotal12 h hn hL).mono ?_
  rintro e w1 ⟨⟨T, rfl, hT1, hT⟩, rfl⟩
  by_cases p2 : 4096 < T
  · have d2 : decide ((4096 : Int) < (T : Int)) = true := by simp; omega
    go_wp2
    go_ret
    exact ⟨rfl, Below.refl _ _⟩
  have d2 : decide ((4096 : Int) < (T : Int)) = false := by simp; omega
  have hsum : sumN L n ≤ 4096 := by have := hT (by omega); omega
  have HT : Hid (T = sumN L n) := hT (by omega)
  clear hT
  have d3 : decide ((1048576 : Int) < 24 * (n : Int) + 32 * (T : Int)) = false := by simp; omega
  go_wp2_with fail
  refine (prem13 h hn hL cn hcn hd).mono ?_
  rintro e w1 ⟨⟨b1, rfl, hp⟩, rfl⟩
  cases b1
  · go_wp2
    go_ret
    exact ⟨rfl, Below.refl _ _⟩
  have Hp : Hid (Prem n L E cn) := hp rfl
  clear hp
  go_wp2_with fail
  refine (reg15 h hn hL).mono ?_
  rintro e w2 ⟨ro, B, S, rfl, hR, hb2⟩
  go_wp2_with fail
  refine (zs14 hR hn hL hsum hcn Hp.out hd).mono ?_
  rintro e w3 ⟨ga, g, cap, out, F, rfl, hG, hch, hF, hb3⟩
  have hb13 : Below w1.heap.size w1 w3 := hb2.trans (hb3.mono hb2.size)
  have Hch : Hid (chain E L n out 0 F ∧ reach E L F n ≤ n / 2) := ⟨hch, hF⟩
  have hlen : out.length ≤ T := by rw [HT.out]; exact chain_short hcn Hp.out hch
  clear hch hF hR hb2 hb3
  go_wp2_with fail
  refine (model16 (h.kept hb13) hn hL hsum hcn Hp.out).mono ?_
  rintro e w4 ⟨ga2, g2, cap2, out2, F2, rfl, hG2, hch2, hF2, hb4⟩
  obtain ⟨rfl, rfl⟩ := chain_unique out out2 Hch.out.1 hch2 Hch.out.2 hF2
  have HG : Hid (Got w4 ga g out ∧ Got w4 ga2 g2 out) := ⟨hG.kept hb4, hG2⟩
  have Hb : Hid (Below w1.heap.size w1 w4) := hb13.trans (hb4.mono hb13.size)
  clear hG hG2 hb4 hb13 hch2 hF2 d1 d2 d3 h hsum Hch
  have e0 : ((out.length : Int) == (out.length : Int)) = true := by simp
  go_wp2_with fail
  go_loopw [10] (fun x wr => ∃ k : Nat, k ≤ out.length ∧ x = .int .i64 k ∧ Below w4.heap.size w4 wr) (fun x _ => out.length - (intOf x).toNat)
  case atStart => exact ⟨0, Nat.zero_le _, rfl, Below.refl _ _⟩
  case round =>
    obtain ⟨k, hk, rfl, hbr⟩ := hrel
    by_cases hkn : k < out.length
    · obtain ⟨s, hs⟩ : ∃ s, out[k]? = some s := ⟨_, List.getElem?_eq_getElem hkn⟩
      have hGr := HG.out.1.kept hbr
      have hGr2 := HG.out.2.kept hbr
      have hga := hGr.lead (by omega)
      have hga2 := hGr2.lead (by omega)
      obtain ⟨x0, x1, x2, x3⟩ := hGr.cells k s hs
      obtain ⟨y0, y1, y2, y3⟩ := hGr2.cells k s hs
      subst hga
      subst hga2
      have yy0 := fun o => cell_old y0 o
      have yy1 := fun o => cell_old y1 o
      have yy2 := fun o => cell_old y2 o
      have yy3 := fun o => cell_old y3 o
      clear hs hGr hGr2 y0 y1 y2 y3
      have dk : decide ((k : Int) < (out.length : Int)) = true := by simp; omega
      go_wp2_with fail
      go_roundw
      case rel => exact ⟨k + 1, by omega, by go_num, (hbr.alloc hbr.size _).alloc (by have := hbr.size; simp; omega) _⟩
      case measure => simp [intOf]; omega
    · have dk : decide ((k : Int) < (out.length : Int)) = false := by simp; omega
      obtain rfl : out.length = k := by omega
      go_wp2
      go_ret
      exact ⟨rfl, Hb.out.trans (hbr.mono Hb.out.size)⟩
end Go.Proofs.Qxb6604549a
