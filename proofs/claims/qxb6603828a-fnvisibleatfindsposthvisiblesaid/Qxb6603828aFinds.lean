import Derived.Test.Qxb6603828aBuild
import Derived.Test.Qxb6603828aZVis
import Derived.Test.Qxb6603828aZz
namespace Go.Proofs.Qxb6603828a
open Go.RowKit

set_option maxHeartbeats 1000000 in
theorem finds3 {w : World} {ao : Option Addr} {n nc gb go : Nat} {A : Nat → Option Addr} {L C RB RO : Nat → Nat} {E : Nat → Nat → El} (h : Arg w ao n gb go A L C RB RO E)
    {vo : Option Addr} {m mc vb vf : Nat} {V : Nat → Int} (hv : VArg w vo m vb vf V) (hm : m ≤ 9223372036854775807) (vis pos : Int) :
    Calls Try.prog 3 #[.slice ao n nc, .slice vo m mc, .int .i64 vis, .int .i64 pos] w fun e w' => e = .returned (.bool true) ∧ Below w.heap.size w w' := by
  go_enter Try.func3, Try.ntmps3
  go_wp2_with fail
  refine (zz8 h vo m mc hm _ _).mono ?_
  rintro e w1 ⟨⟨b1, rfl⟩, rfl⟩
  cases b1
  · go_wp2
    go_ret
    exact ⟨rfl, Below.refl _ _⟩
  go_wp2_with fail
  refine (size9 h vo m mc hm).mono ?_
  rintro e w1 ⟨⟨b1, rfl, hsz⟩, rfl⟩
  cases b1
  · go_wp2
    go_ret
    exact ⟨rfl, Below.refl _ _⟩
  have hs := hsz rfl
  clear hsz
  go_wp2_with fail
  refine (well10 h hv vis hs).mono ?_
  rintro e w1 ⟨⟨b1, rfl, hwf⟩, rfl⟩
  cases b1
  · go_wp2
    go_ret
    exact ⟨rfl, Below.refl _ _⟩
  obtain ⟨rfl, hV, hvis⟩ := hwf rfl
  clear hwf
  by_cases p1 : pos < 0
  · have d1 : decide (pos < (0 : Int)) = true := by simp; omega
    go_wp2
    go_ret
    exact ⟨rfl, Below.refl _ _⟩
  have d1 : decide (pos < (0 : Int)) = false := by simp; omega
  by_cases p2 : vis ≤ pos
  · have d2 : decide (vis ≤ pos) = true := by simp; omega
    go_wp2
    go_ret
    exact ⟨rfl, Below.refl _ _⟩
  have d2 : decide (vis ≤ pos) = false := by simp; omega
  have HV : Hid (∀ k, k < m → V k = cntR (RR E k) (L k)) := hV
  have Hvis : Hid (vis = before (RR E) L m) := hvis
  clear hV hvis
  go_wp2_with fail
  refine (build11 h hv vis hs).mono ?_
  rintro e w2 ⟨sb, P, G, rfl, hB⟩
  go_wp2_with fail
  refine (zvis12 hB.seqM hs HV.out pos (by omega) (by rw [← Hvis.out]; omega)).mono ?_
  rintro e w3 ⟨⟨b, i, rfl, hat⟩, hb3⟩
  have hat' := hat
  obtain ⟨hbn, hil, hr, hrank⟩ := hat'
  have hb13 : Below w1.heap.size w1 w3 := hB.out.below.trans (hb3.mono hB.out.below.size)
  have h3 := h.kept hb13
  have hrow := h3.row b hbn
  rw [h.lead b hbn i hil] at hrow
  have hc3 := h3.c3 b hbn i hil
  rw [show (E b i).r = false from hr] at hc3
  obtain rfl := h.ga (by omega)
  have hrk : ((rank (RR E) L b i : Nat) : Int) = pos := by
    show ((before (RR E) L b + cntR (RR E b) i : Nat) : Int) = pos
    rw [hrank]; omega
  have d5 : (((rank (RR E) L b i : Nat) : Int) == pos) = true := by rw [beq_iff_eq]; exact hrk
  clear hr hrank hrk
  have hlb := hs.row hbn
  have hn := hs.n
  go_wp2_with fail
  have h13 := vbef13 (nc := nc) h3 hs (b : Int) (i : Int) (by omega) (by omega) (by omega) (by simp; omega)
  simp only [Int.toNat_natCast] at h13
  refine h13.mono ?_
  rintro e w4 ⟨rfl, rfl⟩
  clear h13
  go_wp2
  go_ret
  exact ⟨rfl, hb13⟩
end Go.Proofs.Qxb6603828a
