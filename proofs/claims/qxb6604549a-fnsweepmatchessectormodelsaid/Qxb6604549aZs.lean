import Derived.Test.Qxb6604549aSweep
import Derived.Test.Qxb6604549aCovPlain
namespace Go.Proofs.Qxb6604549a
open Go.RowKit
set_option linter.unusedVariables false
set_option linter.unusedSimpArgs false

/-- A slice of stretches in memory. -/
structure Got (w : World) (ga : Option Addr) (g : Nat) (l : List Stretch) : Prop where
  lead : 0 < l.length → ga = some ⟨g, 0, none⟩
  cells : ∀ i s, l[i]? = some s → w.cell? ⟨g, i * 4, none⟩ = some (.int .u64 (s.c : Int)) ∧ w.cell? ⟨g, i * 4 + 1, none⟩ = some (.int .u64 s.t) ∧ w.cell? ⟨g, i * 4 + 2, none⟩ = some (.int .u32 s.k) ∧ w.cell? ⟨g, i * 4 + 3, none⟩ = some (.int .i64 (s.v : Int))

theorem Got.kept {w w' : World} {ga : Option Addr} {g : Nat} {l : List Stretch} (h : Got w ga g l) (hb : Below w.heap.size w w') : Got w' ga g l :=
  ⟨h.lead, fun i s hs => ⟨cell_kept hb (h.cells i s hs).1, cell_kept hb (h.cells i s hs).2.1, cell_kept hb (h.cells i s hs).2.2.1, cell_kept hb (h.cells i s hs).2.2.2⟩⟩

theorem stc_at : ∀ (l : List Stretch) (i : Nat) (s : Stretch), l[i]? = some s → (l.flatMap stc)[i * 4]? = some (.int .u64 (s.c : Int)) ∧ (l.flatMap stc)[i * 4 + 1]? = some (.int .u64 s.t) ∧ (l.flatMap stc)[i * 4 + 2]? = some (.int .u32 s.k) ∧ (l.flatMap stc)[i * 4 + 3]? = some (.int .i64 (s.v : Int))
  | [], i, s, h => by simp at h
  | x :: l, 0, s, h => by
    simp at h
    subst h
    exact ⟨rfl, rfl, rfl, rfl⟩
  | x :: l, i + 1, s, h => by
    have q := stc_at l i s (by simpa using h)
    rw [show (i + 1) * 4 = i * 4 + 4 by omega]
    exact q

theorem got_of {w : World} {B : Nat} {v : Value} {l : List Stretch} (h : w.ownsRow B 54 4 v l.length (l.flatMap stc)) : ∃ ga g cap, v = .slice ga l.length cap ∧ Got w ga g l ∧ (0 < l.length → B ≤ g) := by
  rcases h.2 with ⟨rfl, h0⟩ | ⟨g, cap, cur, rfl, hg, hh, h1, h2, h3, h4⟩
  · refine ⟨none, 0, 0, by rw [h0], ⟨fun q => by omega, fun i s hs => ?_⟩, fun q => by omega⟩
    have : l = [] := List.eq_nil_of_length_eq_zero h0
    subst this
    simp at hs
  · refine ⟨_, g, cap, rfl, ⟨fun _ => rfl, fun i s hs => ?_⟩, fun _ => hg⟩
    have hlt : i < l.length := by
      rcases Nat.lt_or_ge i l.length with q | q
      · exact q
      · rw [List.getElem?_eq_none q] at hs; cases hs
    have q := stc_at l i s hs
    rw [← h4] at q
    rw [List.getElem?_take_of_lt (by omega), List.getElem?_take_of_lt (by omega), List.getElem?_take_of_lt (by omega), List.getElem?_take_of_lt (by omega)] at q
    simp only [Array.getElem?_toList] at q
    exact ⟨cell_of_blk hh q.1, cell_of_blk hh q.2.1, cell_of_blk hh q.2.2.1, cell_of_blk hh q.2.2.2⟩

def ZsRet (w : World) (n : Nat) (L : Nat → Nat) (E : Nat → Nat → Sp) (e : Ending) (w' : World) : Prop :=
  ∃ ga g cap out F, e = .returned (.slice ga out.length cap) ∧ Got w' ga g out ∧ chain E L n out 0 F ∧ reach E L F n ≤ n / 2 ∧ Below w.heap.size w w'

set_option maxHeartbeats 1000000 in
theorem zs14 {w : World} {ro : Option Addr} {n rb : Nat} {A : Nat → Option Addr} {L S : Nat → Nat} {E : Nat → Nat → Sp} (h : Arg w ro n rb 0 A L L S (fun _ => 0) E) (hn : n ≤ 256) (hL : ∀ k, k < n → L k ≤ 1048576) (hsum : sumN L n ≤ 4096)
    {cn : Nat} (hcn : cn ≤ 18446744073709551615) (hp : Prem n L E cn) (hd : Int) :
    Calls Try.prog 14 #[.int .u64 (cn : Int), .slice ro n n, .int .i64 hd] w fun e w' => ZsRet w n L E e w' := by
  have hA : Below w.heap.size w ((w.alloc (.cells #[.int .u64 (cn : Int), .slice ro n n, .int .i64 hd] 77)).alloc (.cells #[.slice none 0 0] 47)) := ((Below.refl _ _).alloc (Nat.le_refl _) _).alloc (by simp) _
  have h1 := h.kept hA
  have hob := Deep.blk_alloc_new (w.alloc (.cells #[.int .u64 (cn : Int), .slice ro n n, .int .i64 hd] 77)) (.cells #[.slice none 0 0] 47)
  simp only [World.size_alloc] at hob
  have hsv : ((w.alloc (.cells #[.int .u64 (cn : Int), .slice ro n n, .int .i64 hd] 77)).alloc (.cells #[.slice none 0 0] 47)).cell? ⟨w.heap.size, 1, none⟩ = some (.slice ro n n) :=
    cell_old (cell_of_blk (Deep.blk_alloc_new w _) rfl) _
  have HC : Hid (Calls Try.prog 27 #[.pointer (some ⟨w.heap.size, 0, none⟩), .func (.func 28) #[] #[.pointer (some ⟨w.heap.size + 1, 0, none⟩)]] ((w.alloc (.cells #[.int .u64 (cn : Int), .slice ro n n, .int .i64 hd] 77)).alloc (.cells #[.slice none 0 0] 47)) fun e w' => SwRet ((w.alloc (.cells #[.int .u64 (cn : Int), .slice ro n n, .int .i64 hd] 77)).alloc (.cells #[.slice none 0 0] 47)) n (w.heap.size + 1) L E e w') :=
    sweep27 h1 hn hL hsum hcn hp hsv (by omega) (fun hn0 => by have := World.block_lt_of_cell? _ _ (h.row 0 (by omega)); simp at this; omega) (fun k hk j hj => by have := World.block_lt_of_cell? _ _ (h.c0 k hk j hj); simp at this; omega) hob
  have HA : Hid (Below w.heap.size w ((w.alloc (.cells #[.int .u64 (cn : Int), .slice ro n n, .int .i64 hd] 77)).alloc (.cells #[.slice none 0 0] 47))) := hA
  clear hA h1 hob hsv hp
  go_enter Try.func14, Try.ntmps14
  go_wp2_with fail
  refine HC.out.mono ?_
  rintro e w1 ⟨rfl, out, F, hS, hch, hF⟩
  obtain ⟨v, hO⟩ := hS.out
  obtain ⟨ga, g, cap, rfl, hG, _⟩ := got_of hO.own
  have c1 := cell_of_one hO.var
  have hB : Below w.heap.size w w1 := by
    have hs := hS.size
    simp at hs
    exact ⟨hS.os, hS.tape, hS.output, by omega, fun b hb => by rw [hS.keep b (by simp; omega) (by omega)]; exact HA.out.block b hb⟩
  have HX : Hid (Got w1 ga g out ∧ chain E L n out 0 F ∧ reach E L F n ≤ n / 2 ∧ Below w.heap.size w w1) := ⟨hG, hch, hF, hB⟩
  clear hS hO hG hch hF hB
  go_wp2
  go_ret
  exact ⟨ga, g, cap, out, F, rfl, HX.out.1, HX.out.2.1, HX.out.2.2.1, HX.out.2.2.2⟩
end Go.Proofs.Qxb6604549a
