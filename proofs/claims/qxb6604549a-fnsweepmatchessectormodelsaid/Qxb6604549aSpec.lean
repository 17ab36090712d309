/-
  PLAIN: what the sweep computes, by sector positions.
-/
import Derived.Test.Qxb6604549aPrem
namespace Go.Proofs.Qxb6604549a
set_option linter.unusedVariables false

/-- The extent of answer i. -/
def ext (E : Nat → Nat → Sp) (L : Nat → Nat) (i : Nat) : Nat := st E i (L i)

/-- How many of the first l spans of answer i end at or before p. -/
def doneTo (E : Nat → Nat → Sp) (i p : Nat) : Nat → Nat
  | 0 => 0
  | l + 1 => doneTo E i p l + (if st E i (l + 1) ≤ p then 1 else 0)

/-- The span of answer i in which sector p lies. -/
def idx (E : Nat → Nat → Sp) (L : Nat → Nat) (i p : Nat) : Nat := doneTo E i p (L i)

theorem st_mono (E : Nat → Nat → Sp) (i : Nat) {a b : Nat} (h : a ≤ b) : st E i a ≤ st E i b := sumN_mono _ h

theorem doneTo_le (E : Nat → Nat → Sp) (i p l : Nat) : doneTo E i p l ≤ l := by
  induction l with
  | zero => exact Nat.le_refl _
  | succ l ih =>
    show doneTo E i p l + _ ≤ _
    split <;> omega

/-- Where all counts are positive: exactly the first ones end at or before p. -/
theorem doneTo_spec (E : Nat → Nat → Sp) (i p l : Nat) (hp : ∀ j, j < l → 0 < (E i j).c) :
    (∀ j, j < doneTo E i p l → st E i (j + 1) ≤ p) ∧ (doneTo E i p l < l → p < st E i (doneTo E i p l + 1)) := by
  induction l with
  | zero => exact ⟨fun j hj => absurd hj (Nat.not_lt_zero _), fun h => absurd h (Nat.not_lt_zero _)⟩
  | succ l ih =>
    obtain ⟨h1, h2⟩ := ih (fun j hj => hp j (by omega))
    have hle := doneTo_le E i p l
    have e : doneTo E i p (l + 1) = doneTo E i p l + (if st E i (l + 1) ≤ p then 1 else 0) := rfl
    by_cases hs : st E i (l + 1) ≤ p
    · rw [if_pos hs] at e
      have hfull : doneTo E i p l = l := by
        rcases Nat.lt_or_ge (doneTo E i p l) l with q | q
        · have q1 := h2 q
          have q2 := st_mono E i (show doneTo E i p l + 1 ≤ l + 1 by omega)
          omega
        · omega
      rw [e, hfull]
      refine ⟨fun j hj => ?_, fun h => by omega⟩
      exact Nat.le_trans (st_mono E i (show j + 1 ≤ l + 1 by omega)) hs
    · rw [if_neg hs] at e
      rw [e, Nat.add_zero]
      refine ⟨h1, fun h => ?_⟩
      rcases Nat.lt_or_ge (doneTo E i p l) l with q | q
      · exact h2 q
      · have : doneTo E i p l = l := by omega
        rw [this]; omega

section
variable {E : Nat → Nat → Sp} {L : Nat → Nat} {i : Nat}

theorem idx_le (p : Nat) : idx E L i p ≤ L i := doneTo_le _ _ _ _

theorem idx_start (hp : ∀ j, j < L i → 0 < (E i j).c) (p : Nat) : st E i (idx E L i p) ≤ p := by
  rcases Nat.eq_zero_or_pos (idx E L i p) with e | e
  · rw [e]; exact Nat.zero_le _
  · have := (doneTo_spec E i p (L i) hp).1 (idx E L i p - 1) (by show idx E L i p - 1 < idx E L i p; omega)
    rw [show idx E L i p - 1 + 1 = idx E L i p by omega] at this
    exact this

theorem idx_end (hp : ∀ j, j < L i → 0 < (E i j).c) {p : Nat} (h : idx E L i p < L i) : p < st E i (idx E L i p + 1) := (doneTo_spec E i p (L i) hp).2 h

theorem idx_lt (hp : ∀ j, j < L i → 0 < (E i j).c) {p : Nat} (h : p < ext E L i) : idx E L i p < L i := by
  rcases Nat.lt_or_ge (idx E L i p) (L i) with q | q
  · exact q
  · have e : idx E L i p = L i := by have := idx_le (E := E) (L := L) (i := i) p; omega
    have := idx_start hp p
    rw [e] at this
    unfold ext at h
    omega

theorem idx_ge (hp : ∀ j, j < L i → 0 < (E i j).c) {p : Nat} (h : ext E L i ≤ p) : idx E L i p = L i := by
  rcases Nat.lt_or_ge (idx E L i p) (L i) with q | q
  · have q1 := idx_end hp q
    have q2 := st_mono E i (show idx E L i p + 1 ≤ L i by omega)
    unfold ext at h
    omega
  · have := idx_le (E := E) (L := L) (i := i) p; omega

/-- There is only one. -/
theorem idx_unique (hp : ∀ j, j < L i → 0 < (E i j).c) {p j : Nat} (hj : j < L i) (h1 : st E i j ≤ p) (h2 : p < st E i (j + 1)) : idx E L i p = j := by
  have hx : p < ext E L i := Nat.lt_of_lt_of_le h2 (st_mono E i (by omega))
  have a := idx_lt hp hx
  have b := idx_start hp p
  have c := idx_end hp a
  rcases Nat.lt_trichotomy (idx E L i p) j with q | q | q
  · have := st_mono E i (show idx E L i p + 1 ≤ j by omega); omega
  · exact q
  · have := st_mono E i (show j + 1 ≤ idx E L i p by omega); omega

theorem idx_zero (hp : ∀ j, j < L i → 0 < (E i j).c) (hl : 0 < L i) : idx E L i 0 = 0 :=
  idx_unique hp hl (Nat.le_refl _) (by rw [st_succ]; have := hp 0 hl; omega)

/-- How many of its sectors lie from p on. -/
def lft (E : Nat → Nat → Sp) (L : Nat → Nat) (i p : Nat) : Nat := if p < ext E L i then st E i (idx E L i p + 1) - p else 0

theorem lft_pos (hp : ∀ j, j < L i → 0 < (E i j).c) {p : Nat} (h : p < ext E L i) : 0 < lft E L i p := by
  unfold lft; rw [if_pos h]
  have := idx_end hp (idx_lt hp h); omega

theorem lft_le (hp : ∀ j, j < L i → 0 < (E i j).c) (p : Nat) : lft E L i p ≤ ext E L i := by
  unfold lft
  by_cases h : p < ext E L i
  · rw [if_pos h]
    have := st_mono E i (show idx E L i p + 1 ≤ L i by have := idx_lt hp h; omega)
    show _ ≤ st E i (L i)
    omega
  · rw [if_neg h]; exact Nat.zero_le _

/-- A step of c sectors that does not pass the span's end. -/
theorem step_in (hp : ∀ j, j < L i → 0 < (E i j).c) {p c : Nat} (h : p < ext E L i) (hc : c < lft E L i p) : p + c < ext E L i ∧ idx E L i (p + c) = idx E L i p ∧ lft E L i (p + c) = lft E L i p - c := by
  have a := idx_lt hp h
  have b := idx_start hp p
  have hl : lft E L i p = st E i (idx E L i p + 1) - p := by unfold lft; rw [if_pos h]
  have hx : p + c < ext E L i := by
    have := st_mono E i (show idx E L i p + 1 ≤ L i by omega)
    show _ < st E i (L i)
    omega
  have hi : idx E L i (p + c) = idx E L i p := idx_unique hp a (by omega) (by omega)
  refine ⟨hx, hi, ?_⟩
  have : lft E L i (p + c) = st E i (idx E L i (p + c) + 1) - (p + c) := by unfold lft; rw [if_pos hx]
  rw [this, hi, hl]
  omega

/-- A step to the span's end. -/
theorem step_out (hp : ∀ j, j < L i → 0 < (E i j).c) {p : Nat} (h : p < ext E L i) : idx E L i (p + lft E L i p) = idx E L i p + 1 ∧
    (idx E L i p + 1 < L i → p + lft E L i p < ext E L i ∧ lft E L i (p + lft E L i p) = (E i (idx E L i p + 1)).c) ∧ (idx E L i p + 1 = L i → ext E L i ≤ p + lft E L i p) := by
  have a := idx_lt hp h
  have b := idx_end hp a
  have hl : lft E L i p = st E i (idx E L i p + 1) - p := by unfold lft; rw [if_pos h]
  have hpos : p + lft E L i p = st E i (idx E L i p + 1) := by omega
  rw [hpos]
  by_cases e : idx E L i p + 1 < L i
  · have hu : idx E L i (st E i (idx E L i p + 1)) = idx E L i p + 1 := idx_unique hp e (Nat.le_refl _) (by rw [st_succ E i (idx E L i p + 1)]; have := hp _ e; omega)
    have hx : st E i (idx E L i p + 1) < ext E L i := by
      have := st_mono E i (show idx E L i p + 1 + 1 ≤ L i by omega)
      rw [st_succ E i (idx E L i p + 1)] at this
      have q := hp _ e
      show _ < st E i (L i)
      omega
    refine ⟨hu, fun _ => ⟨hx, ?_⟩, fun h => by omega⟩
    have : lft E L i (st E i (idx E L i p + 1)) = st E i (idx E L i (st E i (idx E L i p + 1)) + 1) - st E i (idx E L i p + 1) := by unfold lft; rw [if_pos hx]
    rw [this, hu, st_succ E i (idx E L i p + 1)]
    omega
  · have e' : idx E L i p + 1 = L i := by omega
    have hx : ext E L i ≤ st E i (idx E L i p + 1) := by rw [e']; exact Nat.le_refl _
    exact ⟨by rw [idx_ge hp hx, e'], fun h => absurd h e, fun _ => hx⟩
end

/-- How many of the first m nodes' answers reach beyond p. -/
def reach (E : Nat → Nat → Sp) (L : Nat → Nat) (p : Nat) : Nat → Nat
  | 0 => 0
  | m + 1 => reach E L p m + (if p < ext E L m then 1 else 0)

/-- The shortest rest among them. -/
def least (E : Nat → Nat → Sp) (L : Nat → Nat) (p : Nat) : Nat → Nat
  | 0 => 18446744073709551615
  | m + 1 => if p < ext E L m then min (least E L p m) (lft E L m p) else least E L p m

/-- The Holes' tags that they give sector p, in order. -/
def holes (E : Nat → Nat → Sp) (L : Nat → Nat) (p : Nat) : Nat → List (Int × Int)
  | 0 => []
  | m + 1 => holes E L p m ++ (if p < ext E L m ∧ (E m (idx E L m p)).h = true then [((E m (idx E L m p)).t, (E m (idx E L m p)).k)] else [])

/-- How often a tag stands in a list. -/
def cnt (x : Int × Int) : List (Int × Int) → Nat
  | [] => 0
  | y :: l => (if y = x then 1 else 0) + cnt x l

/-- The most frequent tag, the first of equals: going through a list, in hand the best so far. -/
def pick (all : List (Int × Int)) : (Int × Int) × Nat → List (Int × Int) → (Int × Int) × Nat
  | b, [] => b
  | b, x :: l => pick all (if b.2 < cnt x all then (x, cnt x all) else b) l

theorem pick_snoc (all : List (Int × Int)) (x : Int × Int) : ∀ (l : List (Int × Int)) (b : (Int × Int) × Nat), pick all b (l ++ [x]) = if (pick all b l).2 < cnt x all then (x, cnt x all) else pick all b l
  | [], _ => rfl
  | y :: l, b => pick_snoc all x l _

theorem cnt_append (x : Int × Int) : ∀ (l m : List (Int × Int)), cnt x (l ++ m) = cnt x l + cnt x m
  | [], m => by show cnt x m = 0 + cnt x m; omega
  | y :: l, m => by show _ + cnt x (l ++ m) = _ + cnt x l + cnt x m; rw [cnt_append x l m]; omega

/-- One stretch. -/
structure Stretch where
  c : Nat
  t : Int
  k : Int
  v : Nat

def stretchAt (E : Nat → Nat → Sp) (L : Nat → Nat) (n p : Nat) : Stretch :=
  ⟨least E L p n, (pick (holes E L p n) ((0, 0), 0) (holes E L p n)).1.1, (pick (holes E L p n) ((0, 0), 0) (holes E L p n)).1.2, (pick (holes E L p n) ((0, 0), 0) (holes E L p n)).2⟩

/-- Are these the stretches from p on, as long as more than half reach? Then: where they end. -/
def chain (E : Nat → Nat → Sp) (L : Nat → Nat) (n : Nat) : List Stretch → Nat → Nat → Prop
  | [], p, q => p = q
  | s :: l, p, q => n / 2 < reach E L p n ∧ s = stretchAt E L n p ∧ chain E L n l (p + least E L p n) q

theorem chain_snoc {E : Nat → Nat → Sp} {L : Nat → Nat} {n : Nat} : ∀ (l : List Stretch) {p q : Nat}, chain E L n l p q → n / 2 < reach E L q n → chain E L n (l ++ [stretchAt E L n q]) p (q + least E L q n)
  | [], p, q, h, hr => by
    have e : p = q := h
    subst e
    exact ⟨hr, rfl, rfl⟩
  | s :: l, p, q, h, hr => ⟨h.1, h.2.1, chain_snoc l h.2.2 hr⟩

/-- Two such lists that end where no more than half reach are one. -/
theorem chain_unique {E : Nat → Nat → Sp} {L : Nat → Nat} {n : Nat} : ∀ (l l' : List Stretch) {p q q' : Nat}, chain E L n l p q → chain E L n l' p q' → reach E L q n ≤ n / 2 → reach E L q' n ≤ n / 2 → l = l' ∧ q = q'
  | [], [], p, q, q', h, h', _, _ => ⟨rfl, by have a : p = q := h; have b : p = q' := h'; omega⟩
  | [], s :: l', p, q, q', h, h', hr, _ => by
    have a : p = q := h
    subst a
    have := h'.1
    omega
  | s :: l, [], p, q, q', h, h', _, hr => by
    have a : p = q' := h'
    subst a
    have := h.1
    omega
  | s :: l, s' :: l', p, q, q', h, h', hr, hr' => by
    obtain ⟨e1, e2⟩ := chain_unique l l' h.2.2 h'.2.2 hr hr'
    rw [h.2.1, h'.2.1, e1, e2]
    exact ⟨rfl, rfl⟩
end Go.Proofs.Qxb6604549a
