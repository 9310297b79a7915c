/-
  THE PLAIN MATHEMATICS OF THE BINARY HEAP: an array of numbers as a function; up and down as swaps. No Go, no model.
-/
namespace Go.Proofs.Qxb6601345a.PlainHeap
set_option linter.unusedSimpArgs false
set_option linter.unusedVariables false

def swap (H : Nat → Nat) (i j : Nat) : Nat → Nat := fun k => if k = i then H j else if k = j then H i else H k

theorem swap_l (H : Nat → Nat) (i j : Nat) : swap H i j i = H j := by simp [swap]
theorem swap_r (H : Nat → Nat) (i j : Nat) : swap H i j j = H i := by
  unfold swap
  by_cases h : j = i
  · rw [if_pos h, h]
  · rw [if_neg h, if_pos rfl]
theorem swap_o (H : Nat → Nat) (i j k : Nat) (h1 : k ≠ i) (h2 : k ≠ j) : swap H i j k = H k := by simp [swap, h1, h2]

/-- Up from i, the fuel f. -/
def upF (lt : Nat → Nat → Bool) : Nat → (Nat → Nat) → Nat → Nat → Nat
  | 0, H, _ => H
  | f + 1, H, i => if 0 < i ∧ lt (H i) (H ((i - 1) / 2)) = true then upF lt f (swap H i ((i - 1) / 2)) ((i - 1) / 2) else H

/-- The earlier of i's two children (there is one at 2i+1). -/
def kid (lt : Nat → Nat → Bool) (n : Nat) (H : Nat → Nat) (i : Nat) : Nat :=
  if 2 * i + 1 + 1 < n ∧ lt (H (2 * i + 1 + 1)) (H (2 * i + 1)) = true then 2 * i + 1 + 1 else 2 * i + 1

/-- Down from i, the fuel f. -/
def downF (lt : Nat → Nat → Bool) (n : Nat) : Nat → (Nat → Nat) → Nat → Nat → Nat
  | 0, H, _ => H
  | f + 1, H, i => if 2 * i + 1 < n ∧ lt (H (kid lt n H i)) (H i) = true then downF lt n f (swap H i (kid lt n H i)) (kid lt n H i) else H

/-- The same elements, none twice. -/
def Same (n : Nat) (H H' : Nat → Nat) : Prop :=
  (∀ x, (∃ k, k < n ∧ H' k = x) ↔ (∃ k, k < n ∧ H k = x)) ∧ ((∀ j, j < n → ∀ k, k < n → j ≠ k → H j ≠ H k) → (∀ j, j < n → ∀ k, k < n → j ≠ k → H' j ≠ H' k))

theorem Same.refl (n : Nat) (H : Nat → Nat) : Same n H H := ⟨fun _ => Iff.rfl, fun h => h⟩
theorem Same.trans {n : Nat} {A B C : Nat → Nat} (h : Same n A B) (k : Same n B C) : Same n A C :=
  ⟨fun x => (k.1 x).trans (h.1 x), fun g => k.2 (h.2 g)⟩

theorem Same.swap (n : Nat) (H : Nat → Nat) (i j : Nat) (hi : i < n) (hj : j < n) : Same n H (swap H i j) := by
  constructor
  · intro x
    constructor
    · rintro ⟨k, hk, rfl⟩
      unfold PlainHeap.swap
      split
      · exact ⟨j, hj, rfl⟩
      · split
        · exact ⟨i, hi, rfl⟩
        · exact ⟨k, hk, rfl⟩
    · rintro ⟨k, hk, rfl⟩
      by_cases e1 : k = i
      · subst e1; exact ⟨j, hj, swap_r H k j⟩
      · by_cases e2 : k = j
        · subst e2; exact ⟨i, hi, swap_l H i k⟩
        · exact ⟨k, hk, swap_o H i j k e1 e2⟩
  · intro h a ha b hb hab
    unfold PlainHeap.swap
    split
    · rename_i e1
      split
      · rename_i e2; omega
      · split
        · rename_i e2 e3
          subst e1 e3
          exact h _ hb _ ha (by omega)
        · rename_i e2 e3
          exact h _ hj _ hb (by omega)
    · rename_i e1
      split
      · rename_i e2
        split
        · rename_i e3
          subst e2 e3
          exact h _ hb _ ha (by omega)
        · split
          · rename_i e3 e4; omega
          · exact h _ hi _ hb (by omega)
      · rename_i e2
        split
        · exact h _ ha _ hj (by omega)
        · split
          · exact h _ ha _ hi (by omega)
          · exact h _ ha _ hb hab

theorem upF_same (lt : Nat → Nat → Bool) (n : Nat) : ∀ f H i, i < n → Same n H (upF lt f H i) := by
  intro f
  induction f with
  | zero => intro H i _; exact Same.refl _ _
  | succ f ih =>
    intro H i hi
    simp only [upF]
    split
    · exact (Same.swap n H i _ hi (by omega)).trans (ih _ _ (by omega))
    · exact Same.refl _ _

theorem kid_lt {lt : Nat → Nat → Bool} {n : Nat} {H : Nat → Nat} {i : Nat} (h : 2 * i + 1 < n) : kid lt n H i < n := by
  unfold kid; split <;> omega
theorem kid_cases (lt : Nat → Nat → Bool) (n : Nat) (H : Nat → Nat) (i : Nat) : kid lt n H i = 2 * i + 1 ∨ kid lt n H i = 2 * i + 1 + 1 := by
  unfold kid; split <;> simp

theorem downF_same (lt : Nat → Nat → Bool) (n : Nat) : ∀ f H i, i < n → Same n H (downF lt n f H i) := by
  intro f
  induction f with
  | zero => intro H i _; exact Same.refl _ _
  | succ f ih =>
    intro H i hi
    simp only [downF]
    split
    · rename_i h
      exact (Same.swap n H i _ hi (kid_lt h.1)).trans (ih _ _ (kid_lt h.1))
    · exact Same.refl _ _

/-- A strict order that is total in the weak sense. -/
structure Ord (lt : Nat → Nat → Bool) : Prop where
  irr : ∀ x, lt x x = false
  asym : ∀ x y, lt x y = true → lt y x = false
  cotrans : ∀ x y z, lt y x = false → lt z y = false → lt z x = false

/-- x comes no later than y. -/
def le (lt : Nat → Nat → Bool) (x y : Nat) : Prop := lt y x = false

theorem Ord.refl {lt : Nat → Nat → Bool} (o : Ord lt) (x : Nat) : le lt x x := o.irr x
theorem Ord.trans {lt : Nat → Nat → Bool} (o : Ord lt) {x y z : Nat} (h : le lt x y) (k : le lt y z) : le lt x z := o.cotrans x y z h k
theorem Ord.of_lt {lt : Nat → Nat → Bool} (o : Ord lt) {x y : Nat} (h : lt x y = true) : le lt x y := o.asym x y h
theorem le_of_not {lt : Nat → Nat → Bool} {x y : Nat} (h : ¬ lt y x = true) : le lt x y := by unfold le; simpa using h

/-- The heap's order at every place but j, seen from its parent; and j's parent comes no later than j's children. -/
def HeapBut (lt : Nat → Nat → Bool) (n : Nat) (H : Nat → Nat) (j : Nat) : Prop :=
  (∀ k, 0 < k → k < n → k ≠ j → le lt (H ((k - 1) / 2)) (H k)) ∧ (0 < j → ∀ k, k < n → (k = 2 * j + 1 ∨ k = 2 * j + 2) → le lt (H ((j - 1) / 2)) (H k))

def Heap (lt : Nat → Nat → Bool) (n : Nat) (H : Nat → Nat) : Prop := ∀ k, 0 < k → k < n → le lt (H ((k - 1) / 2)) (H k)

theorem upF_heap {lt : Nat → Nat → Bool} (o : Ord lt) (n : Nat) : ∀ f H i, i ≤ f → i < n → HeapBut lt n H i → Heap lt n (upF lt f H i) := by
  intro f
  induction f with
  | zero =>
    intro H i hf hi h k h0 hk
    exact h.1 k h0 hk (by omega)
  | succ f ih =>
    intro H i hf hi h
    simp only [upF]
    by_cases hc : 0 < i ∧ lt (H i) (H ((i - 1) / 2)) = true
    · rw [if_pos hc]
      obtain ⟨h0, hlt⟩ := hc
      refine ih _ _ (by omega) (by omega) ?_
      generalize hp : (i - 1) / 2 = p at *
      have hpi : p < i := by omega
      have h1 := h.1
      have h2 := h.2 h0
      rw [hp] at h2
      constructor
      · intro k hk0 hkn hkp
        by_cases e1 : k = i
        · subst e1
          rw [swap_l, hp, swap_r]
          exact o.of_lt hlt
        · rw [swap_o H i p k e1 hkp]
          by_cases e2 : (k - 1) / 2 = i
          · rw [e2, swap_l]
            exact h2 k hkn (by omega)
          · by_cases e3 : (k - 1) / 2 = p
            · rw [e3, swap_r]
              have hk := h1 k hk0 hkn e1
              rw [e3] at hk
              exact o.trans (o.of_lt hlt) hk
            · rw [swap_o H i p _ e2 e3]
              exact h1 k hk0 hkn e1
      · intro hp0 k hkn hk
        have hpp : (p - 1) / 2 ≠ i ∧ (p - 1) / 2 ≠ p := by omega
        rw [swap_o H i p _ hpp.1 hpp.2]
        have hgp := h1 p hp0 (by omega) (by omega)
        by_cases e1 : k = i
        · subst e1; rw [swap_l]; exact hgp
        · rw [swap_o H i p k e1 (by omega)]
          have hk' := h1 k (by omega) hkn e1
          rw [show (k - 1) / 2 = p from by omega] at hk'
          exact o.trans hgp hk'
    · rw [if_neg hc]
      intro k hk0 hkn
      by_cases e : k = i
      · subst e
        exact le_of_not (fun hl => hc ⟨hk0, hl⟩)
      · exact h.1 k hk0 hkn e

/-- Before 'down' at i: the order holds at every place but i and i's children; i's parent comes no later than i's children. -/
def HeapOff (lt : Nat → Nat → Bool) (n : Nat) (H : Nat → Nat) (i : Nat) : Prop :=
  (∀ k, 0 < k → k < n → k ≠ i → (k - 1) / 2 ≠ i → le lt (H ((k - 1) / 2)) (H k)) ∧ (0 < i → ∀ k, k < n → (k = 2 * i + 1 ∨ k = 2 * i + 2) → le lt (H ((i - 1) / 2)) (H k))

theorem kid_le {lt : Nat → Nat → Bool} (o : Ord lt) {n : Nat} {H : Nat → Nat} {i : Nat} (k : Nat) (hk : k < n) (h : k = 2 * i + 1 ∨ k = 2 * i + 2) : le lt (H (kid lt n H i)) (H k) := by
  unfold kid
  split
  · rename_i hc
    rcases h with rfl | rfl
    · exact o.of_lt hc.2
    · exact o.refl _
  · rename_i hc
    rcases h with rfl | rfl
    · exact o.refl _
    · exact le_of_not (fun hl => hc ⟨hk, hl⟩)

/-- After 'down' from i the element stands at j: the order holds everywhere but, where it has not moved, at i. -/
theorem downF_heap {lt : Nat → Nat → Bool} (o : Ord lt) (n : Nat) : ∀ f H i, n ≤ f + i → i < n → HeapOff lt n H i →
    ∃ j, j < n ∧ downF lt n f H i j = H i ∧ HeapBut lt n (downF lt n f H i) j ∧ (j ≠ i → Heap lt n (downF lt n f H i)) ∧ (j = i → downF lt n f H i = H) := by
  intro f
  induction f with
  | zero => intro H i hf hi; omega
  | succ f ih =>
    intro H i hf hi h
    simp only [downF]
    by_cases hc : 2 * i + 1 < n ∧ lt (H (kid lt n H i)) (H i) = true
    · rw [if_pos hc]
      obtain ⟨hn, hlt⟩ := hc
      have hcn := kid_lt (lt := lt) (H := H) hn
      have hcc := kid_cases lt n H i
      have hkl := fun k hk h => kid_le o (n := n) (H := H) (i := i) k hk h
      generalize kid lt n H i = c at *
      have hpc : (c - 1) / 2 = i := by omega
      have off : HeapOff lt n (swap H i c) c := by
        constructor
        · intro k hk0 hkn hkc hkp
          by_cases e1 : k = i
          · subst e1
            rw [swap_l, swap_o H k c _ (by omega) (by omega)]
            exact h.2 hk0 c hcn (by omega)
          · rw [swap_o H i c k e1 hkc]
            by_cases e2 : (k - 1) / 2 = i
            · rw [e2, swap_l]; exact hkl k hkn (by omega)
            · rw [swap_o H i c _ e2 hkp]; exact h.1 k hk0 hkn e1 e2
        · intro hc0 k hkn hk
          rw [hpc, swap_l, swap_o H i c k (by omega) (by omega)]
          have := h.1 k (by omega) hkn (by omega) (by omega)
          rwa [show (k - 1) / 2 = c from by omega] at this
      obtain ⟨j, hj, hjv, hbut, hmv, hst⟩ := ih (swap H i c) c (by omega) hcn off
      rw [swap_r] at hjv
      have hle : le lt (H c) (H i) := o.of_lt hlt
      have full : Heap lt n (downF lt n f (swap H i c) c) := by
        by_cases e : j = c
        · subst e
          have hs := hst rfl
          rw [hs] at hbut ⊢
          intro k hk0 hkn
          by_cases e2 : k = j
          · subst e2; rw [swap_r, hpc, swap_l]; exact hle
          · exact hbut.1 k hk0 hkn e2
        · exact hmv e
      have hji : j ≠ i := by
        intro e
        subst e
        -- the element cannot have come back: only places from c on are touched
        have keep : ∀ f H i k, k < i → downF lt n f H i k = H k := by
          intro f
          induction f with
          | zero => intro H i k _; rfl
          | succ f ih2 =>
            intro H i k hk
            simp only [downF]
            split
            · rw [ih2 _ _ _ (by have := kid_cases lt n H i; omega), swap_o _ _ _ _ (by omega) (by have := kid_cases lt n H i; omega)]
            · rfl
        have e1 := keep f (swap H j c) c j (by omega)
        rw [swap_l, hjv] at e1
        -- then H c = H j, against lt (H c) (H j)
        rw [← e1, o.irr] at hlt
        cases hlt
      exact ⟨j, hj, hjv, hbut, fun _ => full, fun e => absurd e hji⟩
    · rw [if_neg hc]
      refine ⟨i, hi, rfl, ⟨fun k hk0 hkn hki => ?_, h.2⟩, fun e => absurd rfl e, fun _ => rfl⟩
      by_cases e : (k - 1) / 2 = i
      · have hck : k = 2 * i + 1 ∨ k = 2 * i + 2 := by omega
        have hn : 2 * i + 1 < n := by omega
        have h1 : le lt (H i) (H (kid lt n H i)) := le_of_not (fun hl => hc ⟨hn, hl⟩)
        rw [e]
        exact o.trans h1 (kid_le o k hkn hck)
      · exact h.1 k hk0 hkn hki e

/-- The root comes no later than any other. -/
theorem heap_root {lt : Nat → Nat → Bool} (o : Ord lt) (n : Nat) (H : Nat → Nat) (h : Heap lt n H) : ∀ k, k < n → le lt (H 0) (H k) := by
  intro k
  induction k using Nat.strongRecOn with
  | _ k ih =>
    intro hk
    by_cases e : k = 0
    · subst e; exact o.refl _
    · exact o.trans (ih ((k - 1) / 2) (by omega) (by omega)) (h k (by omega) hk)

end Go.Proofs.Qxb6601345a.PlainHeap
