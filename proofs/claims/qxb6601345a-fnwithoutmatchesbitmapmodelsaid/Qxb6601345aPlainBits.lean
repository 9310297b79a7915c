import Derived.Test.Qxb6601345aPlainIds
/-
  THE BITMAP, plainly: marks as functions.
-/
namespace Go.Proofs.Qxb6601345a.PlainIds
set_option linter.unusedSimpArgs false
set_option linter.unusedVariables false

/-- The marks F, those from a up to (not with) x turned to v. -/
def setR (v : Bool) (F : Nat → Bool) (a x : Nat) : Nat → Bool := fun j => if a ≤ j ∧ j < x then v else F j

def markAll (v : Bool) (F : Nat → Bool) (L : List (Nat × Nat)) : Nat → Bool := L.foldl (fun F r => setR v F r.1 (r.2 + 1)) F

theorem setR_start (v : Bool) (F : Nat → Bool) (a : Nat) : setR v F a a = F := by
  funext j; unfold setR; rw [if_neg (by omega)]
theorem setR_next (v : Bool) (F : Nat → Bool) (a x j : Nat) (h : a ≤ x) : setR v F a (x + 1) j = if j = x then v else setR v F a x j := by
  unfold setR
  by_cases e : j = x
  · subst e; rw [if_pos (by omega), if_pos rfl]
  · rw [if_neg e]
    by_cases h2 : a ≤ j ∧ j < x
    · rw [if_pos (by omega), if_pos h2]
    · rw [if_neg (by omega), if_neg h2]
theorem setR_end (v : Bool) (F : Nat → Bool) (a x h : Nat) (h1 : ¬ x ≤ h) (h2 : x ≤ h + 1 ∨ x = a) : setR v F a x = setR v F a (h + 1) := by
  funext j
  unfold setR
  by_cases e : a ≤ j ∧ j < x
  · rw [if_pos e, if_pos (by omega)]
  · rw [if_neg e, if_neg (by omega)]

theorem markAll_snoc (v : Bool) (F : Nat → Bool) (L : List (Nat × Nat)) (r : Nat × Nat) : markAll v F (L ++ [r]) = setR v (markAll v F L) r.1 (r.2 + 1) := by
  simp [markAll]

theorem markAll_true (L : List (Nat × Nat)) : ∀ (F : Nat → Bool) (x : Nat), markAll true F L x = true ↔ F x = true ∨ mem x L := by
  induction L with
  | nil => intro F x; simp [markAll, mem_nil]
  | cons p r ih =>
    obtain ⟨l, h⟩ := p
    intro F x
    show markAll true (setR true F l (h + 1)) r x = true ↔ _
    rw [ih, mem_cons]
    unfold setR
    by_cases e : l ≤ x ∧ x < h + 1
    · rw [if_pos e]
      constructor
      · intro _; right; left; omega
      · intro _; left; rfl
    · rw [if_neg e]
      constructor
      · rintro (g | g)
        · exact .inl g
        · exact .inr (.inr g)
      · rintro (g | g | g)
        · exact .inl g
        · omega
        · exact .inr g

theorem markAll_false (L : List (Nat × Nat)) : ∀ (F : Nat → Bool) (x : Nat), markAll false F L x = true ↔ F x = true ∧ ¬ mem x L := by
  induction L with
  | nil => intro F x; simp [markAll, mem_nil]
  | cons p r ih =>
    obtain ⟨l, h⟩ := p
    intro F x
    show markAll false (setR false F l (h + 1)) r x = true ↔ _
    rw [ih, mem_cons]
    unfold setR
    by_cases e : l ≤ x ∧ x < h + 1
    · rw [if_pos e]
      constructor
      · rintro ⟨g, _⟩; cases g
      · rintro ⟨_, g⟩; exact absurd (.inl (by omega)) g
    · rw [if_neg e]
      constructor
      · rintro ⟨g, g'⟩
        refine ⟨g, ?_⟩
        rintro (q | q)
        · omega
        · exact g' q
      · rintro ⟨g, g'⟩
        exact ⟨g, fun q => g' (.inr q)⟩

def bits (S T : List (Nat × Nat)) : Nat → Bool := markAll false (markAll true (fun _ => false) S) T

theorem bits_iff (S T : List (Nat × Nat)) (x : Nat) : bits S T x = true ↔ mem x S ∧ ¬ mem x T := by
  unfold bits
  rw [markAll_false, markAll_true]
  simp

/-- A run of marks is read as one. -/
theorem scan_run (f : Nat → Bool) (N lo : Nat) : ∀ (n x : Nat), x + n = N → lo < x → ∀ y, x ≤ y → y ≤ N → (∀ z, x ≤ z → z < y → f z = true) → (y = N ∨ f y = false) →
    scan f n x (some lo) = (lo, y - 1) :: scan f (N - y) y none := by
  intro n
  induction n with
  | zero =>
    intro x hx hlo y h1 h2 _ _
    have e : y = x := by omega
    subst e
    rw [show N - y = 0 from by omega]
    rfl
  | succ n ih =>
    intro x hx hlo y h1 h2 h3 h4
    by_cases e : y = x
    · subst e
      rcases h4 with h4 | h4
      · omega
      · rw [show N - y = n + 1 from by omega]
        simp only [scan]
        rw [if_neg (by simp [h4]), if_neg (by simp [h4])]
    · have hf : f x = true := h3 x (Nat.le_refl _) (by omega)
      simp only [scan]
      rw [if_pos hf]
      exact ih (x + 1) (by omega) (by omega) y (by omega) h2 (fun z hz1 hz2 => h3 z (by omega) hz2) h4

theorem scan_open (f : Nat → Bool) (N lo y : Nat) (h0 : lo < N) (h1 : lo < y) (h2 : y ≤ N) (h3 : ∀ z, lo ≤ z → z < y → f z = true) (h4 : y = N ∨ f y = false) :
    scan f (N - lo) lo none = (lo, y - 1) :: scan f (N - y) y none := by
  rw [show N - lo = (N - (lo + 1)) + 1 from by omega]
  simp only [scan]
  rw [if_pos (h3 lo (Nat.le_refl _) h1)]
  exact scan_run f N lo (N - (lo + 1)) (lo + 1) (by omega) (by omega) y (by omega) h2 (fun z hz1 hz2 => h3 z (by omega) hz2) h4

theorem scan_skip (f : Nat → Bool) (N x : Nat) (h0 : x < N) (h1 : f x = false) : scan f (N - x) x none = scan f (N - (x + 1)) (x + 1) none := by
  rw [show N - x = (N - (x + 1)) + 1 from by omega]
  simp only [scan]
  rw [if_neg (by simp [h1])]

end Go.Proofs.Qxb6601345a.PlainIds
