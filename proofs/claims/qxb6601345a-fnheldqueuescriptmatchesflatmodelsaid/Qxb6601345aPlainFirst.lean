import Derived.Test.Qxb6601345aFirst
/-
  THE PLAIN LAW OF THE FLAT MODEL: the first message of the heap's root is the earliest of those alive. No Go, no model.
-/
namespace Go.Proofs.Qxb6601345a
set_option linter.unusedVariables false
set_option linter.unusedSimpArgs false

theorem ltM_irr (u : MsgV) : ltM u u = false := ltK_irr _ _
theorem ltM_cases (u v : MsgV) : ltM u v = true ↔ u.ts < v.ts ∨ (u.ts = v.ts ∧ u.fr < v.fr) := by simp [ltM, ltK]
theorem ltM_false (u v : MsgV) : ltM u v = false ↔ ¬ (u.ts < v.ts ∨ (u.ts = v.ts ∧ u.fr < v.fr)) := by
  rw [← ltM_cases]; simp

/-- bestTo is an earliest one that is alive. -/
theorem bestTo_spec (mg : Nat → MsgV) (al : Nat → Bool) : ∀ i, (bestTo mg al i = none → ∀ j, j < i → al j = false) ∧ (∀ b, bestTo mg al i = some b → b < i ∧ al b = true ∧ ∀ j, j < i → al j = true → ltM (mg j) (mg b) = false) := by
  intro i
  induction i with
  | zero => exact ⟨fun _ j hj => by omega, fun b h => by cases h⟩
  | succ i ih =>
    obtain ⟨ih1, ih2⟩ := ih
    cases hal : al i with
    | false =>
      have e : bestTo mg al (i + 1) = bestTo mg al i := by simp [bestTo, hal]
      rw [e]
      refine ⟨fun h j hj => ?_, fun b h => ?_⟩
      · by_cases e' : j = i
        · rw [e']; exact hal
        · exact ih1 h j (by omega)
      · obtain ⟨h1, h2, h3⟩ := ih2 b h
        refine ⟨by omega, h2, fun j hj hj' => ?_⟩
        by_cases e' : j = i
        · rw [e', hal] at hj'; cases hj'
        · exact h3 j (by omega) hj'
    | true =>
      cases hb : bestTo mg al i with
      | none =>
        have e : bestTo mg al (i + 1) = some i := by simp [bestTo, hal, hb]
        rw [e]
        refine ⟨(fun h => by cases h), fun b h => ?_⟩
        cases h
        refine ⟨by omega, hal, fun j hj hj' => ?_⟩
        by_cases e' : j = i
        · rw [e']; exact ltM_irr _
        · rw [ih1 hb j (by omega)] at hj'; cases hj'
      | some k =>
        obtain ⟨h1, h2, h3⟩ := ih2 k hb
        cases hl : ltM (mg i) (mg k) with
        | true =>
          have e : bestTo mg al (i + 1) = some i := by simp [bestTo, hal, hb, hl]
          rw [e]
          refine ⟨(fun h => by cases h), fun b h => ?_⟩
          cases h
          refine ⟨by omega, hal, fun j hj hj' => ?_⟩
          by_cases e' : j = i
          · rw [e']; exact ltM_irr _
          · have h4 := h3 j (by omega) hj'
            rw [ltM_false] at h4 ⊢
            rw [ltM_cases] at hl
            omega
        | false =>
          have e : bestTo mg al (i + 1) = some k := by simp [bestTo, hal, hb, hl]
          rw [e]
          refine ⟨(fun h => by cases h), fun b h => ?_⟩
          cases h
          refine ⟨by omega, h2, fun j hj hj' => ?_⟩
          by_cases e' : j = i
          · rw [e']; exact hl
          · exact h3 j (by omega) hj'

/-- What the runs hold is what is alive. -/
structure Flat (n m : Nat) (snd : Nat → Nat) (mg : Nat → MsgV) (ids : Nat → List Nat) (al : Nat → Bool) : Prop where
  alive : ∀ i, i < n → (al i = true ↔ ∃ x, x < m ∧ i ∈ ids x)
  lt : ∀ x, x < m → ∀ i, i ∈ ids x → i < n ∧ (mg i).fr = snd x
  inj : ∀ x, x < m → ∀ y, y < m → x ≠ y → snd x ≠ snd y
  sorted : ∀ x, x < m → (ids x).Pairwise (· < ·)

theorem Flat.none {n m : Nat} {snd : Nat → Nat} {mg : Nat → MsgV} {ids : Nat → List Nat} {al : Nat → Bool} (h : Flat n m snd mg ids al) (h0 : ∀ x, x < m → ids x = []) : bestTo mg al n = none := by
  cases hb : bestTo mg al n with
  | none => rfl
  | some b =>
    obtain ⟨h1, h2, _⟩ := (bestTo_spec mg al n).2 b hb
    obtain ⟨x, hx, hm⟩ := (h.alive b h1).1 h2
    rw [h0 x hx] at hm
    cases hm

/-- The earliest one: i, the first of run x, where no run's first comes before it. -/
theorem Flat.first {n m : Nat} {snd : Nat → Nat} {mg mc : Nat → MsgV} {ids : Nat → List Nat} {al : Nat → Bool} (h : Flat n m snd mg ids al) (hS : Sorted mg n) (hc : ∀ i, i < n → (mc i).ts = (mg i).ts) {x i : Nat} {l : List Nat} (hf : First m snd mc ids x i l) : bestTo mg al n = some i := by
  have hi := h.lt x hf.lt i (by rw [hf.eq]; simp)
  have hai : al i = true := (h.alive i hi.1).2 ⟨x, hf.lt, by rw [hf.eq]; simp⟩
  -- within a run, the head is the first
  have hrun : ∀ y, y < m → ∀ j l', ids y = j :: l' → ∀ k, k ∈ ids y → k = j ∨ (mg j).ts < (mg k).ts := by
    intro y hy j l' e k hk
    have hp := h.sorted y hy
    rw [e, List.pairwise_cons] at hp
    rw [e] at hk
    rcases List.mem_cons.1 hk with rfl | hk'
    · exact .inl rfl
    · right
      have h1 := h.lt y hy j (by rw [e]; simp)
      have h2 := h.lt y hy k (by rw [e]; simp [hk'])
      exact hS j k (hp.1 k hk') h2.1 (h1.2.trans h2.2.symm)
  have hall : ∀ k, k < n → al k = true → k = i ∨ ltM (mg i) (mg k) = true := by
    intro k hk hak
    obtain ⟨y, hy, hky⟩ := (h.alive k hk).1 hak
    obtain ⟨j, l', e⟩ : ∃ j l', ids y = j :: l' := by
      cases e : ids y with
      | nil => rw [e] at hky; cases hky
      | cons j l' => exact ⟨j, l', rfl⟩
    have h1 := h.lt y hy j (by rw [e]; simp)
    have h2 := h.lt y hy k hky
    have hmin := hf.min y hy j l' e
    rw [hc j h1.1, hc i hi.1] at hmin
    simp only [ltK, Bool.or_eq_false_iff, Bool.and_eq_false_iff, decide_eq_false_iff_not] at hmin
    have hk' := hrun y hy j l' e k hky
    rw [ltM_cases]
    by_cases exy : y = x
    · subst exy
      rw [hf.eq] at e
      cases e
      rcases hk' with rfl | h3
      · exact .inl rfl
      · exact .inr (.inl h3)
    · have hne := h.inj y hy x hf.lt exy
      rw [hi.2, h2.2]
      rcases hk' with rfl | h3
      · right; omega
      · right; omega
  cases hb : bestTo mg al n with
  | none =>
    rw [(bestTo_spec mg al n).1 hb i hi.1] at hai
    cases hai
  | some b =>
    obtain ⟨b1, b2, b3⟩ := (bestTo_spec mg al n).2 b hb
    rcases hall b b1 b2 with rfl | h3
    · rfl
    · rw [b3 i hi.1 hai] at h3; cases h3

/-- The earliest one is let go. -/
theorem Flat.take {n m : Nat} {snd : Nat → Nat} {mg : Nat → MsgV} {ids : Nat → List Nat} {al : Nat → Bool} (h : Flat n m snd mg ids al) {x i : Nat} {l : List Nat} (hx : x < m) (he : ids x = i :: l) : Flat n m snd mg (updL ids x l) (fun j => if j = i then false else al j) := by
  have hp := h.sorted x hx
  rw [he, List.pairwise_cons] at hp
  refine ⟨fun k hk => ?_, fun y hy j hj => ?_, h.inj, fun y hy => ?_⟩
  · by_cases e : k = i
    · subst e
      simp only [if_true]
      constructor
      · intro e; cases e
      · rintro ⟨y, hy, hm⟩
        exfalso
        by_cases exy : y = x
        · subst exy
          rw [updL_same] at hm
          have := hp.1 k hm
          omega
        · rw [updL_ne _ _ _ exy] at hm
          have h1 := (h.lt y hy k hm).2
          have h2 := (h.lt x hx k (by rw [he]; simp)).2
          exact h.inj y hy x hx exy (h1.symm.trans h2)
    · simp only [e, if_false]
      rw [h.alive k hk]
      constructor
      · rintro ⟨y, hy, hm⟩
        refine ⟨y, hy, ?_⟩
        by_cases exy : y = x
        · subst exy
          rw [updL_same]
          rw [he] at hm
          rcases List.mem_cons.1 hm with rfl | hm'
          · exact absurd rfl e
          · exact hm'
        · rw [updL_ne _ _ _ exy]; exact hm
      · rintro ⟨y, hy, hm⟩
        refine ⟨y, hy, ?_⟩
        by_cases exy : y = x
        · subst exy
          rw [updL_same] at hm
          rw [he]; simp [hm]
        · rw [updL_ne _ _ _ exy] at hm; exact hm
  · by_cases exy : y = x
    · subst exy
      rw [updL_same] at hj
      exact h.lt y hy j (by rw [he]; simp [hj])
    · rw [updL_ne _ _ _ exy] at hj; exact h.lt y hy j hj
  · by_cases exy : y = x
    · subst exy; rw [updL_same]; exact hp.2
    · rw [updL_ne _ _ _ exy]; exact h.sorted y hy

theorem Flat.start {n m : Nat} {snd : Nat → Nat} {mg mc : Nat → MsgV} (hc : ∀ i, i < n → (mc i).fr = (mg i).fr) (hcov : ∀ j, j < n → ∃ x, x < m ∧ snd x = (mc j).fr) (hinj : ∀ x, x < m → ∀ y, y < m → x ≠ y → snd x ≠ snd y) : Flat n m snd mg (fun x => idsTo mc n (snd x)) (fun _ => true) := by
  refine ⟨fun i hi => ⟨fun _ => ?_, fun _ => rfl⟩, fun x hx i hi => ?_, hinj, fun x hx => ?_⟩
  · obtain ⟨x, hx, e⟩ := hcov i hi
    exact ⟨x, hx, mem_idsTo.2 ⟨hi, e.symm⟩⟩
  · obtain ⟨h1, h2⟩ := mem_idsTo.1 hi
    exact ⟨h1, (hc i h1).symm.trans h2⟩
  · exact List.Pairwise.filter _ List.pairwise_lt_range

end Go.Proofs.Qxb6601345a
