/-
  THE PLAIN MATHEMATICS OF SEAT b6601345a's FIRST STATEMENT: lists of runs of numbers. No Go, no model.
-/
namespace Go.Proofs.Qxb6601345a.PlainIds
set_option linter.unusedSimpArgs false
set_option linter.unusedVariables false

/-- Runs in order, none touching the one before, the first at m or above. -/
def wf : Nat → List (Nat × Nat) → Prop
  | _, [] => True
  | m, (l, h) :: r => m ≤ l ∧ l ≤ h ∧ wf (h + 2) r

def mem (x : Nat) (L : List (Nat × Nat)) : Prop := ∃ r, r ∈ L ∧ r.1 ≤ x ∧ x ≤ r.2

theorem mem_nil (x : Nat) : ¬ mem x [] := by rintro ⟨r, h, _⟩; cases h
theorem mem_cons (x l h : Nat) (r : List (Nat × Nat)) : mem x ((l, h) :: r) ↔ (l ≤ x ∧ x ≤ h) ∨ mem x r := by
  constructor
  · rintro ⟨p, hp, h1, h2⟩
    rcases List.mem_cons.1 hp with rfl | hp
    · exact .inl ⟨h1, h2⟩
    · exact .inr ⟨p, hp, h1, h2⟩
  · rintro (⟨h1, h2⟩ | ⟨p, hp, h1, h2⟩)
    · exact ⟨(l, h), List.mem_cons_self, h1, h2⟩
    · exact ⟨p, List.mem_cons_of_mem _ hp, h1, h2⟩
theorem mem_append (x : Nat) (A B : List (Nat × Nat)) : mem x (A ++ B) ↔ mem x A ∨ mem x B := by
  constructor
  · rintro ⟨p, hp, h⟩
    rcases List.mem_append.1 hp with hp | hp
    · exact .inl ⟨p, hp, h⟩
    · exact .inr ⟨p, hp, h⟩
  · rintro (⟨p, hp, h⟩ | ⟨p, hp, h⟩)
    · exact ⟨p, List.mem_append_left _ hp, h⟩
    · exact ⟨p, List.mem_append_right _ hp, h⟩

theorem wf_mono {m k : Nat} {L : List (Nat × Nat)} (h : wf m L) (hk : k ≤ m) : wf k L := by
  cases L with
  | nil => trivial
  | cons p r => obtain ⟨l, u⟩ := p; exact ⟨Nat.le_trans hk h.1, h.2⟩

theorem mem_ge {m x : Nat} {L : List (Nat × Nat)} (h : wf m L) (hx : mem x L) : m ≤ x := by
  induction L generalizing m with
  | nil => exact absurd hx (mem_nil x)
  | cons p r ih =>
    obtain ⟨l, u⟩ := p
    rcases (mem_cons x l u r).1 hx with hx | hx
    · have := h.1; omega
    · have := ih h.2.2 hx; have := h.1; have := h.2.1; omega

/-- Two lists of runs with the same members are one list. -/
theorem unique {A B : List (Nat × Nat)} : ∀ {m k : Nat}, wf m A → wf k B → (∀ x, mem x A ↔ mem x B) → A = B := by
  induction A generalizing B with
  | nil =>
    intro m k _ hB h
    cases B with
    | nil => rfl
    | cons p r =>
      obtain ⟨l, u⟩ := p
      exact absurd ((h l).2 ((mem_cons l l u r).2 (.inl ⟨Nat.le_refl _, hB.2.1⟩))) (mem_nil l)
  | cons p r ih =>
    intro m k hA hB h
    obtain ⟨l, u⟩ := p
    cases B with
    | nil => exact absurd ((h l).1 ((mem_cons l l u r).2 (.inl ⟨Nat.le_refl _, hA.2.1⟩))) (mem_nil l)
    | cons q s =>
      obtain ⟨l', u'⟩ := q
      obtain ⟨_, hA1, hA2⟩ := hA
      obtain ⟨_, hB1, hB2⟩ := hB
      have e1 : l = l' := by
        have h1 := (h l).1 ((mem_cons l l u r).2 (.inl ⟨Nat.le_refl _, hA1⟩))
        have h2 := (h l').2 ((mem_cons l' l' u' s).2 (.inl ⟨Nat.le_refl _, hB1⟩))
        rcases (mem_cons l l' u' s).1 h1 with g1 | g1 <;> rcases (mem_cons l' l u r).1 h2 with g2 | g2
        · omega
        · have := mem_ge hA2 g2; omega
        · have := mem_ge hB2 g1; omega
        · have := mem_ge hA2 g2; have := mem_ge hB2 g1; omega
      subst e1
      have e2 : u = u' := by
        rcases Nat.lt_trichotomy u u' with g | g | g
        · have h1 := (h (u + 1)).2 ((mem_cons (u + 1) l u' s).2 (.inl ⟨by omega, by omega⟩))
          rcases (mem_cons (u + 1) l u r).1 h1 with g1 | g1
          · omega
          · have := mem_ge hA2 g1; omega
        · exact g
        · have h1 := (h (u' + 1)).1 ((mem_cons (u' + 1) l u r).2 (.inl ⟨by omega, by omega⟩))
          rcases (mem_cons (u' + 1) l u' s).1 h1 with g1 | g1
          · omega
          · have := mem_ge hB2 g1; omega
      subst e2
      have e3 : r = s := ih hA2 hB2 (fun x => by
        have hx := h x
        rw [mem_cons, mem_cons] at hx
        by_cases hxu : l ≤ x ∧ x ≤ u
        · constructor
          · intro g; have := mem_ge hA2 g; omega
          · intro g; have := mem_ge hB2 g; omega
        · constructor
          · intro g; exact (hx.1 (.inr g)).resolve_left hxu
          · intro g; exact (hx.2 (.inr g)).resolve_left hxu)
      rw [e3]

/-! ### 'without', as its text goes -/

/-- The pieces of [low, hi] that the runs of b leave; where 'low' stands at the end. -/
def cut (hi : Nat) : Nat → List (Nat × Nat) → List (Nat × Nat) × Nat
  | low, [] => ([], low)
  | low, (l, h) :: b => if hi < l then ([], low) else ((if low < l then [(low, l - 1)] else []) ++ (cut hi (h + 1) b).1, (cut hi (h + 1) b).2)

/-- The runs of b that end below low are let go. -/
def skip (low : Nat) : List (Nat × Nat) → List (Nat × Nat)
  | [] => []
  | (l, h) :: b => if h < low then skip low b else (l, h) :: b

def last (hi low : Nat) : List (Nat × Nat) := if low ≤ hi then [(low, hi)] else []

theorem last_pos {hi low : Nat} (h : low ≤ hi) : last hi low = [(low, hi)] := by unfold last; rw [if_pos h]
theorem last_neg {hi low : Nat} (h : ¬ low ≤ hi) : last hi low = [] := by unfold last; rw [if_neg h]

def outer : List (Nat × Nat) → List (Nat × Nat) → List (Nat × Nat)
  | [], _ => []
  | (lo, hi) :: S, b => (cut hi lo (skip lo b)).1 ++ last hi (cut hi lo (skip lo b)).2 ++ outer S (skip lo b)

theorem skip_mem {low k : Nat} {b : List (Nat × Nat)} (hb : wf k b) (x : Nat) (hx : low ≤ x) : mem x (skip low b) ↔ mem x b := by
  induction b generalizing k with
  | nil => rfl
  | cons p r ih =>
    obtain ⟨l, h⟩ := p
    simp only [skip]
    split
    · rw [ih hb.2.2, mem_cons]
      constructor
      · exact .inr
      · rintro (g | g)
        · omega
        · exact g
    · rfl

theorem skip_wf {low k : Nat} {b : List (Nat × Nat)} (hb : wf k b) : wf k (skip low b) := by
  induction b generalizing k with
  | nil => trivial
  | cons p r ih =>
    obtain ⟨l, h⟩ := p
    simp only [skip]
    split
    · have := hb.1; have := hb.2.1; exact wf_mono (ih hb.2.2) (by omega)
    · exact hb

theorem skip_head {low : Nat} {b : List (Nat × Nat)} : ∀ l h r, skip low b = (l, h) :: r → low ≤ h := by
  induction b with
  | nil => intro l h r e; cases e
  | cons p r ih =>
    obtain ⟨l', h'⟩ := p
    intro l h r' e
    simp only [skip] at e
    split at e
    · exact ih l h r' e
    · simp only [List.cons.injEq, Prod.mk.injEq] at e; omega

/-- The pieces of one run: their members; that they stand in order, from m on and below hi + 1. -/
theorem cut_ok (hi : Nat) : ∀ (b : List (Nat × Nat)) (low k : Nat), wf k b → (∀ l h r, b = (l, h) :: r → low ≤ h + 1) →
    (∀ x, mem x ((cut hi low b).1 ++ last hi (cut hi low b).2) ↔ (low ≤ x ∧ x ≤ hi) ∧ ¬ mem x b) ∧
    ∀ rest, wf (hi + 2) rest → ∀ m, m ≤ low → m ≤ hi + 2 → wf m ((cut hi low b).1 ++ last hi (cut hi low b).2 ++ rest) := by
  intro b
  induction b with
  | nil =>
    intro low k _ _
    constructor
    · intro x
      simp only [cut, List.nil_append]
      by_cases hl : low ≤ hi
      · rw [last_pos hl, mem_cons]
        have := mem_nil x
        constructor
        · rintro (g | g)
          · exact ⟨g, this⟩
          · exact absurd g this
        · rintro ⟨g, _⟩; exact .inl g
      · rw [last_neg hl]
        constructor
        · intro g; exact absurd g (mem_nil x)
        · rintro ⟨g, _⟩; omega
    · intro rest hr m hm hm2
      simp only [cut, List.nil_append]
      by_cases hl : low ≤ hi
      · rw [last_pos hl]; exact ⟨hm, by omega, hr⟩
      · rw [last_neg hl]; exact wf_mono hr (by omega)
  | cons p b ih =>
    obtain ⟨l, h⟩ := p
    intro low k hb hlow
    obtain ⟨hk, hlh, hbb⟩ := hb
    have hlow' := hlow l h b rfl
    by_cases hc : hi < l
    · have e : cut hi low ((l, h) :: b) = ([], low) := by simp only [cut]; rw [if_pos hc]
      rw [e]
      constructor
      · intro x
        simp only [List.nil_append]
        have hno : x ≤ hi → ¬ mem x ((l, h) :: b) := by
          intro hx g
          rcases (mem_cons x l h b).1 g with g | g
          · omega
          · have := mem_ge hbb g; omega
        by_cases hl : low ≤ hi
        · rw [last_pos hl, mem_cons]
          constructor
          · rintro (g | g)
            · exact ⟨g, hno g.2⟩
            · exact absurd g (mem_nil x)
          · rintro ⟨g, _⟩; exact .inl g
        · rw [last_neg hl]
          constructor
          · intro g; exact absurd g (mem_nil x)
          · rintro ⟨g, _⟩; omega
      · intro rest hr m hm hm2
        simp only [List.nil_append]
        by_cases hl : low ≤ hi
        · rw [last_pos hl]; exact ⟨hm, by omega, hr⟩
        · rw [last_neg hl]; exact wf_mono hr (by omega)
    · have ih' := ih (h + 1) (h + 2) hbb (fun l' h' r e => by subst e; have := hbb.1; have := hbb.2.1; omega)
      have e1 : (cut hi low ((l, h) :: b)).1 = (if low < l then [(low, l - 1)] else []) ++ (cut hi (h + 1) b).1 := by simp only [cut]; rw [if_neg hc]
      have e2 : (cut hi low ((l, h) :: b)).2 = (cut hi (h + 1) b).2 := by simp only [cut]; rw [if_neg hc]
      rw [e1, e2, List.append_assoc]
      generalize hX : (cut hi (h + 1) b).1 ++ last hi (cut hi (h + 1) b).2 = X at ih'
      obtain ⟨ihm, ihw⟩ := ih'
      constructor
      · intro x
        rw [mem_append, ihm x, mem_cons]
        have hno : mem x b → h + 2 ≤ x := mem_ge hbb
        split
        · rw [mem_cons]
          have hnil := mem_nil x
          constructor
          · rintro ((g | g) | ⟨g, g'⟩)
            · refine ⟨by omega, ?_⟩
              rintro (q | q)
              · omega
              · have := hno q; omega
            · exact absurd g hnil
            · refine ⟨by omega, ?_⟩
              rintro (q | q)
              · omega
              · exact g' q
          · rintro ⟨g, g'⟩
            by_cases hx : x < l
            · exact .inl (.inl (by omega))
            · right
              have : ¬ (l ≤ x ∧ x ≤ h) := fun q => g' (.inl q)
              exact ⟨by omega, fun q => g' (.inr q)⟩
        · have hnil := mem_nil x
          constructor
          · rintro (g | ⟨g, g'⟩)
            · exact absurd g hnil
            · refine ⟨by omega, ?_⟩
              rintro (q | q)
              · omega
              · exact g' q
          · rintro ⟨g, g'⟩
            right
            have : ¬ (l ≤ x ∧ x ≤ h) := fun q => g' (.inl q)
            exact ⟨by omega, fun q => g' (.inr q)⟩
      · intro rest hr m hm hm2
        by_cases hll : low < l
        · rw [if_pos hll]
          exact ⟨hm, by omega, ihw rest hr _ (by omega) (by omega)⟩
        · rw [if_neg hll, List.nil_append]
          exact ihw rest hr m (by omega) (by omega)

theorem outer_ok : ∀ (S b : List (Nat × Nat)) (m k : Nat), wf m S → wf k b →
    (∀ x, mem x (outer S b) ↔ mem x S ∧ ¬ mem x b) ∧ wf m (outer S b) := by
  intro S
  induction S with
  | nil =>
    intro b m k _ _
    exact ⟨fun x => ⟨fun g => absurd g (mem_nil x), fun g => absurd g.1 (mem_nil x)⟩, trivial⟩
  | cons p S ih =>
    obtain ⟨lo, hi⟩ := p
    intro b m k hS hb
    obtain ⟨hm, hlh, hSS⟩ := hS
    have hsw : wf k (skip lo b) := skip_wf hb
    obtain ⟨im, iw⟩ := ih (skip lo b) (hi + 2) k hSS hsw
    obtain ⟨cm, cw⟩ := cut_ok hi (skip lo b) lo k hsw (fun l h r e => by have := skip_head l h r e; omega)
    have hsm := fun x (hx : lo ≤ x) => skip_mem (low := lo) hb x hx
    simp only [outer]
    constructor
    · intro x
      rw [mem_append, cm x, im x, mem_cons]
      constructor
      · rintro (⟨g, g'⟩ | ⟨g, g'⟩)
        · exact ⟨.inl g, fun q => g' ((hsm x g.1).2 q)⟩
        · have := mem_ge hSS g
          exact ⟨.inr g, fun q => g' ((hsm x (by omega)).2 q)⟩
      · rintro ⟨g | g, g'⟩
        · exact .inl ⟨g, fun q => g' ((hsm x g.1).1 q)⟩
        · have := mem_ge hSS g
          exact .inr ⟨g, fun q => g' ((hsm x (by omega)).1 q)⟩
    · exact cw _ iw m hm (by omega)

/-! ### The bitmap's own runs -/

/-- The end of the run of marked numbers that opens at x, n numbers being left. -/
def runEnd (f : Nat → Bool) : Nat → Nat → Nat
  | 0, x => x
  | n + 1, x => if f x then runEnd f n (x + 1) else x

/-- The runs of marked numbers from x on, n numbers being left; 'cur': a run is open since then. -/
def scan (f : Nat → Bool) : Nat → Nat → Option Nat → List (Nat × Nat)
  | 0, x, some lo => [(lo, x - 1)]
  | 0, _, none => []
  | n + 1, x, some lo => if f x then scan f n (x + 1) (some lo) else (lo, x - 1) :: scan f n (x + 1) none
  | n + 1, x, none => if f x then scan f n (x + 1) (some x) else scan f n (x + 1) none

theorem scan_ok (f : Nat → Bool) : ∀ (n x : Nat),
    ((∀ m, m ≤ x → wf m (scan f n x none)) ∧ ∀ y, mem y (scan f n x none) ↔ (x ≤ y ∧ y < x + n) ∧ f y = true) ∧
    (∀ lo, lo < x → (∀ m, m ≤ lo → wf m (scan f n x (some lo))) ∧ ∀ y, mem y (scan f n x (some lo)) ↔ (lo ≤ y ∧ y < x) ∨ ((x ≤ y ∧ y < x + n) ∧ f y = true)) := by
  intro n
  induction n with
  | zero =>
    intro x
    refine ⟨⟨fun _ _ => trivial, fun y => ⟨fun g => absurd g (mem_nil y), fun g => by omega⟩⟩, fun lo hlo => ⟨fun m hm => ⟨hm, by omega, trivial⟩, fun y => ?_⟩⟩
    simp only [scan]
    rw [mem_cons]
    have := mem_nil y
    constructor
    · rintro (g | g)
      · left; omega
      · exact absurd g this
    · rintro (g | g)
      · left; omega
      · omega
  | succ n ih =>
    intro x
    obtain ⟨⟨w0, m0⟩, i1⟩ := ih (x + 1)
    constructor
    · by_cases hf : f x = true
      · obtain ⟨w1, m1⟩ := i1 x (by omega)
        constructor
        · intro m hm
          simp only [scan]; rw [if_pos hf]; exact w1 m hm
        · intro y
          simp only [scan]; rw [if_pos hf, m1 y]
          constructor
          · rintro (g | ⟨g, g'⟩)
            · have : y = x := by omega
              subst this; exact ⟨by omega, hf⟩
            · exact ⟨by omega, g'⟩
          · rintro ⟨g, g'⟩
            by_cases e : y = x
            · left; omega
            · right; exact ⟨by omega, g'⟩
      · constructor
        · intro m hm
          simp only [scan]; rw [if_neg hf]; exact w0 m (by omega)
        · intro y
          simp only [scan]; rw [if_neg hf, m0 y]
          constructor
          · rintro ⟨g, g'⟩; exact ⟨by omega, g'⟩
          · rintro ⟨g, g'⟩
            by_cases e : y = x
            · subst e; exact absurd g' hf
            · exact ⟨by omega, g'⟩
    · intro lo hlo
      by_cases hf : f x = true
      · obtain ⟨w1, m1⟩ := i1 lo (by omega)
        constructor
        · intro m hm
          simp only [scan]; rw [if_pos hf]; exact w1 m hm
        · intro y
          simp only [scan]; rw [if_pos hf, m1 y]
          constructor
          · rintro (g | ⟨g, g'⟩)
            · by_cases e : y = x
              · subst e; right; exact ⟨by omega, hf⟩
              · left; omega
            · right; exact ⟨by omega, g'⟩
          · rintro (g | ⟨g, g'⟩)
            · left; omega
            · by_cases e : y = x
              · left; omega
              · right; exact ⟨by omega, g'⟩
      · constructor
        · intro m hm
          simp only [scan]; rw [if_neg hf]
          exact ⟨hm, by omega, w0 _ (by omega)⟩
        · intro y
          simp only [scan]; rw [if_neg hf, mem_cons, m0 y]
          constructor
          · rintro (g | ⟨g, g'⟩)
            · left; omega
            · right; exact ⟨by omega, g'⟩
          · rintro (g | ⟨g, g'⟩)
            · left; omega
            · by_cases e : y = x
              · subst e; exact absurd g' hf
              · right; exact ⟨by omega, g'⟩

/-- THE PLAIN LAW: what 'without' leaves is what the bitmap's runs are. -/
theorem law (S T : List (Nat × Nat)) (f : Nat → Bool) (N : Nat) (hS : wf 0 S) (hT : wf 0 T) (hN : ∀ r, r ∈ S → r.2 < N)
    (hf : ∀ x, x < N → (f x = true ↔ mem x S ∧ ¬ mem x T)) : outer S T = scan f N 0 none := by
  obtain ⟨om, ow⟩ := outer_ok S T 0 0 hS hT
  obtain ⟨⟨sw, sm⟩, _⟩ := scan_ok f N 0
  refine unique ow (sw 0 (Nat.le_refl _)) fun x => ?_
  rw [om x, sm x]
  constructor
  · rintro ⟨g, g'⟩
    have hx : x < N := by
      obtain ⟨r, hr, h1, h2⟩ := g
      have := hN r hr; omega
    exact ⟨by omega, (hf x hx).2 ⟨g, g'⟩⟩
  · rintro ⟨g, g'⟩
    exact (hf x (by omega)).1 g'

end Go.Proofs.Qxb6601345a.PlainIds
