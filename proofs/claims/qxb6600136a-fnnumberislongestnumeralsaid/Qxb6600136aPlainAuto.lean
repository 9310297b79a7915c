import Derived.Test.Qxb6600136aPlain
/-
  THE PLAIN MATHEMATICS OF THE AUTOMATON: it finds what 'nlex' finds.
-/
namespace Go.Proofs.Qxb6600136a.Plain
set_option linter.unusedSimpArgs false

/-- One step of the automaton, as the law's text has it, on numbers. -/
def step (st : Nat) (c : Nat) : Nat :=
  match st with
  | 0 => if 48 ≤ c ∧ c ≤ 57 then 0 else if c = 46 then 1 else if c = 101 ∨ c = 69 then 2 else 5
  | 1 => if 48 ≤ c ∧ c ≤ 57 then 1 else if c = 101 ∨ c = 69 then 2 else 5
  | 2 => if 48 ≤ c ∧ c ≤ 57 then 4 else if c = 43 ∨ c = 45 then 3 else 5
  | 3 => if 48 ≤ c ∧ c ≤ 57 then 4 else 5
  | 4 => if 48 ≤ c ∧ c ≤ 57 then 4 else 5
  | _ => 5

def acc (st : Nat) : Bool := st == 0 || st == 1 || st == 4

/-- The run from state st at place i, the best end so far being b, n telling whether that is a number. -/
def run : List UInt8 → Nat → Nat → Nat → Bool → Nat × Bool
  | [], _, _, b, n => (b, n)
  | c :: r, st, i, b, n =>
    if step st c.toNat = 5 then (b, n)
    else if acc (step st c.toNat) then run r (step st c.toNat) (i + 1) (i + 1) (step st c.toNat != 0)
    else run r (step st c.toNat) (i + 1) b n

theorem isDig_iff (c : UInt8) : isDig c = true ↔ (48 ≤ c.toNat ∧ c.toNat ≤ 57) := by simp [isDig]

theorem run4 (l : List UInt8) : ∀ i, run l 4 i i true = (i + dl l, true) := by
  induction l with
  | nil => intro i; simp [run, dl]
  | cons c r ih =>
    intro i
    by_cases h : 48 ≤ c.toNat ∧ c.toNat ≤ 57
    · have hs : step 4 c.toNat = 4 := by simp only [step]; rw [if_pos h]
      have hd : isDig c = true := (isDig_iff c).2 h
      simp only [run, hs, dl, hd, if_true, acc]
      rw [if_neg (by decide), if_pos (by decide)]
      show run r 4 (i + 1) (i + 1) true = _
      rw [ih, Nat.add_assoc, Nat.add_comm 1]
    · have hs : step 4 c.toNat = 5 := by simp only [step]; rw [if_neg h]
      have hd : ¬ isDig c = true := fun e => h ((isDig_iff c).1 e)
      simp only [run, hs, dl, if_true]
      rw [if_neg hd]; rfl

theorem run3 (l : List UInt8) (i b : Nat) (n : Bool) : run l 3 i b n = if dl l = 0 then (b, n) else (i + dl l, true) := by
  cases l with
  | nil => simp [run, dl]
  | cons c r =>
    by_cases h : 48 ≤ c.toNat ∧ c.toNat ≤ 57
    · have hs : step 3 c.toNat = 4 := by simp only [step]; rw [if_pos h]
      have hd : isDig c = true := (isDig_iff c).2 h
      simp only [run, hs, dl, hd, if_true, acc]
      rw [if_neg (by decide), if_pos (by decide), if_neg (by omega)]
      show run r 4 (i + 1) (i + 1) true = _
      rw [run4, Nat.add_assoc, Nat.add_comm 1]
    · have hs : step 3 c.toNat = 5 := by simp only [step]; rw [if_neg h]
      have hd : ¬ isDig c = true := fun e => h ((isDig_iff c).1 e)
      have hz : dl (c :: r) = 0 := by simp only [dl]; rw [if_neg hd]
      rw [if_pos hz]
      simp only [run, hs, if_true]

theorem run2 (l : List UInt8) (i b : Nat) (n : Bool) :
    run l 2 i b n = if dl (l.drop (sgn l)) = 0 then (b, n) else (i + sgn l + dl (l.drop (sgn l)), true) := by
  cases l with
  | nil => simp [run, dl]
  | cons c r =>
    by_cases h : 48 ≤ c.toNat ∧ c.toNat ≤ 57
    · have hs : step 2 c.toNat = 4 := by simp only [step]; rw [if_pos h]
      have hd : isDig c = true := (isDig_iff c).2 h
      have hg : sgn (c :: r) = 0 := by simp only [sgn]; rw [if_neg (by omega)]
      rw [hg, List.drop_zero]
      simp only [run, hs, dl, hd, if_true, acc]
      rw [if_neg (by decide), if_pos (by decide), if_neg (by omega)]
      show run r 4 (i + 1) (i + 1) true = _
      rw [run4, Nat.add_assoc, Nat.add_comm 1]; rfl
    · by_cases hg : c.toNat = 43 ∨ c.toNat = 45
      · have hs : step 2 c.toNat = 3 := by simp only [step]; rw [if_neg h, if_pos hg]
        have hg' : sgn (c :: r) = 1 := by simp only [sgn]; rw [if_pos hg]
        rw [hg']
        simp only [run, hs, acc]
        rw [if_neg (by decide), if_neg (by decide), run3]
        rfl
      · have hs : step 2 c.toNat = 5 := by simp only [step]; rw [if_neg h, if_neg hg]
        have hd : ¬ isDig c = true := fun e => h ((isDig_iff c).1 e)
        have hg' : sgn (c :: r) = 0 := by simp only [sgn]; rw [if_neg hg]
        have hz : dl (c :: r) = 0 := by simp only [dl]; rw [if_neg hd]
        rw [hg', List.drop_zero, if_pos hz]
        simp only [run, hs, if_true]

/-- An exponent from state 0 or 1, behind the digits. -/
theorem run_exp (l : List UInt8) (st i : Nat) (n : Bool) (hst : ∀ c : Nat, ¬ (48 ≤ c ∧ c ≤ 57) → c ≠ 46 → step st c = if c = 101 ∨ c = 69 then 2 else 5)
    (hd : ∀ c r, l = c :: r → ¬ (48 ≤ c.toNat ∧ c.toNat ≤ 57) ∧ c.toNat ≠ 46) :
    run l st i i n = (i + (expo l).1, n || (expo l).2) := by
  cases l with
  | nil => simp [run, expo]
  | cons c r =>
    obtain ⟨h1, h2⟩ := hd c r rfl
    have hs := hst c.toNat h1 h2
    by_cases he : c.toNat = 101 ∨ c.toNat = 69
    · rw [if_pos he] at hs
      simp only [run, hs, acc, expo]
      rw [if_neg (by decide), if_neg (by decide), if_pos he, run2]
      split
      · simp
      · simp; omega
    · rw [if_neg he] at hs
      simp only [run, hs, expo, if_true]
      rw [if_neg he]; simp

theorem run1 (l : List UInt8) : ∀ i, run l 1 i i true = (i + dl l + (expo (l.drop (dl l))).1, true) := by
  induction l with
  | nil => intro i; simp [run, dl, expo]
  | cons c r ih =>
    intro i
    by_cases h : 48 ≤ c.toNat ∧ c.toNat ≤ 57
    · have hs : step 1 c.toNat = 1 := by simp only [step]; rw [if_pos h]
      have hd : isDig c = true := (isDig_iff c).2 h
      simp only [run, hs, dl, hd, if_true, acc]
      rw [if_neg (by decide), if_pos (by decide)]
      show run r 1 (i + 1) (i + 1) true = _
      rw [ih, List.drop_succ_cons]
      congr 1
      omega
    · have hd : ¬ isDig c = true := fun e => h ((isDig_iff c).1 e)
      have hz : dl (c :: r) = 0 := by simp only [dl]; rw [if_neg hd]
      rw [hz, List.drop_zero]
      by_cases h46 : c.toNat = 46
      · have hs : step 1 c.toNat = 5 := by simp only [step]; rw [if_neg h, if_neg (by omega)]
        simp only [run, hs, if_true, expo]
        rw [if_neg (by omega)]
        rfl
      · rw [run_exp (c :: r) 1 i true (fun x h1 h2 => by simp only [step]; rw [if_neg h1]) (fun c' r' e => by cases e; exact ⟨h, h46⟩)]
        simp

theorem run0 (l : List UInt8) : ∀ i, run l 0 i i false = (i + (nlex l).1, (nlex l).2) := by
  induction l with
  | nil => intro i; simp [run, nlex, dl, expo, frac]
  | cons c r ih =>
    intro i
    by_cases h : 48 ≤ c.toNat ∧ c.toNat ≤ 57
    · have hs : step 0 c.toNat = 0 := by simp only [step]; rw [if_pos h]
      have hd : isDig c = true := (isDig_iff c).2 h
      have hz : dl (c :: r) = dl r + 1 := by simp only [dl]; rw [if_pos hd]
      simp only [run, hs, acc]
      rw [if_neg (by decide), if_pos (by decide)]
      show run r 0 (i + 1) (i + 1) false = _
      rw [ih]
      have e1 : (c :: r).drop (dl r + 1) = r.drop (dl r) := by simp
      have e2 : (c :: r).drop (dl r + 1 + (frac (r.drop (dl r))).1) = r.drop (dl r + (frac (r.drop (dl r))).1) := by
        rw [show dl r + 1 + (frac (r.drop (dl r))).1 = (dl r + (frac (r.drop (dl r))).1) + 1 from by omega]; simp
      have e : nlex (c :: r) = ((nlex r).1 + 1, (nlex r).2) := by
        simp only [nlex, hz, e1, e2]
        congr 1
        omega
      rw [e]
      congr 1
      omega
    · have hd : ¬ isDig c = true := fun e => h ((isDig_iff c).1 e)
      have hz : dl (c :: r) = 0 := by simp only [dl]; rw [if_neg hd]
      by_cases h46 : c.toNat = 46
      · have hs : step 0 c.toNat = 1 := by simp only [step]; rw [if_neg h, if_pos h46]
        simp only [run, hs, acc]
        rw [if_neg (by decide), if_pos (by decide)]
        show run r 1 (i + 1) (i + 1) true = _
        rw [run1]
        have ef : frac (c :: r) = (1 + dl r, true) := by simp only [frac]; rw [if_pos h46]
        have e : nlex (c :: r) = (1 + dl r + (expo (r.drop (dl r))).1, true) := by
          simp only [nlex, hz, List.drop_zero, Nat.zero_add, ef, Bool.true_or]
          rw [show (c :: r).drop (1 + dl r) = r.drop (dl r) from by rw [Nat.add_comm 1]; simp]
        rw [e]
        congr 1
        omega
      · rw [run_exp (c :: r) 0 i false (fun x h1 h2 => by simp only [step]; rw [if_neg h1, if_neg h2]) (fun c' r' e => by cases e; exact ⟨h, h46⟩)]
        have ef : frac (c :: r) = (0, false) := by simp only [frac]; rw [if_neg h46]
        simp only [nlex, hz, List.drop_zero, Nat.zero_add, ef, Nat.add_zero, Bool.false_or]

end Go.Proofs.Qxb6600136a.Plain
