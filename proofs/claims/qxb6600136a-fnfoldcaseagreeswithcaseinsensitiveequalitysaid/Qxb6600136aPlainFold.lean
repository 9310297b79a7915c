/-
  THE PLAIN MATHEMATICS OF THE FOLD: bytes and lists of bytes.
-/
namespace Go.Proofs.Qxb6600136a.PlainFold
set_option linter.unusedSimpArgs false

/-- An ASCII capital? -/
def isUp (c : UInt8) : Bool := decide (65 ≤ c.toNat) && decide (c.toNat ≤ 90)

def lowC (c : UInt8) : UInt8 := if isUp c then c + 32 else c

def anyUp (l : List UInt8) : Bool := l.any isUp

theorem lowC_toNat (c : UInt8) : (lowC c).toNat = if isUp c then c.toNat + 32 else c.toNat := by
  unfold lowC
  split
  · rename_i h
    simp only [isUp, Bool.and_eq_true, decide_eq_true_eq] at h
    rw [UInt8.toNat_add, show (32 : UInt8).toNat = 32 from rfl]
    omega
  · rfl

theorem isUp_lowC (c : UInt8) : isUp (lowC c) = false := by
  have h := lowC_toNat c
  by_cases hu : isUp c = true
  · rw [if_pos hu] at h
    simp only [isUp, Bool.and_eq_true, decide_eq_true_eq] at hu
    simp only [isUp, h, Bool.and_eq_false_iff, decide_eq_false_iff_not]
    omega
  · rw [if_neg hu] at h
    have e : lowC c = c := by unfold lowC; rw [if_neg hu]
    rw [e]; simpa using hu

theorem lowC_not {c : UInt8} (h : isUp c = false) : lowC c = c := by
  unfold lowC; rw [if_neg (by simp [h])]

theorem lowC_lowC (c : UInt8) : lowC (lowC c) = lowC c := lowC_not (isUp_lowC c)

theorem anyUp_low (l : List UInt8) : anyUp (l.map lowC) = false := by
  induction l with
  | nil => rfl
  | cons c r ih =>
    simp only [anyUp, List.map_cons, List.any_cons, isUp_lowC, Bool.false_or] at ih ⊢
    exact ih

theorem low_of_not (l : List UInt8) (h : anyUp l = false) : l.map lowC = l := by
  induction l with
  | nil => rfl
  | cons c r ih =>
    simp only [anyUp, List.any_cons, Bool.or_eq_false_iff] at h ih
    rw [List.map_cons, ih h.2]
    unfold lowC
    rw [if_neg (by simp [h.1])]

/-- Are the two bytes equal but for an ASCII letter's case? As the law's text asks it. -/
def sameC (c d : UInt8) : Bool :=
  decide (c = d) || (decide ((c ||| 32) = (d ||| 32)) && (decide (97 ≤ (c ||| 32).toNat) && decide ((c ||| 32).toNat ≤ 122)))

theorem toNat_inj' {a b : UInt8} : a = b ↔ a.toNat = b.toNat := ⟨fun h => by rw [h], UInt8.toNat.inj⟩

/-- 'c | 32' on one byte, by its number. -/
def or32 (n : Nat) : Nat := if n % 64 < 32 then n + 32 else n

theorem or32_all : ∀ n : Fin 256, (n.val ||| 32) = or32 n.val := by decide +kernel

theorem or32_eq (c : UInt8) : (c ||| 32).toNat = or32 c.toNat := by
  rw [UInt8.toNat_or]
  have h := or32_all ⟨c.toNat, c.toNat_lt⟩
  exact h

theorem sameC_iff (c d : UInt8) : sameC c d = decide (lowC c = lowC d) := by
  rw [Bool.eq_iff_iff]
  simp only [sameC, Bool.or_eq_true, Bool.and_eq_true, decide_eq_true_eq, toNat_inj', or32_eq, lowC_toNat]
  have hc := c.toNat_lt
  have hd := d.toNat_lt
  have e1 : (isUp c = true) = (65 ≤ c.toNat ∧ c.toNat ≤ 90) := by simp [isUp]
  have e2 : (isUp d = true) = (65 ≤ d.toNat ∧ d.toNat ≤ 90) := by simp [isUp]
  simp only [e1, e2, or32]
  generalize c.toNat = a at *
  generalize d.toNat = b at *
  split <;> split <;> split <;> split <;> omega

def sameL : List UInt8 → List UInt8 → Bool
  | [], [] => true
  | c :: r, d :: s => sameC c d && sameL r s
  | _, _ => false

theorem sameL_iff (a b : List UInt8) : sameL a b = decide (a.map lowC = b.map lowC) := by
  induction a generalizing b with
  | nil => cases b <;> simp [sameL]
  | cons c r ih =>
    cases b with
    | nil => simp [sameL]
    | cons d s =>
      simp only [sameL, ih, sameC_iff, List.map_cons, List.cons.injEq]
      rw [Bool.eq_iff_iff]; simp

end Go.Proofs.Qxb6600136a.PlainFold
