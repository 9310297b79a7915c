/-
  THE PLAIN MATHEMATICS OF SEAT b6600136a: no Go, no model: lists of bytes.
-/
namespace Go.Proofs.Qxb6600136a.Plain
set_option linter.unusedSimpArgs false

def isDig (c : UInt8) : Bool := decide (48 ≤ c.toNat) && decide (c.toNat ≤ 57)

/-- How many digits the list opens with. -/
def dl : List UInt8 → Nat
  | [] => 0
  | c :: r => if isDig c then dl r + 1 else 0

/-- The length of a fraction's part: '.' and digits; and is there one? -/
def frac : List UInt8 → Nat × Bool
  | [] => (0, false)
  | c :: r => if c.toNat = 46 then (1 + dl r, true) else (0, false)

/-- A sign's length. -/
def sgn : List UInt8 → Nat
  | [] => 0
  | c :: _ => if c.toNat = 43 ∨ c.toNat = 45 then 1 else 0

def expo : List UInt8 → Nat × Bool
  | [] => (0, false)
  | c :: r => if c.toNat = 101 ∨ c.toNat = 69 then
      (if dl (r.drop (sgn r)) = 0 then (0, false) else (1 + sgn r + dl (r.drop (sgn r)), true))
    else (0, false)

/-- The token at the head of l: its length; is it a number token (not an integer)? -/
def nlex (l : List UInt8) : Nat × Bool :=
  let a := dl l
  let f := frac (l.drop a)
  let e := expo (l.drop (a + f.1))
  (a + f.1 + e.1, f.2 || e.2)

theorem dl_le (l : List UInt8) : dl l ≤ l.length := by
  induction l with
  | nil => simp [dl]
  | cons c r ih => simp only [dl]; split <;> simp <;> omega

theorem frac_le (l : List UInt8) : (frac l).1 ≤ l.length := by
  cases l with
  | nil => simp [frac]
  | cons c r => have := dl_le r; simp only [frac]; split <;> simp <;> omega

theorem sgn_le (l : List UInt8) : sgn l ≤ l.length := by
  cases l with
  | nil => simp [sgn]
  | cons c r => simp only [sgn]; split <;> simp

theorem expo_le (l : List UInt8) : (expo l).1 ≤ l.length := by
  cases l with
  | nil => simp [expo]
  | cons c r =>
    have h1 := dl_le (r.drop (sgn r))
    have h2 := sgn_le r
    simp only [List.length_drop] at h1
    simp only [expo]
    split
    · split <;> simp <;> omega
    · simp

theorem nlex_le (l : List UInt8) : (nlex l).1 ≤ l.length := by
  have h1 := dl_le l
  have h2 := frac_le (l.drop (dl l))
  have h3 := expo_le (l.drop (dl l + (frac (l.drop (dl l))).1))
  simp only [List.length_drop] at h2 h3
  simp only [nlex]
  omega

/-! ### What stands behind does not matter -/

theorem dl_take (l : List UInt8) (n : Nat) (h : dl l ≤ n) : dl (l.take n) = dl l := by
  induction l generalizing n with
  | nil => simp [dl]
  | cons c r ih =>
    cases n with
    | zero => simp [dl] at h ⊢; simp [dl, h]
    | succ n =>
      simp only [List.take_succ_cons, dl] at h ⊢
      split
      · rename_i hc; rw [if_pos hc] at h; rw [ih n (by omega)]
      · rfl

theorem dl_take_le (l : List UInt8) (n : Nat) : dl (l.take n) ≤ dl l := by
  induction l generalizing n with
  | nil => simp [dl]
  | cons c r ih =>
    cases n with
    | zero => simp [dl]
    | succ n =>
      simp only [List.take_succ_cons, dl]
      split
      · have := ih n; omega
      · simp

theorem frac_take (l : List UInt8) (n : Nat) (h : (frac l).1 ≤ n) : frac (l.take n) = frac l := by
  cases l with
  | nil => simp [frac]
  | cons c r =>
    cases n with
    | zero =>
      simp only [frac] at h ⊢
      split at h
      · simp at h
      · rename_i hc; simp [frac, hc]
    | succ n =>
      simp only [List.take_succ_cons, frac] at h ⊢
      split
      · rename_i hc; rw [if_pos hc] at h; simp only at h; rw [dl_take r n (by omega)]
      · rfl

theorem sgn_take (l : List UInt8) (n : Nat) (h : sgn l ≤ n) : sgn (l.take n) = sgn l := by
  cases l with
  | nil => simp [sgn]
  | cons c r =>
    cases n with
    | zero =>
      simp only [sgn] at h ⊢
      split at h
      · simp at h
      · rename_i hc; simp [sgn, hc]
    | succ n => simp only [List.take_succ_cons, sgn]

theorem drop_take' {α : Type} (l : List α) (a n : Nat) : (l.take n).drop a = (l.drop a).take (n - a) := by
  rw [List.drop_take]

theorem expo_take (l : List UInt8) (n : Nat) (h : n = (expo l).1) : expo (l.take n) = expo l := by
  cases l with
  | nil => simp [expo]
  | cons c r =>
    simp only [expo] at h ⊢
    split at h
    · rename_i hc
      split at h
      · rename_i hz
        subst h
        simp [hz, hc, expo]
      · rename_i hz
        simp only at h
        obtain ⟨m, rfl⟩ : ∃ m, n = m + 1 := ⟨n - 1, by omega⟩
        simp only [List.take_succ_cons, expo, if_pos hc]
        have e1 : sgn (r.take m) = sgn r := sgn_take r m (by omega)
        rw [e1, drop_take', dl_take _ _ (by omega)]
    · rename_i hc; subst h; simp [hc, expo]

/-- A token's own text, lexed alone, is the whole text, of the same kind. -/
theorem nlex_take (l : List UInt8) : nlex (l.take (nlex l).1) = nlex l := by
  have hn : (nlex l).1 = dl l + (frac (l.drop (dl l))).1 + (expo (l.drop (dl l + (frac (l.drop (dl l))).1))).1 := rfl
  generalize hN : (nlex l).1 = N at hn ⊢
  have e1 : dl (l.take N) = dl l := dl_take _ _ (by omega)
  have e2 : frac ((l.take N).drop (dl l)) = frac (l.drop (dl l)) := by rw [drop_take']; exact frac_take _ _ (by omega)
  have e3 : expo ((l.take N).drop (dl l + (frac (l.drop (dl l))).1)) = expo (l.drop (dl l + (frac (l.drop (dl l))).1)) := by
    rw [drop_take']; exact expo_take _ _ (by omega)
  unfold nlex
  simp only [e1, e2, e3]

end Go.Proofs.Qxb6600136a.Plain
