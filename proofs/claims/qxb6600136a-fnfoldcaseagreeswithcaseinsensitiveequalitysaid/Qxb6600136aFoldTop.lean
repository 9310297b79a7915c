import Derived.Test.Qxb6600136aFold
namespace Go.Proofs.Qxb6600136a
open Go.RowKit
set_option linter.unusedVariables false
set_option linter.unusedSimpArgs false

theorem ZZFold_any (s : ByteArray) (hs : s.size ≤ 1048576) (w : World) :
    Calls Try.prog 16 #[.string s] w fun e w' => e = .returned (.string (fold s)) ∧ Below w.heap.size w w' := by
  go_enter Try.func16, Try.ntmps16
  go_wp2_with (go_at_call 24; refine (foldCase_any s hs w).mono ?_; rintro e w' ⟨rfl, hb⟩)
  go_ret
  exact ⟨rfl, hb⟩

set_option maxHeartbeats 400000 in
theorem hasUpper_any (s : ByteArray) (hs : s.size ≤ 1048576) (w : World) :
    Calls Try.prog 17 #[.string s] w fun e w' => e = .returned (.bool (PlainFold.anyUp s.data.toList)) ∧ w' = w := by
  go_enter Try.func17, Try.ntmps17
  go_wp2
  go_loopg [3] (s.size) (fun g i wr => ∃ k : Nat, g = s.size - k ∧ k ≤ s.size ∧ i = .int .i64 k ∧ upAt s k = false ∧ w = wr)
  case atStart => exact ⟨0, rfl, Nat.zero_le _, rfl, rfl, rfl⟩
  case round =>
    obtain ⟨k, rfl, hk, rfl, hb, rfl⟩ := hrel
    have HB : Hid _ := hb; clear hb
    by_cases hlt : k < s.size
    · by_cases hA : 65 ≤ (s[k].toNat : Int)
      · by_cases hZ : (s[k].toNat : Int) ≤ 90
        · go_wp2
          go_ret
          refine ⟨?_, rfl⟩
          have e : PlainFold.anyUp s.data.toList = true := by
            unfold PlainFold.anyUp
            rw [List.any_eq_true]
            exact ⟨s[k], by rw [← getD_at s k hlt, List.getD_eq_getElem?_getD, List.getElem?_eq_getElem (by simpa using hlt)]; simp, isUp_yes hA hZ⟩
          rw [e]; rfl
        · have hd : decide ((s[k].toNat : Int) ≤ 90) = false := decide_eq_false hZ
          go_wp2
          go_roundg (s.size - (k + 1))
          case measure => omega
          case rel => exact ⟨k + 1, rfl, by omega, by go_num, by rw [upAt_snoc s k hlt, HB.out, isUp_no (Or.inr (by omega))]; rfl, rfl⟩
      · have hd : decide (65 ≤ (s[k].toNat : Int)) = false := decide_eq_false hA
        go_wp2
        go_roundg (s.size - (k + 1))
        case measure => omega
        case rel => exact ⟨k + 1, rfl, by omega, by go_num, by rw [upAt_snoc s k hlt, HB.out, isUp_no (Or.inl (by omega))]; rfl, rfl⟩
    · go_wp2
      go_ret
      refine ⟨?_, rfl⟩
      have e : k = s.size := by omega
      have e' : PlainFold.anyUp s.data.toList = false := by rw [← upAt_all, ← e, HB.out]
      rw [e']; rfl

theorem fold_size (s : ByteArray) : (fold s).size = s.size := by
  show (s.data.toList.map PlainFold.lowC).toArray.size = s.data.size
  simp

theorem fold_list (s : ByteArray) : (fold s).data.toList = s.data.toList.map PlainFold.lowC := by simp [fold]

theorem anyUp_fold (s : ByteArray) : PlainFold.anyUp (fold s).data.toList = false := by
  rw [fold_list]; exact PlainFold.anyUp_low _

theorem fold_fold (s : ByteArray) : fold (fold s) = fold s := by
  have h : fold (fold s) = ⟨((fold s).data.toList.map PlainFold.lowC).toArray⟩ := rfl
  rw [h, PlainFold.low_of_not _ (anyUp_fold s)]

theorem fold_not (s : ByteArray) (h : PlainFold.anyUp s.data.toList = false) : fold s = s := by
  unfold fold; rw [PlainFold.low_of_not _ h]

theorem below_next {a b c : World} (h : Below a.heap.size a b) (k : Below b.heap.size b c) : Below a.heap.size a c :=
  h.trans (k.mono h.size)

set_option maxHeartbeats 400000 in
theorem idem_core (s : ByteArray) (hs : s.size ≤ 1048576) (w : World) :
    Calls Try.prog 6 #[.string s] w fun e w' => e = .returned (.bool true) ∧ Below w.heap.size w w' := by
  have C1 : Hid (∀ w, Calls Try.prog 16 #[.string s] w _) := fun w => ZZFold_any s hs w
  have C2 : Hid (∀ w, Calls Try.prog 16 #[.string (fold s)] w fun e w' => e = .returned (.string (fold s)) ∧ Below w.heap.size w w') := fun w => by
    have h := ZZFold_any (fold s) (by rw [fold_size]; exact hs) w
    rw [fold_fold] at h
    exact h
  have C3 : Hid (∀ w, Calls Try.prog 17 #[.string (fold s)] w fun e w' => e = .returned (.bool false) ∧ w' = w) := fun w => by
    have h := hasUpper_any (fold s) (by rw [fold_size]; exact hs) w
    rw [anyUp_fold] at h
    exact h
  have hz := fold_size s
  cases hU : PlainFold.anyUp s.data.toList
  · have C4 : Hid (∀ w, Calls Try.prog 17 #[.string s] w fun e w' => e = .returned (.bool false) ∧ w' = w) := fun w => by
      have h := hasUpper_any s hs w
      rw [hU] at h
      exact h
    have hF := fold_not s hU
    rw [hF] at C1 C2 C3
    clear hF hz hU
    go_enter Try.func6, Try.ntmps6
    go_wp2_with (first | (go_at_call 15; go_in) | fail)
    refine (C1.out _).mono ?_
    rintro e w1 ⟨rfl, g1⟩
    go_wp2_with fail
    refine (C3.out _).mono ?_
    rintro e w2 ⟨rfl, hw2⟩
    subst hw2
    go_wp2_with fail
    refine (C2.out _).mono ?_
    rintro e w3 ⟨rfl, g3⟩
    go_wp2_with fail
    refine (C4.out _).mono ?_
    rintro e w4 ⟨rfl, hw4⟩
    subst hw4
    go_wp2_with fail
    go_ret
    exact ⟨rfl, below_next g1 g3⟩
  · have C4 : Hid (∀ w, Calls Try.prog 17 #[.string s] w fun e w' => e = .returned (.bool true) ∧ w' = w) := fun w => by
      have h := hasUpper_any s hs w
      rw [hU] at h
      exact h
    clear hU
    generalize fold s = t at *
    go_enter Try.func6, Try.ntmps6
    go_wp2_with (first | (go_at_call 15; go_in) | fail)
    refine (C1.out _).mono ?_
    rintro e w1 ⟨rfl, g1⟩
    go_wp2_with fail
    refine (C3.out _).mono ?_
    rintro e w2 ⟨rfl, hw2⟩
    subst hw2
    go_wp2_with fail
    refine (C2.out _).mono ?_
    rintro e w3 ⟨rfl, g3⟩
    go_wp2_with fail
    refine (C4.out _).mono ?_
    rintro e w4 ⟨rfl, hw4⟩
    subst hw4
    go_wp2_with fail
    go_ret
    exact ⟨rfl, below_next g1 g3⟩

end Go.Proofs.Qxb6600136a
