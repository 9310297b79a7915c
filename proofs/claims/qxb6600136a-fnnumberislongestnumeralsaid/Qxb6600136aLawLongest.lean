import Derived.Test.Qxb6600136aLexTop
import Derived.Test.Qxb6600136aAuto
namespace Go.Proofs.Qxb6600136a.Longest
open Go.RowKit
set_option linter.unusedVariables false
set_option linter.unusedSimpArgs false

theorem runAt_is (q : ByteArray) (p : Nat) : runAt q 0 p p false = (endAt q p, (Plain.nlex (q.data.toList.drop p)).2) := by
  unfold runAt endAt; exact Plain.run0 _ _

set_option maxHeartbeats 800000 in
set_option maxRecDepth 100000 in
theorem core (q : ByteArray) (p : Nat) (hq : q.size ≤ 1048576) (hp : p ≤ q.size) (w : World) :
    Calls Try.prog 3 #[.string q, .int .i64 p] w fun e w' => e = .returned (.bool true) ∧ Grown w w' := by
  have h1 := end_ge q p
  have h2 := end_le q p hp
  have C1 : Hid (∀ w, Calls Try.prog 11 #[.string q, .int .i64 p] w _) := fun w => lex_any q p hq hp w
  have C2 : Hid (∀ w, Calls Try.prog 12 #[.string q, .int .i64 p] w fun e w' => e = .returned (.tuple #[.int .i64 (endAt q p), .bool (Plain.nlex (q.data.toList.drop p)).2]) ∧ w' = w) := fun w => by
    have h := longest_any q p hq hp w
    rw [runAt_is] at h
    exact h
  unfold kindAt at C1
  generalize endAt q p = en at *
  generalize (Plain.nlex (q.data.toList.drop p)).2 = bb at *
  cases bb
  · simp only [Bool.false_eq_true, if_false] at C1
    go_enter Try.func3, Try.ntmps3
    go_wp2_with (first | (go_at_call 10; go_in) | fail)
    refine (C1.out _).mono ?_
    rintro e w1 ⟨rfl, g1⟩
    go_wp2_with fail
    refine (C2.out _).mono ?_
    rintro e w2 ⟨rfl, hw2⟩
    subst hw2
    go_wp2_with fail
    go_ret
    exact ⟨rfl, g1⟩
  · simp only [if_true] at C1
    go_enter Try.func3, Try.ntmps3
    go_wp2_with (first | (go_at_call 10; go_in) | fail)
    refine (C1.out _).mono ?_
    rintro e w1 ⟨rfl, g1⟩
    go_wp2_with fail
    refine (C2.out _).mono ?_
    rintro e w2 ⟨rfl, hw2⟩
    subst hw2
    go_wp2_with fail
    go_ret
    exact ⟨rfl, g1⟩

end Go.Proofs.Qxb6600136a.Longest
