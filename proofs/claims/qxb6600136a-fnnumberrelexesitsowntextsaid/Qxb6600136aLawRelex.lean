import Derived.Test.Qxb6600136aLexTop
namespace Go.Proofs.Qxb6600136a.Relex
open Go.RowKit
set_option linter.unusedVariables false
set_option linter.unusedSimpArgs false

theorem grown_trans {a b c : World} (h : Grown a b) (k : Grown b c) : Grown a c :=
  ⟨World.keptBut_trans h.1 k.1, fun x => (k.2.1 x).trans (h.2.1 x), Nat.le_trans h.2.2 k.2.2⟩

set_option maxHeartbeats 800000 in
set_option maxRecDepth 100000 in
theorem core (q : ByteArray) (p : Nat) (hq : q.size ≤ 1048576) (hp : p ≤ q.size) (w : World) :
    Calls Try.prog 4 #[.string q, .int .i64 p] w fun e w' => e = .returned (.bool true) ∧ Grown w w' := by
  have h1 := end_ge q p
  have h2 := end_le q p hp
  have C1 : Hid (∀ w, Calls Try.prog 11 #[.string q, .int .i64 p] w _) := fun w => lex_any q p hq hp w
  have C2 : Hid (∀ w, Calls Try.prog 11 #[.string (q.extract p (endAt q p)), .int .i64 0] w _) := fun w => lex_self q p hq hp w
  have C3 : Hid (∀ w, Calls Try.prog 11 #[.string (q.extract p q.size), .int .i64 0] w _) := fun w => lex_shift q p hq hp w
  generalize q.extract p (endAt q p) = t at C1 C2 C3
  generalize endAt q p = en at *
  generalize kindAt q p = kd at *
  go_enter Try.func4, Try.ntmps4
  go_wp2_with (first | (go_at_call 13; go_in) | fail)
  refine (C1.out _).mono ?_
  rintro e w1 ⟨rfl, g1⟩
  go_wp2_with fail
  refine (C2.out _).mono ?_
  rintro e w2 ⟨rfl, g2⟩
  go_wp2_with fail
  refine (C3.out _).mono ?_
  rintro e w3 ⟨rfl, g3⟩
  go_wp2_with fail
  go_ret
  exact ⟨rfl, grown_trans g1 (grown_trans g2 g3)⟩

end Go.Proofs.Qxb6600136a.Relex
