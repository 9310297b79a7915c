import Derived.Test.Qxb6600136aRows
import Derived.Test.Qxb6600136aPlainAuto
import Derived.WalkKit
import Derived.RegionTactic
import Derived.BigRegion
import Derived.Deep.CutBlock
import Derived.Deep.CutRange
namespace Go.Proofs.Qxb6600136a
open Go.RowKit
set_option linter.unusedVariables false
set_option linter.unusedSimpArgs false

theorem ret_nat {a : Int} {b : Nat} (h : (b : Int) = a) : Ending.returned (.int .i64 a) = .returned (.int .i64 b) := by rw [h]

set_option maxHeartbeats 400000 in
theorem numStep0 (c : Nat) (w : World) :
    Calls Try.prog 23 #[.int .i64 0, .int .u8 c] w fun e w' => e = .returned (.int .i64 (Plain.step 0 c : Nat)) ∧ w' = w := by
  go_enter Try.func23, Try.ntmps23
  go_wp2
  all_goals
    go_ret
    refine ⟨ret_nat ?_, rfl⟩
    try simp only [beq_iff_eq, beq_eq_false_iff_ne, ne_eq] at *
    simp only [Plain.step]
    (repeat' split) <;> omega

set_option maxHeartbeats 400000 in
theorem numStep1 (c : Nat) (w : World) :
    Calls Try.prog 23 #[.int .i64 1, .int .u8 c] w fun e w' => e = .returned (.int .i64 (Plain.step 1 c : Nat)) ∧ w' = w := by
  go_enter Try.func23, Try.ntmps23
  go_wp2
  all_goals
    go_ret
    refine ⟨ret_nat ?_, rfl⟩
    try simp only [beq_iff_eq, beq_eq_false_iff_ne, ne_eq] at *
    simp only [Plain.step]
    (repeat' split) <;> omega

set_option maxHeartbeats 400000 in
theorem numStep2 (c : Nat) (w : World) :
    Calls Try.prog 23 #[.int .i64 2, .int .u8 c] w fun e w' => e = .returned (.int .i64 (Plain.step 2 c : Nat)) ∧ w' = w := by
  go_enter Try.func23, Try.ntmps23
  go_wp2
  all_goals
    go_ret
    refine ⟨ret_nat ?_, rfl⟩
    try simp only [beq_iff_eq, beq_eq_false_iff_ne, ne_eq] at *
    simp only [Plain.step]
    (repeat' split) <;> omega

set_option maxHeartbeats 400000 in
theorem numStep3 (c : Nat) (w : World) :
    Calls Try.prog 23 #[.int .i64 3, .int .u8 c] w fun e w' => e = .returned (.int .i64 (Plain.step 3 c : Nat)) ∧ w' = w := by
  go_enter Try.func23, Try.ntmps23
  go_wp2
  all_goals
    go_ret
    refine ⟨ret_nat ?_, rfl⟩
    try simp only [beq_iff_eq, beq_eq_false_iff_ne, ne_eq] at *
    simp only [Plain.step]
    (repeat' split) <;> omega

set_option maxHeartbeats 400000 in
theorem numStep4 (c : Nat) (w : World) :
    Calls Try.prog 23 #[.int .i64 4, .int .u8 c] w fun e w' => e = .returned (.int .i64 (Plain.step 4 c : Nat)) ∧ w' = w := by
  go_enter Try.func23, Try.ntmps23
  go_wp2
  all_goals
    go_ret
    refine ⟨ret_nat ?_, rfl⟩
    try simp only [beq_iff_eq, beq_eq_false_iff_ne, ne_eq] at *
    simp only [Plain.step]
    (repeat' split) <;> omega

theorem numStep_any (st c : Nat) (hst : st ≤ 4) (w : World) :
    Calls Try.prog 23 #[.int .i64 st, .int .u8 c] w fun e w' => e = .returned (.int .i64 (Plain.step st c : Nat)) ∧ w' = w := by
  match st, hst with
  | 0, _ => exact numStep0 c w
  | 1, _ => exact numStep1 c w
  | 2, _ => exact numStep2 c w
  | 3, _ => exact numStep3 c w
  | 4, _ => exact numStep4 c w
  | n + 5, h => omega

theorem step_le (st c : Nat) : Plain.step st c ≤ 5 := by
  unfold Plain.step
  split <;> (repeat' split) <;> omega

theorem drop_at2 (s : ByteArray) (k : Nat) (h : k < s.size) : s.data.toList.drop k = s[k] :: s.data.toList.drop (k + 1) := by
  rw [List.drop_eq_getElem_cons (by simpa using h)]; rfl

/-- The automaton's run from k on. -/
def runAt (q : ByteArray) (st k b : Nat) (n : Bool) : Nat × Bool := Plain.run (q.data.toList.drop k) st k b n

theorem runAt_end (q : ByteArray) (st k b : Nat) (n : Bool) (h : ¬ k < q.size) : runAt q st k b n = (b, n) := by
  unfold runAt; rw [List.drop_of_length_le (by simp; omega)]; rfl
theorem runAt_dead (q : ByteArray) (st k b : Nat) (n : Bool) (h : k < q.size) (hs : Plain.step st q[k].toNat = 5) : runAt q st k b n = (b, n) := by
  unfold runAt; rw [drop_at2 q k h]; simp only [Plain.run]; rw [if_pos hs]
theorem runAt_acc (q : ByteArray) (st k b : Nat) (n : Bool) (h : k < q.size) (t : Nat) (ht : t = Plain.step st q[k].toNat) (hs : t ≠ 5) (ha : Plain.acc t = true) :
    runAt q st k b n = runAt q t (k + 1) (k + 1) (t != 0) := by
  subst ht
  unfold runAt; rw [drop_at2 q k h]; simp only [Plain.run]; rw [if_neg hs, if_pos ha]
theorem runAt_on (q : ByteArray) (st k b : Nat) (n : Bool) (h : k < q.size) (t : Nat) (ht : t = Plain.step st q[k].toNat) (hs : t ≠ 5) (ha : Plain.acc t = false) :
    runAt q st k b n = runAt q t (k + 1) b n := by
  subst ht
  unfold runAt; rw [drop_at2 q k h]; simp only [Plain.run]; rw [if_neg hs, if_neg (by simp [ha])]

set_option maxHeartbeats 800000 in
theorem longest_any (q : ByteArray) (p : Nat) (hq : q.size ≤ 1048576) (hp : p ≤ q.size) (w : World) :
    Calls Try.prog 12 #[.string q, .int .i64 p] w fun e w' =>
      e = .returned (.tuple #[.int .i64 (runAt q 0 p p false).1, .bool (runAt q 0 p p false).2]) ∧ w' = w := by
  go_enter Try.func12, Try.ntmps12
  go_wp2
  go_loopg [6, 7, 8, 9] (q.size - p) (fun g vb vn vs vi wr => ∃ (k st b : Nat) (n : Bool), g = q.size - k ∧ p ≤ k ∧ k ≤ q.size ∧ st ≤ 4 ∧ b ≤ q.size ∧ vb = .int .i64 b ∧ vn = .bool n ∧ vs = .int .i64 st ∧ vi = .int .i64 k ∧
    runAt q 0 p p false = runAt q st k b n ∧ w = wr)
  case atStart => exact ⟨p, 0, p, false, rfl, Nat.le_refl _, hp, by omega, hp, rfl, rfl, rfl, rfl, rfl, rfl⟩
  case round =>
    obtain ⟨k, st, b, n, rfl, hk0, hk, hst, hb, rfl, rfl, rfl, rfl, hE, rfl⟩ := hrel
    have HE : Hid _ := hE; clear hE
    by_cases hlt : k < q.size
    · have hle := step_le st q[k].toNat
      obtain ⟨t, ht⟩ : ∃ t, t = Plain.step st q[k].toNat := ⟨_, rfl⟩
      have HC : Hid (∀ w, Calls Try.prog 23 #[.int .i64 st, .int .u8 (q[k].toNat : Int)] w fun e w' => e = .returned (.int .i64 (t : Int)) ∧ w' = w) := fun w => by
        rw [ht]; exact numStep_any st q[k].toNat hst w
      rw [← ht] at hle
      have HT : Hid _ := ht; clear ht
      rcases (show t = 0 ∨ t = 1 ∨ t = 2 ∨ t = 3 ∨ t = 4 ∨ t = 5 by omega) with rfl | rfl | rfl | rfl | rfl | rfl
      · go_wp2_with (go_at_call 23; refine (HC.out _).mono ?_; rintro e w' ⟨rfl, rfl⟩)
        go_roundg (q.size - (k + 1))
        case measure => omega
        case rel => exact ⟨k + 1, 0, k + 1, false, rfl, by omega, by omega, by omega, by omega, by go_num, rfl, rfl, by go_num, by rw [HE.out, runAt_acc q st k b n hlt 0 HT.out (by decide) rfl]; rfl, rfl⟩
      · go_wp2_with (go_at_call 23; refine (HC.out _).mono ?_; rintro e w' ⟨rfl, rfl⟩)
        go_roundg (q.size - (k + 1))
        case measure => omega
        case rel => exact ⟨k + 1, 1, k + 1, true, rfl, by omega, by omega, by omega, by omega, by go_num, rfl, rfl, by go_num, by rw [HE.out, runAt_acc q st k b n hlt 1 HT.out (by decide) rfl]; rfl, rfl⟩
      · go_wp2_with (go_at_call 23; refine (HC.out _).mono ?_; rintro e w' ⟨rfl, rfl⟩)
        go_roundg (q.size - (k + 1))
        case measure => omega
        case rel => exact ⟨k + 1, 2, b, n, rfl, by omega, by omega, by omega, by omega, rfl, rfl, rfl, by go_num, by rw [HE.out, runAt_on q st k b n hlt 2 HT.out (by decide) rfl], rfl⟩
      · go_wp2_with (go_at_call 23; refine (HC.out _).mono ?_; rintro e w' ⟨rfl, rfl⟩)
        go_roundg (q.size - (k + 1))
        case measure => omega
        case rel => exact ⟨k + 1, 3, b, n, rfl, by omega, by omega, by omega, by omega, rfl, rfl, rfl, by go_num, by rw [HE.out, runAt_on q st k b n hlt 3 HT.out (by decide) rfl], rfl⟩
      · go_wp2_with (go_at_call 23; refine (HC.out _).mono ?_; rintro e w' ⟨rfl, rfl⟩)
        go_roundg (q.size - (k + 1))
        case measure => omega
        case rel => exact ⟨k + 1, 4, k + 1, true, rfl, by omega, by omega, by omega, by omega, by go_num, rfl, rfl, by go_num, by rw [HE.out, runAt_acc q st k b n hlt 4 HT.out (by decide) rfl]; rfl, rfl⟩
      · go_wp2_with (go_at_call 23; refine (HC.out _).mono ?_; rintro e w' ⟨rfl, rfl⟩)
        go_ret2
        rw [HE.out, runAt_dead q st k b n hlt HT.out.symm]
        exact ⟨rfl, rfl⟩
    · go_wp2
      go_ret2
      rw [HE.out, runAt_end q st k b n hlt]
      exact ⟨rfl, rfl⟩

end Go.Proofs.Qxb6600136a
