import Derived.Test.Qxb6600136aLex
namespace Go.Proofs.Qxb6600136a
open Go.RowKit
set_option linter.unusedVariables false
set_option linter.unusedSimpArgs false

theorem numW_grown (w : World) (q : ByteArray) (p : Nat) (c : Array Value) : Grown w ((numW w q p).alloc (.cells c 39)).drew := by
  unfold numW
  exact Grown.drew (Grown.alloc (Grown.drew (Grown.drew (Grown.alloc (Grown.alloc (Grown.refl _) _ _) _ _))) _ _)

set_option maxHeartbeats 800000 in
set_option maxRecDepth 100000 in
theorem lex_any (q : ByteArray) (p : Nat) (hq : q.size ≤ 1048576) (hp : p ≤ q.size) (w : World) :
    Calls Try.prog 11 #[.string q, .int .i64 p] w fun e w' =>
      e = .returned (.tuple #[.int .u8 (kindAt q p), .string (q.extract p (endAt q p)), .int .i64 p, .int .i64 (endAt q p), .int .i64 (endAt q p)]) ∧ Grown w w' := by
  go_enter Try.func11, Try.ntmps11
  go_wp2_with (go_at_call 22; refine (number_any q p hq hp w).mono ?_; rintro e w' ⟨rfl, rfl⟩; unfold numW)
  go_region
  all_goals go_wp2
  all_goals
    refine bodyPost_ret (v := .tuple #[.int .u8 (kindAt q p), .string (q.extract p (endAt q p)), .int .i64 p, .int .i64 (endAt q p), .int .i64 (endAt q p)]) (by simp [results, Try.results11, go_sem]) rfl ?_
    exact ⟨rfl, by repeat (first | exact Grown.refl _ | apply Grown.drew | apply Grown.alloc)⟩

theorem end_ge (q : ByteArray) (p : Nat) : p ≤ endAt q p := Nat.le_add_right _ _
theorem end_le (q : ByteArray) (p : Nat) (hp : p ≤ q.size) : endAt q p ≤ q.size := by
  have := Plain.nlex_le (q.data.toList.drop p)
  simp at this
  unfold endAt
  omega

theorem extract_list (q : ByteArray) (a b : Nat) : (q.extract a b).data.toList = (q.data.toList.drop a).take (b - a) := by
  rw [ByteArray.data_extract, Array.toList_extract, List.extract_eq_take_drop]

theorem bytes_ext {a b : ByteArray} (h : a.data.toList = b.data.toList) : a = b := by
  cases a; cases b; simp at h; simp [h]

theorem size_list (q : ByteArray) : q.size = q.data.toList.length := by simp

/-- The token's own text, lexed alone. -/
theorem lex_self (q : ByteArray) (p : Nat) (hq : q.size ≤ 1048576) (hp : p ≤ q.size) (w : World) :
    Calls Try.prog 11 #[.string (q.extract p (endAt q p)), .int .i64 0] w fun e w' =>
      e = .returned (.tuple #[.int .u8 (kindAt q p), .string (q.extract p (endAt q p)), .int .i64 0, .int .i64 (q.extract p (endAt q p)).size, .int .i64 (q.extract p (endAt q p)).size]) ∧ Grown w w' := by
  have hl : (q.extract p (endAt q p)).data.toList = (q.data.toList.drop p).take (Plain.nlex (q.data.toList.drop p)).1 := by
    rw [extract_list]; unfold endAt; congr 1; omega
  have hn := Plain.nlex_le (q.data.toList.drop p)
  have hsz : (q.extract p (endAt q p)).size = (Plain.nlex (q.data.toList.drop p)).1 := by
    rw [size_list, hl, List.length_take]; omega
  have he := end_le q p hp
  have hN : Plain.nlex ((q.extract p (endAt q p)).data.toList.drop 0) = Plain.nlex (q.data.toList.drop p) := by
    rw [List.drop_zero, hl, Plain.nlex_take]
  have hE : endAt (q.extract p (endAt q p)) 0 = (q.extract p (endAt q p)).size := by
    rw [hsz]; simp only [endAt] at hN ⊢; rw [hN]; omega
  have hK : kindAt (q.extract p (endAt q p)) 0 = kindAt q p := by
    unfold kindAt; rw [hN]
  have h := lex_any (q.extract p (endAt q p)) 0 (by rw [hsz]; simp at hn; omega) (Nat.zero_le _) w
  rw [hE, hK] at h
  have hX : (q.extract p (endAt q p)).extract 0 (q.extract p (endAt q p)).size = q.extract p (endAt q p) := by
    apply bytes_ext; rw [extract_list, List.drop_zero, List.take_of_length_le (by rw [← size_list]; omega)]
  rw [hX] at h
  exact h

/-- What stands ahead of p does not matter. -/
theorem lex_shift (q : ByteArray) (p : Nat) (hq : q.size ≤ 1048576) (hp : p ≤ q.size) (w : World) :
    Calls Try.prog 11 #[.string (q.extract p q.size), .int .i64 0] w fun e w' =>
      e = .returned (.tuple #[.int .u8 (kindAt q p), .string (q.extract p (endAt q p)), .int .i64 0, .int .i64 ((endAt q p : Int) - p), .int .i64 ((endAt q p : Int) - p)]) ∧ Grown w w' := by
  have hl : (q.extract p q.size).data.toList = q.data.toList.drop p := by
    rw [extract_list, List.take_of_length_le (by simp)]
  have hn := Plain.nlex_le (q.data.toList.drop p)
  have hsz : (q.extract p q.size).size = q.size - p := by
    rw [size_list, hl]; simp
  have hN : Plain.nlex ((q.extract p q.size).data.toList.drop 0) = Plain.nlex (q.data.toList.drop p) := by
    rw [List.drop_zero, hl]
  have hE : ((endAt (q.extract p q.size) 0 : Nat) : Int) = (endAt q p : Int) - p := by
    unfold endAt; rw [hN]; omega
  have hK : kindAt (q.extract p q.size) 0 = kindAt q p := by
    unfold kindAt; rw [hN]
  have hX : (q.extract p q.size).extract 0 (endAt (q.extract p q.size) 0) = q.extract p (endAt q p) := by
    have hd : endAt (q.extract p q.size) 0 - 0 = endAt q p - p := by omega
    apply bytes_ext; rw [extract_list, hl, List.drop_zero, extract_list, hd]
  have h := lex_any (q.extract p q.size) 0 (by rw [hsz]; omega) (Nat.zero_le _) w
  rw [hE, hK, hX] at h
  exact h

end Go.Proofs.Qxb6600136a
