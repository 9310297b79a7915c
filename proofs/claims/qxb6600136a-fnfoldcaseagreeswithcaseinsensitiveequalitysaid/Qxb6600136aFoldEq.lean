import Derived.Test.Qxb6600136aFoldTop
namespace Go.Proofs.Qxb6600136a
open Go.RowKit
set_option linter.unusedVariables false
set_option linter.unusedSimpArgs false

theorem drop_at' (s : ByteArray) (k : Nat) (h : k < s.size) : s.data.toList.drop k = s[k] :: s.data.toList.drop (k + 1) := by
  rw [List.drop_eq_getElem_cons (by simpa using h)]; rfl

/-- The law's own comparison. -/
def eqAt (a b : ByteArray) (k : Nat) : Bool := PlainFold.sameL (a.data.toList.drop k) (b.data.toList.drop k)

theorem bits_all : ∀ n : Fin 256, bits BinOp.or IntKind.u8 (n.val : Int) 32 = (PlainFold.or32 n.val : Int) := by decide +kernel

theorem bits_eq (c : UInt8) : bits BinOp.or IntKind.u8 (c.toNat : Int) 32 = ((c ||| 32).toNat : Int) := by
  rw [PlainFold.or32_eq]
  exact bits_all ⟨c.toNat, c.toNat_lt⟩

theorem sameC_yes {c d : UInt8} (h : ((c.toNat : Int) == (d.toNat : Int)) = true) : PlainFold.sameC c d = true := by
  have h' : c = d := PlainFold.toNat_inj'.2 (by have := eq_of_beq h; omega)
  simp [PlainFold.sameC, h']

theorem sameC_yes' {c d : UInt8} (h1 : bits BinOp.or IntKind.u8 (c.toNat : Int) 32 = bits BinOp.or IntKind.u8 (d.toNat : Int) 32)
    (h2 : 97 ≤ bits BinOp.or IntKind.u8 (d.toNat : Int) 32) (h3 : bits BinOp.or IntKind.u8 (d.toNat : Int) 32 ≤ 122) : PlainFold.sameC c d = true := by
  rw [bits_eq, bits_eq] at h1
  rw [bits_eq] at h2 h3
  have h' : c ||| 32 = d ||| 32 := PlainFold.toNat_inj'.2 (by omega)
  simp only [PlainFold.sameC, h', decide_true, Bool.true_and, Bool.or_eq_true, Bool.and_eq_true, decide_eq_true_eq]
  right
  omega

theorem sameC_no {c d : UInt8} (h : ((c.toNat : Int) == (d.toNat : Int)) = false)
    (h1 : ¬ bits BinOp.or IntKind.u8 (c.toNat : Int) 32 = bits BinOp.or IntKind.u8 (d.toNat : Int) 32 ∨ bits BinOp.or IntKind.u8 (d.toNat : Int) 32 < 97 ∨ 122 < bits BinOp.or IntKind.u8 (d.toNat : Int) 32) : PlainFold.sameC c d = false := by
  rw [bits_eq, bits_eq] at h1
  have hn : ¬ c = d := fun e => by rw [e] at h; simp at h
  have key : ¬ ((c ||| 32) = (d ||| 32) ∧ 97 ≤ (c ||| 32).toNat ∧ (c ||| 32).toNat ≤ 122) := by
    rintro ⟨e, e1, e2⟩
    rw [e] at h1 e1 e2
    omega
  rw [Bool.eq_false_iff]
  intro hs
  simp only [PlainFold.sameC, Bool.or_eq_true, Bool.and_eq_true, decide_eq_true_eq] at hs
  rcases hs with hs | hs
  · exact hn hs
  · exact key ⟨hs.1, hs.2.1, hs.2.2⟩

theorem eqAt_step (a b : ByteArray) (k : Nat) (ha : k < a.size) (hb : k < b.size) : eqAt a b k = (PlainFold.sameC a[k] b[k] && eqAt a b (k + 1)) := by
  unfold eqAt
  rw [drop_at' a k ha, drop_at' b k hb]
  rfl

theorem eqAt_end (a b : ByteArray) (k : Nat) (ha : ¬ k < a.size) (hb : ¬ k < b.size) : eqAt a b k = true := by
  unfold eqAt
  rw [List.drop_of_length_le (by simp; omega), List.drop_of_length_le (by simp; omega)]
  rfl

theorem sameL_len (a b : List UInt8) (h : a.length ≠ b.length) : PlainFold.sameL a b = false := by
  rw [PlainFold.sameL_iff]
  apply decide_eq_false
  intro e
  have := congrArg List.length e
  simp at this
  exact h this

theorem eq_no {x : Bool} (h : x = false) : Ending.returned (Value.bool false) = .returned (.bool x) := by rw [h]

set_option maxHeartbeats 400000 in
theorem eqFold_any (a b : ByteArray) (ha : a.size ≤ 1048576) (hb : b.size ≤ 1048576) (w : World) :
    Calls Try.prog 20 #[.string a, .string b] w fun e w' => e = .returned (.bool (PlainFold.sameL a.data.toList b.data.toList)) ∧ w' = w := by
  by_cases hl : a.size = b.size
  · have hlb : ((a.size : Int) != (b.size : Int)) = false := by simp [hl]
    have hl1 : a.size ≤ b.size := by omega
    have hl2 : b.size ≤ a.size := by omega
    clear hl
    go_enter Try.func20, Try.ntmps20
    go_wp2
    go_loopg [5] (a.size) (fun g i wr => ∃ k : Nat, g = a.size - k ∧ k ≤ a.size ∧ i = .int .i64 k ∧ PlainFold.sameL a.data.toList b.data.toList = eqAt a b k ∧ w = wr)
    case atStart => exact ⟨0, rfl, Nat.zero_le _, rfl, by simp [eqAt], rfl⟩
    case round =>
      obtain ⟨k, rfl, hk, rfl, hE, rfl⟩ := hrel
      have HE : Hid _ := hE; clear hE
      by_cases hlt : k < a.size
      · have hltb : k < b.size := by omega
        have HS : Hid _ := eqAt_step a b k hlt hltb
        go_wp2
        · have hx : ((a[k].toNat : Int) == (b[k].toNat : Int)) = true := by assumption
          go_roundg (a.size - (k + 1))
          case measure => omega
          case rel => exact ⟨k + 1, rfl, by omega, by go_num, by rw [HE.out, HS.out, sameC_yes hx]; rfl, rfl⟩
        · have hx : ((a[k].toNat : Int) == (b[k].toNat : Int)) = false := by assumption
          have hy : bits BinOp.or IntKind.u8 (b[k].toNat : Int) 32 < 97 ∨ 122 < bits BinOp.or IntKind.u8 (b[k].toNat : Int) 32 := by assumption
          go_ret
          exact ⟨eq_no (by rw [HE.out, HS.out, sameC_no hx (Or.inr hy)]; rfl), rfl⟩
        · have hy : bits BinOp.or IntKind.u8 (a[k].toNat : Int) 32 = bits BinOp.or IntKind.u8 (b[k].toNat : Int) 32 := by assumption
          have hz : 97 ≤ bits BinOp.or IntKind.u8 (b[k].toNat : Int) 32 ∧ bits BinOp.or IntKind.u8 (b[k].toNat : Int) 32 ≤ 122 := by assumption
          go_roundg (a.size - (k + 1))
          case measure => omega
          case rel => exact ⟨k + 1, rfl, by omega, by go_num, by rw [HE.out, HS.out, sameC_yes' hy hz.1 hz.2]; rfl, rfl⟩
        · have hx : ((a[k].toNat : Int) == (b[k].toNat : Int)) = false := by assumption
          have hy : bits BinOp.or IntKind.u8 (b[k].toNat : Int) 32 < 97 := by assumption
          go_ret
          exact ⟨eq_no (by rw [HE.out, HS.out, sameC_no hx (Or.inr (Or.inl hy))]; rfl), rfl⟩
        · have hx : ((a[k].toNat : Int) == (b[k].toNat : Int)) = false := by assumption
          have hy : ¬ bits BinOp.or IntKind.u8 (a[k].toNat : Int) 32 = bits BinOp.or IntKind.u8 (b[k].toNat : Int) 32 := by assumption
          go_ret
          exact ⟨eq_no (by rw [HE.out, HS.out, sameC_no hx (Or.inl hy)]; rfl), rfl⟩
      · have HD : Hid _ := eqAt_end a b k hlt (by omega)
        go_wp2
        go_ret
        refine ⟨?_, rfl⟩
        rw [HE.out, HD.out]; rfl
  · have hlb : ((a.size : Int) != (b.size : Int)) = true := by rw [bne_iff_ne]; omega
    have HD : Hid _ := sameL_len a.data.toList b.data.toList (by simpa using hl)
    clear hl
    go_enter Try.func20, Try.ntmps20
    go_wp2
    go_ret
    exact ⟨eq_no HD.out, rfl⟩

theorem agree (a b : ByteArray) : (((fold a).toList == (fold b).toList) == PlainFold.sameL a.data.toList b.data.toList) = true := by
  rw [ByteArray.toList_eq, ByteArray.toList_eq, fold_list, fold_list, PlainFold.sameL_iff, beq_iff_eq, Bool.eq_iff_iff]
  simp

theorem eq_yes {x : Bool} (h : x = true) : Ending.returned (Value.bool x) = .returned (.bool true) := by rw [h]

set_option maxHeartbeats 400000 in
theorem agrees_core (a b : ByteArray) (ha : a.size ≤ 524288) (hb : b.size ≤ 524288) (w : World) :
    Calls Try.prog 8 #[.string a, .string b] w fun e w' => e = .returned (.bool true) ∧ Below w.heap.size w w' := by
  have C1 : Hid (∀ w, Calls Try.prog 16 #[.string a] w _) := fun w => ZZFold_any a (by omega) w
  have C2 : Hid (∀ w, Calls Try.prog 16 #[.string b] w _) := fun w => ZZFold_any b (by omega) w
  have C3 : Hid (∀ w, Calls Try.prog 20 #[.string a, .string b] w _) := fun w => eqFold_any a b (by omega) (by omega) w
  go_enter Try.func8, Try.ntmps8
  go_wp2_with (first | (go_at_call 19; go_in) | fail)
  refine (C1.out _).mono ?_
  rintro e w1 ⟨rfl, g1⟩
  go_wp2_with fail
  refine (C2.out _).mono ?_
  rintro e w2 ⟨rfl, g2⟩
  go_wp2_with fail
  refine (C3.out _).mono ?_
  rintro e w3 ⟨rfl, hw3⟩
  subst hw3
  go_wp2_with fail
  go_ret
  exact ⟨eq_yes (agree a b), below_next g1 g2⟩

end Go.Proofs.Qxb6600136a
