import Derived.Test.Qxb6600136aRows
import Derived.Test.Qxb6600136aPlainFold
import Derived.WalkKit
import Derived.RegionTactic
import Derived.BigRegion
import Derived.Deep.CutBlock
import Derived.Deep.CutRange
namespace Go.Proofs.Qxb6600136a
open Go.RowKit
set_option linter.unusedVariables false
set_option linter.unusedSimpArgs false

/-- The folded text. -/
def fold (s : ByteArray) : ByteArray := ⟨(s.data.toList.map PlainFold.lowC).toArray⟩

theorem take_at (s : ByteArray) (k : Nat) (h : k < s.size) : s.data.toList.take (k + 1) = s.data.toList.take k ++ [s[k]] := by
  rw [List.take_succ_eq_append_getElem (by simpa using h)]; rfl

theorem getD_at (s : ByteArray) (k : Nat) (h : k < s.size) : s.data.toList.getD k 0 = s[k] := by
  rw [List.getD_eq_getElem?_getD, List.getElem?_eq_getElem (by simpa using h)]; rfl

theorem addr_add (b o j : Nat) : (⟨b, o, none⟩ : Addr).add j = ⟨b, o + j, none⟩ := by
  unfold Addr.add
  split <;> simp_all

def upAt (s : ByteArray) (k : Nat) : Bool := PlainFold.anyUp (s.data.toList.take k)

theorem upAt_snoc (s : ByteArray) (k : Nat) (h : k < s.size) : upAt s (k + 1) = (upAt s k || PlainFold.isUp s[k]) := by
  simp only [upAt, take_at s k h, PlainFold.anyUp, List.any_append, List.any_cons, List.any_nil, Bool.or_false]

theorem upAt_all (s : ByteArray) : upAt s s.size = PlainFold.anyUp s.data.toList := by
  unfold upAt; rw [List.take_of_length_le (by simp)]

theorem isUp_yes {c : UInt8} (h1 : 65 ≤ (c.toNat : Int)) (h2 : (c.toNat : Int) ≤ 90) : PlainFold.isUp c = true := by
  simp [PlainFold.isUp]; omega
theorem isUp_no {c : UInt8} (h : (c.toNat : Int) < 65 ∨ 90 < (c.toNat : Int)) : PlainFold.isUp c = false := by
  simp [PlainFold.isUp]; omega

/-- The byte of cell j once the first k are folded. -/
def cellAt (s : ByteArray) (k j : Nat) : UInt8 := if j < k then PlainFold.lowC (s.data.toList.getD j 0) else s.data.toList.getD j 0

/-- The row that the call has made, its first k bytes folded. -/
structure RowIs (w wr : World) (s : ByteArray) (k : Nat) : Prop where
  below : Below w.heap.size w wr
  cell : ∀ j, j < s.size → wr.cell? ⟨w.heap.size, j, none⟩ = some (.int .u8 ((cellAt s k j).toNat : Int))
  frozen : ∀ j, j < s.size → wr.frozen? ⟨w.heap.size, j, none⟩ = false

theorem RowIs.start (w : World) (s : ByteArray) (cap : Nat) (hcap : s.size ≤ cap) :
    RowIs w (w.alloc (.cells (bytesRow s cap) 5 ((bytesRow s cap).size, (bytesRow s cap).size + 1))).drew s 0 := by
  refine ⟨Below.drew ((Below.refl _ _).alloc (Nat.le_refl _) _), fun j hj => ?_, fun j hj => ?_⟩
  · show (w.alloc _).cell? _ = _
    rw [World.cell?_alloc_mark, bytesRow_at s cap j (by simpa using hj)]
    simp only [cellAt, Nat.not_lt_zero, if_false, getD_at s j hj]
    rfl
  · show (w.alloc _).frozen? _ = _
    rw [World.frozen?_alloc_mark]
    have : s.size ≤ (bytesRow s cap).size := by simp [bytesRow]
    simp; omega

theorem RowIs.skip {w wr : World} {s : ByteArray} {k : Nat} (h : RowIs w wr s k) (hk : k < s.size) (hu : PlainFold.isUp (s.data.toList.getD k 0) = false) : RowIs w wr s (k + 1) := by
  refine ⟨h.below, fun j hj => ?_, h.frozen⟩
  rw [h.cell j hj]
  unfold cellAt
  by_cases hjk : j < k
  · rw [if_pos hjk, if_pos (by omega)]
  · by_cases he : j = k
    · subst he; rw [if_neg hjk, if_pos (by omega), PlainFold.lowC_not hu]
    · rw [if_neg hjk, if_neg (by omega)]

theorem RowIs.put {w wr : World} {s : ByteArray} {k : Nat} (h : RowIs w wr s k) (hk : k < s.size) (n : Int) (hn : n = ((PlainFold.lowC (s.data.toList.getD k 0)).toNat : Int)) :
    RowIs w (wr.setCell ⟨w.heap.size, k, none⟩ (.int .u8 n)) s (k + 1) := by
  refine ⟨h.below.setCell (Nat.le_refl _) _, fun j hj => ?_, fun j hj => ?_⟩
  · by_cases he : j = k
    · subst he
      rw [World.cell?_setCell_same _ _ _ (h.cell j hj), hn]
      unfold cellAt; rw [if_pos (by omega)]
    · rw [World.cell?_setCell_other _ _ _ _ (by simp only [ne_eq, Addr.mk.injEq]; omega), h.cell j hj]
      unfold cellAt
      by_cases hjk : j < k
      · rw [if_pos hjk, if_pos (by omega)]
      · rw [if_neg hjk, if_neg (by omega)]
  · rw [World.frozen?_setCell]; exact h.frozen j hj

theorem RowIs.back {w wr : World} {s : ByteArray} (h : RowIs w wr s s.size) (cap : Nat) :
    (convert 43 9 (.slice (some ⟨w.heap.size, 0, none⟩) s.size cap)).run Try.prog wr = .ok (.string (fold s)) wr := by
  have hl : (s.data.toList.map PlainFold.lowC).length = s.size := by simp
  have h' := run_convert_bytes_back (P := Try.prog) wr 43 9 5 ⟨w.heap.size, 0, none⟩ cap (s.data.toList.map PlainFold.lowC) Try.underlying43 Try.underlying5 Try.underlying9 (fun j hj => by
    have hj' : j < s.size := by rw [← hl]; exact hj
    have hc := h.cell j hj'
    unfold cellAt at hc
    rw [if_pos hj', getD_at s j hj'] at hc
    rw [addr_add, Nat.zero_add, hc, List.getElem_map]
    rfl)
  rw [hl] at h'
  exact h'

set_option maxHeartbeats 800000 in
set_option maxRecDepth 100000 in
theorem foldCase_any (s : ByteArray) (hs : s.size ≤ 1048576) (w : World) :
    Calls Try.prog 24 #[.string s] w fun e w' => e = .returned (.string (fold s)) ∧ Below w.heap.size w w' := by
  have hcv := fun w => run_bytes_of_string (P := Try.prog) w 9 43 5 s Try.underlying9 Try.underlying43 Try.underlying5
  go_enter Try.func24, Try.ntmps24
  go_upto_block 0 with fail
  go_cut [3] from 4 to 54 (fun u wx => ∃ b : Bool, u = .bool b ∧ (b = false → PlainFold.anyUp s.data.toList = false) ∧ w = wx)
  case first =>
    go_wp2
    go_loopg [3, 4] (s.size) (fun g u i wr => ∃ (k : Nat) (b : Bool), g = s.size - k ∧ k ≤ s.size ∧ i = .int .i64 k ∧ u = .bool b ∧ b = upAt s k ∧ w = wr)
    case atStart => exact ⟨0, false, rfl, Nat.zero_le _, rfl, rfl, rfl, rfl⟩
    case round =>
      obtain ⟨k, b, rfl, hk, rfl, rfl, hb, rfl⟩ := hrel
      have HB : Hid _ := hb; clear hb
      by_cases hlt : k < s.size
      · cases b
        · by_cases hA : 65 ≤ (s[k].toNat : Int)
          · by_cases hZ : (s[k].toNat : Int) ≤ 90
            · go_wp2
              go_roundg (s.size - (k + 1))
              case measure => omega
              case rel => exact ⟨k + 1, true, rfl, by omega, by go_num, rfl, by rw [upAt_snoc s k hlt, isUp_yes hA hZ]; simp, rfl⟩
            · have hd : decide ((s[k].toNat : Int) ≤ 90) = false := decide_eq_false hZ
              go_wp2
              go_roundg (s.size - (k + 1))
              case measure => omega
              case rel => exact ⟨k + 1, false, rfl, by omega, by go_num, rfl, by rw [upAt_snoc s k hlt, ← HB.out, isUp_no (Or.inr (by omega))]; rfl, rfl⟩
          · have hd : decide (65 ≤ (s[k].toNat : Int)) = false := decide_eq_false hA
            go_wp2
            go_roundg (s.size - (k + 1))
            case measure => omega
            case rel => exact ⟨k + 1, false, rfl, by omega, by go_num, rfl, by rw [upAt_snoc s k hlt, ← HB.out, isUp_no (Or.inl (by omega))]; rfl, rfl⟩
        · go_wp2
          go_meet
          case rel => exact ⟨true, rfl, (fun h => by cases h), rfl⟩
      · go_wp2
        go_meet
        case rel =>
          refine ⟨b, rfl, fun h => ?_, rfl⟩
          have e : k = s.size := by omega
          rw [← upAt_all, ← e, ← HB.out, h]
  case rest =>
    obtain ⟨b, rfl, hb, rfl⟩ := hcut
    cases b
    · have HB : Hid _ := hb rfl
      clear hb
      go_wp2
      go_ret
      refine ⟨?_, Below.refl _ _⟩
      have e : fold s = s := by unfold fold; rw [PlainFold.low_of_not _ HB.out]
      rw [e]; rfl
    · clear hb
      go_wp2
      clear hcv
      go_loopg [35] (s.size) (fun g i wr => ∃ k : Nat, g = s.size - k ∧ k ≤ s.size ∧ i = .int .i64 k ∧ RowIs w wr s k)
      case atStart => exact ⟨0, rfl, Nat.zero_le _, rfl, RowIs.start w s _ (grownCap_ge _ _ _ _)⟩
      case round =>
        obtain ⟨k, rfl, hk, rfl, hrow⟩ := hrel
        by_cases hlt : k < s.size
        · have hc := hrow.cell k hlt
          have hf := hrow.frozen k hlt
          unfold cellAt at hc
          rw [if_neg (Nat.lt_irrefl k)] at hc
          obtain ⟨c, hcc⟩ : ∃ c, c = s.data.toList.getD k 0 := ⟨_, rfl⟩
          rw [← hcc] at hc
          have HC : Hid _ := hcc; clear hcc
          have HR : Hid _ := hrow; clear hrow
          by_cases hA : 65 ≤ (c.toNat : Int)
          · by_cases hZ : (c.toNat : Int) ≤ 90
            · go_wp2
              go_roundg (s.size - (k + 1))
              case measure => omega
              case rel =>
                refine ⟨k + 1, rfl, by omega, by go_num, HR.out.put hlt _ ?_⟩
                rw [← HC.out, PlainFold.lowC_toNat, if_pos (isUp_yes hA hZ)]
                omega
            · have hd : decide ((c.toNat : Int) ≤ 90) = false := decide_eq_false hZ
              go_wp2
              go_roundg (s.size - (k + 1))
              case measure => omega
              case rel => exact ⟨k + 1, rfl, by omega, by go_num, HR.out.skip hlt (by rw [← HC.out]; exact isUp_no (Or.inr (by omega)))⟩
          · have hd : decide (65 ≤ (c.toNat : Int)) = false := decide_eq_false hA
            go_wp2
            go_roundg (s.size - (k + 1))
            case measure => omega
            case rel => exact ⟨k + 1, rfl, by omega, by go_num, HR.out.skip hlt (by rw [← HC.out]; exact isUp_no (Or.inl (by omega)))⟩
        · have e : k = s.size := by omega
          have hbk := (e ▸ hrow : RowIs w wr s s.size).back (grownCap w s.size 0 5)
          have hbel := hrow.below
          clear hrow e
          go_wp2
          go_ret
          exact ⟨rfl, hbel⟩

end Go.Proofs.Qxb6600136a
