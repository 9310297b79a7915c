import Derived.Test.Qxb6601345aRunsOK
namespace Go.Proofs.Qxb6601345a
open Go.RowKit Go.Maps
set_option linter.unusedVariables false
set_option linter.unusedSimpArgs false

theorem Try.info5 : (Try.prog.info? 5).map (fun i => (i.zero, i.size, i.bytes)) = some (some (.int .u8 0), 1, 1) := by kernel_rfl

theorem make_u8 (n : Nat) (hn : n ≤ 524288) (w : World) :
    (Instr.makeSlice 58 (.int .i64 (n : Int)) (.int .i64 (n : Int))).run Try.prog w = .ok (.slice (some ⟨w.heap.size, 0, none⟩) n n) (w.alloc (.cells (madeCells #[.int .u8 0] n) 5)) := by
  obtain ⟨i, hi, hz0, hz1, hz2⟩ := info_parts Try.info5
  have h := run_make (P := Try.prog) w 58 5 i _ Try.underlying58 hi hz0 .i64 .i64 n n (by omega) (Int.le_refl _) (by rw [hz2]; omega) (by omega)
  simp only [Int.toNat_natCast, hz1, Nat.mul_one] at h
  exact h

theorem made_size (z : Value) (n : Nat) : (madeCells #[z] n).size = n := by simp [madeCells]

/-- The bytes bs lie at a, in a block from L on, below N. -/
def BytesTo (L N : Nat) (w : World) (a : Option Addr) (n : Nat) (bs : Nat → Nat) : Prop :=
  n = 0 ∨ ∃ b o, a = some ⟨b, o, none⟩ ∧ L ≤ b ∧ b < N ∧ ∀ j, j < n → w.cell? ⟨b, o + j, none⟩ = some (.int .u8 (bs j))

theorem BytesTo.below {L N M : Nat} {w w' : World} {a : Option Addr} {n : Nat} {bs : Nat → Nat} (h : BytesTo L N w a n bs) (hb : Below M w w') (hM : N ≤ M) : BytesTo L N w' a n bs := by
  rcases h with h | ⟨b, o, h1, h0, h2, h3⟩
  · exact .inl h
  · exact .inr ⟨b, o, h1, h0, h2, fun j hj => by rw [Below.cellOf hb (by omega)]; exact h3 j hj⟩

theorem BytesTo.mono {L N L' N' : Nat} {w : World} {a : Option Addr} {n : Nat} {bs : Nat → Nat} (h : BytesTo L N w a n bs) (hL : L' ≤ L) (hN : N ≤ N') : BytesTo L' N' w a n bs := by
  rcases h with h | ⟨b, o, h1, h0, h2, h3⟩
  · exact .inl h
  · exact .inr ⟨b, o, h1, by omega, by omega, h3⟩
theorem BytesTo.set {L N : Nat} {w : World} {a : Option Addr} {n : Nat} {bs : Nat → Nat} (h : BytesTo L N w a n bs) {S c : Nat} (hS : S < L) (v : Value) : BytesTo L N (w.setCell ⟨S, c, none⟩ v) a n bs := by
  rcases h with h | ⟨b, o, h1, h0, h2, h3⟩
  · exact .inl h
  · exact .inr ⟨b, o, h1, h0, h2, fun j hj => by rw [World.cell?_of_block (a := ⟨b, o + j, none⟩) (set_other v (by show b ≠ S; omega))]; exact h3 j hj⟩

/-- While the copy is made. -/
structure Bytes (w : World) (pl i : Nat) (bs : Nat → Nat) (wr : World) : Prop where
  below : Below w.heap.size w wr
  arr : ∃ cur, wr.heap[w.heap.size]? = some (.cells cur 5) ∧ cur.size = pl ∧ ∀ j, j < i → cur[j]? = some (.int .u8 (bs j))

theorem Bytes.put {w : World} {pl i : Nat} {bs : Nat → Nat} {wr : World} (h : Bytes w pl i bs wr) (hi : i < pl) : Bytes w pl (i + 1) bs (wr.setCell ⟨w.heap.size, i, none⟩ (.int .u8 (bs i))) := by
  obtain ⟨cur, h1, h2, h3⟩ := h.arr
  refine ⟨h.below.setCell (Nat.le_refl _) _, _, set_block h1 _, by simp [h2], fun j hj => ?_⟩
  by_cases e : j = i
  · subst e; rw [Array.getElem?_setIfInBounds_self_of_lt (by omega)]
  · rw [Array.getElem?_setIfInBounds_ne (by omega)]; exact h3 j (by omega)

def Cloned (w : World) (pa : Option Addr) (pl : Nat) (bs : Nat → Nat) (e : Ending) (w' : World) : Prop := ∃ pa' pc', e = .returned (.slice pa' pl pc') ∧ (pa' = none ↔ pa = none) ∧ BytesTo w.heap.size w'.heap.size w' pa' pl bs ∧ Below w.heap.size w w'

set_option maxHeartbeats 800000 in
theorem clone_any (w : World) (pa : Option Addr) (pl pc : Nat) (bs : Nat → Nat) (h : BytesIn w pa pl bs) (h0 : pa = none → pl = 0 ∧ pc = 0) (hpl : pl ≤ 524288) :
    Calls Try.prog 32 #[.slice pa pl pc] w (Cloned w pa pl bs) := by
  have hmk := make_u8 pl hpl w
  have hnil := fun w a n c => Lib.run_eql_slice_nil (P := Try.prog) w 58 5 a n c 0 0 Try.underlying58
  have HH := hide h
  clear h
  cases pa with
  | none =>
    obtain ⟨rfl, rfl⟩ := h0 rfl
    go_enter Try.func32, Try.ntmps32
    go_wp2
    go_ret
    exact ⟨none, 0, rfl, by simp, .inl rfl, Below.refl _ _⟩
  | some pa =>
    clear h0
    go_enter Try.func32, Try.ntmps32
    go_upto_block 0 with fail
    clear hmk
    go_wp2
    go_loopg [4] pl (fun g v4 wx => ∃ i : Nat, pl - i = g ∧ i ≤ pl ∧ v4 = .int .i64 i ∧ Bytes w pl i bs wx)
    case atStart => exact ⟨0, rfl, by omega, rfl, (Below.refl _ _).alloc (Nat.le_refl _) _, _, alloc_new _ _, made_size _ _, fun j hj => by omega⟩
    case round =>
      obtain ⟨i, rfl, hi, rfl, hB⟩ := hrel
      by_cases hlt : i < pl
      · have hlt' : (i : Int) < (pl : Int) := by omega
        obtain ⟨b, o, e, hb, hc⟩ : ∃ b o, some pa = some ⟨b, o, none⟩ ∧ b < w.heap.size ∧ ∀ j, j < pl → w.cell? ⟨b, o + j, none⟩ = some (.int .u8 (bs j)) ∧ bs j < 256 := by
          rcases HH.out with h' | h'
          · omega
          · exact h'
        obtain rfl : pa = ⟨b, o, none⟩ := by simpa using e
        clear e
        have c0 : wr.cell? ⟨b, o + i, none⟩ = some (.int .u8 (bs i)) := by rw [Below.cellOf hB.below hb]; exact (hc i hlt).1
        obtain ⟨cur, hcur, hcs, _⟩ := hB.arr
        have c1 : wr.cell? ⟨w.heap.size, i, none⟩ = some cur[i] := by rw [cell_of hcur]; exact Array.getElem?_eq_getElem (by omega)
        have f1 : wr.frozen? ⟨w.heap.size, i, none⟩ = false := frozen_of hcur
        have HB := hide (hB.put hlt)
        generalize cur[i] = cv at c1
        clear hB hc hcur hcs
        go_wp2
        go_roundg (pl - (i + 1))
        case measure => omega
        case rel => exact ⟨i + 1, rfl, by omega, by go_num, HB.out⟩
      · have e : i = pl := by omega
        subst e
        have HB := hide hB
        clear hB
        go_wp2
        go_ret
        refine ⟨_, _, rfl, by simp, ?_, HB.out.below⟩
        obtain ⟨cur, hcur, hcs, hc⟩ := HB.out.arr
        exact .inr ⟨_, 0, rfl, Nat.le_refl _, block_lt hcur, fun j hj => by rw [cell_of hcur, Nat.zero_add]; exact hc j hj⟩

end Go.Proofs.Qxb6601345a
