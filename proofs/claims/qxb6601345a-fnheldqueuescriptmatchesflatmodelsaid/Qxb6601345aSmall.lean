import Derived.Test.Qxb6601345aQueueOf
namespace Go.Proofs.Qxb6601345a
open Go.RowKit Go.Maps
set_option linter.unusedVariables false
set_option linter.unusedSimpArgs false

theorem Try.info4b : (Try.prog.info? 4).map (fun i => (i.zero, i.size, i.bytes)) = some (some (.bool false), 1, 1) := by kernel_rfl

theorem make_alive (n : Nat) (hn : n ≤ 4096) (w : World) :
    (Instr.makeSlice 41 (.int .i64 (n : Int)) (.int .i64 (n : Int))).run Try.prog w = .ok (.slice (some ⟨w.heap.size, 0, none⟩) n n) (w.alloc (.cells (madeCells #[.bool false] n) 4)) := by
  obtain ⟨i, hi, hz0, hz1, hz2⟩ := info_parts Try.info4b
  have h := run_make (P := Try.prog) w 41 4 i _ Try.underlying41 hi hz0 .i64 .i64 n n (by omega) (Int.le_refl _) (by rw [hz2]; omega) (by omega)
  simp only [Int.toNat_natCast, hz1, Nat.mul_one] at h
  exact h

/-- Block B holds the marks al. -/
def AliveIn (w : World) (B n : Nat) (al : Nat → Bool) : Prop := ∃ cur, w.heap[B]? = some (.cells cur 4) ∧ cur.size = n ∧ ∀ j, j < n → cur[j]? = some (.bool (al j))

theorem AliveIn.keep {w w' : World} {B n : Nat} {al : Nat → Bool} (h : AliveIn w B n al) (hk : w'.heap[B]? = w.heap[B]?) : AliveIn w' B n al := by
  obtain ⟨cur, h1, h2⟩ := h
  exact ⟨cur, hk.trans h1, h2⟩
theorem AliveIn.put {w : World} {B n : Nat} {al : Nat → Bool} (h : AliveIn w B n al) {i : Nat} (hi : i < n) (v : Bool) : AliveIn (w.setCell ⟨B, i, none⟩ (.bool v)) B n (fun j => if j = i then v else al j) := by
  obtain ⟨cur, h1, h2, h3⟩ := h
  refine ⟨_, set_block h1 _, by simp [h2], fun j hj => ?_⟩
  by_cases e : j = i
  · subst e; rw [Array.getElem?_setIfInBounds_self_of_lt (by omega)]; simp
  · rw [Array.getElem?_setIfInBounds_ne (by omega)]; simp only [e, if_false]; exact h3 j hj
theorem AliveIn.cell {w : World} {B n : Nat} {al : Nat → Bool} (h : AliveIn w B n al) {i : Nat} (hi : i < n) : w.cell? ⟨B, i, none⟩ = some (.bool (al i)) ∧ w.frozen? ⟨B, i, none⟩ = false := by
  obtain ⟨cur, h1, h2, h3⟩ := h
  exact ⟨by rw [cell_of h1]; exact h3 i hi, frozen_of h1⟩

/-- While the marks are laid. -/
def Marking (w : World) (n i : Nat) (wr : World) : Prop := Below w.heap.size w wr ∧ ∃ cur, wr.heap[w.heap.size]? = some (.cells cur 4) ∧ cur.size = n ∧ ∀ j, j < i → cur[j]? = some (.bool true)

theorem Marking.put {w : World} {n i : Nat} {wr : World} (h : Marking w n i wr) (hi : i < n) : Marking w n (i + 1) (wr.setCell ⟨w.heap.size, i, none⟩ (.bool true)) := by
  obtain ⟨h0, cur, h1, h2, h3⟩ := h
  refine ⟨h0.setCell (Nat.le_refl _) _, _, set_block h1 _, by simp [h2], fun j hj => ?_⟩
  by_cases e : j = i
  · subst e; rw [Array.getElem?_setIfInBounds_self_of_lt (by omega)]
  · rw [Array.getElem?_setIfInBounds_ne (by omega)]; exact h3 j (by omega)

set_option maxHeartbeats 800000 in
theorem alive_any (w : World) (n : Nat) (hn : n ≤ 4096) :
    Calls Try.prog 23 #[.int .i64 n] w fun e w' => e = .returned (.slice (some ⟨w.heap.size, 0, none⟩) n n) ∧ AliveIn w' w.heap.size n (fun _ => true) ∧ Below w.heap.size w w' := by
  have hmk := make_alive n hn w
  go_enter Try.func23, Try.ntmps23
  go_upto_block 0 with fail
  clear hmk
  go_wp2
  go_loopg [4] n (fun g v4 wx => ∃ i : Nat, n - i = g ∧ i ≤ n ∧ v4 = .int .i64 i ∧ Marking w n i wx)
  case atStart => exact ⟨0, rfl, by omega, rfl, (Below.refl _ _).alloc (Nat.le_refl _) _, _, alloc_new _ _, made_size _ _, fun j hj => by omega⟩
  case round =>
    obtain ⟨i, rfl, hi, rfl, hB⟩ := hrel
    by_cases hlt : i < n
    · have hlt' : (i : Int) < (n : Int) := by omega
      have HB := hide (hB.put hlt)
      obtain ⟨_, cur, hcur, hcs, _⟩ := hB
      have c1 : wr.cell? ⟨w.heap.size, i, none⟩ = some cur[i] := by rw [cell_of hcur]; exact Array.getElem?_eq_getElem (by omega)
      have f1 : wr.frozen? ⟨w.heap.size, i, none⟩ = false := frozen_of hcur
      generalize cur[i] = cv at c1
      clear hcur hcs
      go_wp2
      go_roundg (n - (i + 1))
      case measure => omega
      case rel => exact ⟨i + 1, rfl, by omega, by go_num, HB.out⟩
    · have e : i = n := by omega
      subst e
      have HB := hide hB
      clear hB
      go_wp2
      go_ret
      obtain ⟨h0, cur, h1, h2, h3⟩ := HB.out
      exact ⟨rfl, ⟨cur, h1, h2, h3⟩, h0⟩

set_option maxHeartbeats 800000 in
theorem earlier_any (w : World) (u v : MsgV) : Calls Try.prog 41 #[.agg u.cells, .agg v.cells] w fun e w' => e = .returned (.bool (ltK u.ts u.fr v.ts v.fr)) ∧ Below w.heap.size w w' := by
  obtain ⟨t, s, o, ak, be, pa, pl, pc⟩ := u
  obtain ⟨t', s', o', ak', be', pa', pl', pc'⟩ := v
  simp only [MsgV.cells]
  by_cases ht : t = t'
  · subst ht
    have hb : (t != t) = false := by simp
    go_enter Try.func41, Try.ntmps41
    go_wp2
    go_ret
    exact ⟨ret_bool (by simp [ltK]), ((Below.refl _ _).alloc (Nat.le_refl _) _).alloc (by simp) _⟩
  · have hb : (t != t') = true := by simp [ht]
    go_enter Try.func41, Try.ntmps41
    go_wp2
    go_ret
    exact ⟨ret_bool (by simp [ltK, ht]), ((Below.refl _ _).alloc (Nat.le_refl _) _).alloc (by simp) _⟩

set_option maxHeartbeats 800000 in
theorem zero_any (w : World) : Calls Try.prog 36 #[.agg zeroMsg] w fun e w' => e = .returned (.bool true) ∧ Below w.heap.size w w' := by
  have hnil := fun w a n c => Lib.run_eql_slice_nil (P := Try.prog) w 58 5 a n c 0 0 Try.underlying58
  unfold zeroMsg
  go_enter Try.func36, Try.ntmps36
  go_wp2
  go_ret
  exact ⟨rfl, (Below.refl _ _).alloc (Nat.le_refl _) _⟩

theorem BytesTo.cellAt {L N : Nat} {w : World} {a : Option Addr} {n : Nat} {bs : Nat → Nat} (h : BytesTo L N w a n bs) {j : Nat} (hj : j < n) : ∃ b o, a = some ⟨b, o, none⟩ ∧ ∀ j, j < n → w.cell? ⟨b, o + j, none⟩ = some (.int .u8 (bs j)) := by
  rcases h with h | ⟨b, o, h1, _, _, h3⟩
  · omega
  · exact ⟨b, o, h1, h3⟩
theorem BytesIn.cellAt {w : World} {a : Option Addr} {n : Nat} {bs : Nat → Nat} (h : BytesIn w a n bs) {j : Nat} (hj : j < n) : ∃ b o, a = some ⟨b, o, none⟩ ∧ ∀ j, j < n → w.cell? ⟨b, o + j, none⟩ = some (.int .u8 (bs j)) := by
  rcases h with h | ⟨b, o, h1, _, h3⟩
  · omega
  · exact ⟨b, o, h1, fun j hj => (h3 j hj).1⟩

theorem sameBytes_nil (w : World) (c c' : Nat) : Calls Try.prog 42 #[.slice none 0 c, .slice none 0 c'] w fun e w' => e = .returned (.bool true) ∧ Drawn w w' := by
  have hnil := fun w a n c => Lib.run_eql_slice_nil (P := Try.prog) w 58 5 a n c 0 0 Try.underlying58
  go_enter Try.func42, Try.ntmps42
  go_upto_block 0 with fail
  clear hnil
  go_wp2
  go_loopg [5] 0 (fun g v5 wx => v5 = .int .i64 0 ∧ wx = w)
  case atStart => exact ⟨rfl, rfl⟩
  case round =>
    obtain ⟨rfl, rfl⟩ := hrel
    go_wp2
    go_ret
    exact ⟨rfl, Drawn.refl _⟩

set_option maxHeartbeats 800000 in
theorem sameBytes_some (w : World) (L N : Nat) (x x' : Addr) (n c c' : Nat) (bs : Nat → Nat) (h : BytesTo L N w (some x) n bs) (h' : BytesIn w (some x') n bs) (hl : n ≤ 524288) :
    Calls Try.prog 42 #[.slice (some x) n c, .slice (some x') n c'] w fun e w' => e = .returned (.bool true) ∧ Drawn w w' := by
  have hnil := fun w a n c => Lib.run_eql_slice_nil (P := Try.prog) w 58 5 a n c 0 0 Try.underlying58
  have h2 : ((n : Int) != (n : Int)) = false := by simp
  have HH := hide (And.intro h h')
  clear h h'
  go_enter Try.func42, Try.ntmps42
  go_upto_block 0 with fail
  clear hnil
  go_wp2
  go_loopg [5] n (fun g v5 wx => ∃ i : Nat, n - i = g ∧ i ≤ n ∧ v5 = .int .i64 i ∧ Drawn w wx)
  case atStart => exact ⟨0, rfl, by omega, rfl, Drawn.refl _⟩
  case round =>
    obtain ⟨i, rfl, hi, rfl, hD⟩ := hrel
    by_cases hlt : i < n
    · have hlt' : (i : Int) < (n : Int) := by omega
      obtain ⟨b, o, e, hc⟩ := HH.out.1.cellAt hlt
      obtain ⟨b', o', e', hc'⟩ := HH.out.2.cellAt hlt
      obtain rfl : x = ⟨b, o, none⟩ := by simpa using e
      obtain rfl : x' = ⟨b', o', none⟩ := by simpa using e'
      have c0 : wr.cell? ⟨b, o + i, none⟩ = some (.int .u8 (bs i)) := by obtain ⟨d, rfl⟩ := hD; exact hc i hlt
      have c1 : wr.cell? ⟨b', o' + i, none⟩ = some (.int .u8 (bs i)) := by obtain ⟨d, rfl⟩ := hD; exact hc' i hlt
      have h3 : ((bs i : Int) != (bs i : Int)) = false := by simp
      clear hc hc' e e'
      go_upto_region 6 with fail
      go_quiet (fail)
      go_wp2
      go_roundg (n - (i + 1))
      case measure => omega
      case rel => exact ⟨i + 1, rfl, by omega, by go_num, by repeat (first | exact hD | apply Drawn.next | apply Drawn.drew)⟩
    · have e : i = n := by omega
      subst e
      go_wp2
      go_ret
      exact ⟨rfl, hD⟩

theorem sameBytes_any (w : World) (L N : Nat) (a a' : Option Addr) (n c c' : Nat) (bs : Nat → Nat) (h : BytesTo L N w a n bs) (h' : BytesIn w a' n bs) (hn : a = none ↔ a' = none) (h0 : a' = none → n = 0) (hl : n ≤ 524288) :
    Calls Try.prog 42 #[.slice a n c, .slice a' n c'] w fun e w' => e = .returned (.bool true) ∧ Drawn w w' := by
  cases a with
  | none =>
    obtain rfl := hn.1 rfl
    obtain rfl := h0 rfl
    exact sameBytes_nil w c c'
  | some x =>
    cases a' with
    | none => exact absurd (hn.2 rfl) (by simp)
    | some x' => exact sameBytes_some w L N x x' n c c' bs h h' hl

end Go.Proofs.Qxb6601345a
