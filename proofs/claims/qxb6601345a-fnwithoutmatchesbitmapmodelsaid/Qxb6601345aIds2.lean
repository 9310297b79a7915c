import Derived.Test.Qxb6601345aIds
import Derived.WalkSpells
namespace Go.Proofs.Qxb6601345a
open Go.RowKit
set_option linter.unusedVariables false
set_option linter.unusedSimpArgs false

theorem Try.info57 : (Try.prog.info? 57).map (fun i => (i.zero, i.size, i.bytes)) = some (some (.agg #[.int .u16 0, .int .u16 0]), 2, 4) := by kernel_rfl

def zeroR (n : Nat) : Array Value := madeCells #[.int .u16 0, .int .u16 0] (n * 2)

theorem make_ranges (n : Nat) (hn : n ≤ 65536) (w : World) :
    (Instr.makeSlice 25 (.int .i64 (n : Int)) (.int .i64 (n : Int))).run Try.prog w = .ok (.slice (some ⟨w.heap.size, 0, none⟩) n n) (w.alloc (.cells (zeroR n) 57)) := by
  obtain ⟨i, hi, hz0, hz1, hz2⟩ := info_parts Try.info57
  have h := run_make (P := Try.prog) w 25 57 i _ Try.underlying25 hi hz0 .i64 .i64 n n (by omega) (Int.le_refl _) (by rw [hz2]; omega) (by omega)
  simp only [Int.toNat_natCast, hz1] at h
  exact h

theorem zeroR_at (n j : Nat) (h : j < n * 2) : (zeroR n)[j]? = some (.int .u16 0) := by
  unfold zeroR madeCells
  rw [Array.getElem?_map, Array.getElem?_range]
  rw [if_pos h]
  simp only [Option.map_some]
  rcases (show j % 2 = 0 ∨ j % 2 = 1 by omega) with e | e <;> simp [e]

/-- While the copy is made: block B's first k elements are rs's, the others zero; block R (the result's variable) can be written. -/
structure Copied (w wr : World) (R B n k : Nat) (rs : List (Nat × Nat)) : Prop where
  below : Below w.heap.size w wr
  cell0 : ∀ i, i < n → ∃ v, wr.cell? ⟨B, i * 2, none⟩ = some v ∧ (i < k → v = .int .u16 (lo rs i))
  cell1 : ∀ i, i < n → ∃ v, wr.cell? ⟨B, i * 2 + 1, none⟩ = some v ∧ (i < k → v = .int .u16 (hi rs i))
  frozen : ∀ j, wr.frozen? ⟨B, j, none⟩ = false
  res : ∃ v, wr.cell? ⟨R, 0, none⟩ = some v
  resf : wr.frozen? ⟨R, 0, none⟩ = false
  size : w.heap.size + 2 ≤ wr.heap.size

theorem Copied.start (w : World) (n : Nat) (rs : List (Nat × Nat)) (c : Array Value) (hc : 0 < c.size) : Copied w ((w.alloc (.cells c 27)).alloc (.cells (zeroR n) 57)) w.heap.size (w.heap.size + 1) n 0 rs := by
  refine ⟨((Below.refl _ _).alloc (Nat.le_refl _) _).alloc (by simp) _, fun i hi => ⟨.int .u16 0, ?_, fun h => by omega⟩, fun i hi => ⟨.int .u16 0, ?_, fun h => by omega⟩, fun j => ?_, ?_, ?_, by simp⟩
  · rw [World.cell?_alloc_at _ _ _ _ (by simp), zeroR_at n _ (by omega)]
  · rw [World.cell?_alloc_at _ _ _ _ (by simp), zeroR_at n _ (by omega)]
  · rw [World.frozen?_alloc_at _ _ _ _ (by simp)]
  · refine ⟨c[0], ?_⟩
    rw [World.cell?_alloc_past _ _ _ (by simp), World.cell?_alloc_at _ _ _ _ rfl]
    exact Array.getElem?_eq_getElem hc
  · rw [World.frozen?_alloc_past _ _ _ (by simp), World.frozen?_alloc_at _ _ _ _ rfl]

theorem Copied.put {w wr : World} {B n k : Nat} {rs : List (Nat × Nat)} (h : Copied w wr w.heap.size B n k rs) (hB : w.heap.size < B) (hk : k < n) :
    Copied w ((wr.setCell ⟨B, k * 2, none⟩ (.int .u16 (lo rs k))).setCell ⟨B, k * 2 + 1, none⟩ (.int .u16 (hi rs k))).drew w.heap.size B n (k + 1) rs := by
  refine ⟨Below.drew ((h.below.setCell (by show w.heap.size ≤ B; omega) _).setCell (by show w.heap.size ≤ B; omega) _), fun i hi' => ?_, fun i hi' => ?_, fun j => ?_, ?_, ?_, by show _ ≤ ((wr.setCell _ _).setCell _ _).heap.size; simp [World.setCell]; exact h.size⟩
  · show ∃ v, ((wr.setCell _ _).setCell _ _).cell? _ = some v ∧ _
    obtain ⟨v, hv, hv'⟩ := h.cell0 i hi'
    rw [World.cell?_setCell_other _ _ _ _ (by simp only [ne_eq, Addr.mk.injEq]; omega)]
    by_cases e : i = k
    · subst e
      exact ⟨_, World.cell?_setCell_same _ _ _ hv, fun _ => rfl⟩
    · rw [World.cell?_setCell_other _ _ _ _ (by simp only [ne_eq, Addr.mk.injEq]; omega)]
      exact ⟨v, hv, fun _ => hv' (by omega)⟩
  · show ∃ v, ((wr.setCell _ _).setCell _ _).cell? _ = some v ∧ _
    obtain ⟨v, hv, hv'⟩ := h.cell1 i hi'
    by_cases e : i = k
    · subst e
      refine ⟨_, World.cell?_setCell_same _ _ _ (u := v) ?_, fun _ => rfl⟩
      rw [World.cell?_setCell_other _ _ _ _ (by simp only [ne_eq, Addr.mk.injEq]; omega)]
      exact hv
    · rw [World.cell?_setCell_other _ _ _ _ (by simp only [ne_eq, Addr.mk.injEq]; omega), World.cell?_setCell_other _ _ _ _ (by simp only [ne_eq, Addr.mk.injEq]; omega)]
      exact ⟨v, hv, fun _ => hv' (by omega)⟩
  · show ((wr.setCell _ _).setCell _ _).frozen? _ = _
    rw [World.frozen?_setCell, World.frozen?_setCell]; exact h.frozen j
  · show ∃ v, ((wr.setCell _ _).setCell _ _).cell? _ = some v
    rw [World.cell?_setCell_other _ _ _ _ (by simp only [ne_eq, Addr.mk.injEq]; omega), World.cell?_setCell_other _ _ _ _ (by simp only [ne_eq, Addr.mk.injEq]; omega)]
    exact h.res
  · show ((wr.setCell _ _).setCell _ _).frozen? _ = _
    rw [World.frozen?_setCell, World.frozen?_setCell]; exact h.resf

theorem makeIDs_any (a : Option Addr) (n c : Nat) (w : World) :
    Calls Try.prog 31 #[.slice a n c] w fun e w' => e = .returned (.agg #[.slice a n c]) ∧ w' = w.alloc (.cells #[.slice a n c] 27) := by
  go_enter Try.func31, Try.ntmps31
  go_wp2
  exact bodyPost_ret (v := .agg #[.slice a n c]) (by simp [results, Try.results31, go_sem]) rfl ⟨rfl, rfl⟩

theorem Spans.of {w : World} {a : Option Addr} {n : Nat} {rs : List (Nat × Nat)} (h : Spans w a n rs) {w' : World} {b : Nat}
    (hc : ∀ i, i < n → w'.cell? ⟨b, i * 2, none⟩ = some (.int .u16 (lo rs i)) ∧ w'.cell? ⟨b, i * 2 + 1, none⟩ = some (.int .u16 (hi rs i))) : Spans w' (some ⟨b, 0, none⟩) n rs :=
  ⟨h.1, h.2.1, .inr ⟨b, 0, rfl, fun i hi => by simpa using hc i hi⟩⟩

set_option maxHeartbeats 400000 in
theorem ids_pos (rs : List (Nat × Nat)) (x : Addr) (n c : Nat) (hn : n ≤ 65536) (w : World) (hS : Spans w (some x) n rs) (hb : n = 0 ∨ x.block < w.heap.size) :
    Calls Try.prog 12 #[.slice (some x) n c] w fun e w' => ∃ a' c', e = .returned (.agg #[.slice a' n c']) ∧ Spans w' a' n rs ∧ n ≤ c' ∧ Below w.heap.size w w' := by
  have hmk := make_ranges n hn
  have hnil := fun w a n c => Lib.run_eql_slice_nil (P := Try.prog) w 22 54 a n c 0 0 Try.underlying22
  go_enter Try.func12, Try.ntmps12
  go_wp2
  go_loopg [4] n (fun g i wr => ∃ k : Nat, g = n - k ∧ k ≤ n ∧ i = .int .i64 k ∧ Copied w wr w.heap.size (w.heap.size + 1) n k rs)
  case atStart => exact ⟨0, rfl, Nat.zero_le _, rfl, Copied.start w n rs _ (by simp)⟩
  case round =>
    obtain ⟨k, rfl, hk, rfl, hC⟩ := hrel
    clear hmk hnil
    by_cases hlt : k < n
    · obtain ⟨hl, hbd, hc⟩ := hS
      have hbl0 : x.block < w.heap.size := by omega
      rcases hc with hc | ⟨b, o, e, hc⟩
      · omega
      · simp only [Option.some.injEq] at e
        subst e
        have hbl : b < w.heap.size := hbl0
        clear hbl0
        obtain ⟨c0, c1⟩ := hc k hlt
        have d0 : wr.cell? ⟨b, o + k * 2, none⟩ = some (.int .u16 (lo rs k)) := (hC.below.cell (p := ⟨b, o + k * 2, none⟩) hbl).trans c0
        have d1 : wr.cell? ⟨b, o + k * 2 + 1, none⟩ = some (.int .u16 (hi rs k)) := (hC.below.cell (p := ⟨b, o + k * 2 + 1, none⟩) hbl).trans c1
        obtain ⟨v0, f0, _⟩ := hC.cell0 k hlt
        obtain ⟨v1, f1, _⟩ := hC.cell1 k hlt
        have z0 := hC.frozen (k * 2)
        have z1 := hC.frozen (k * 2 + 1)
        have hlt' : (k : Int) < (n : Int) := by omega
        clear c0 c1 hc
        have HC : Hid _ := hC.put (by omega) hlt; clear hC
        generalize lo rs k = l at *
        generalize hi rs k = h at *
        go_wp2
        go_region
        all_goals go_wp2
        all_goals
          go_roundg (n - (k + 1))
          case measure => omega
          case rel => exact ⟨k + 1, rfl, by omega, by go_num, HC.out⟩
    · have e : k = n := by omega
      obtain ⟨v, r0⟩ := hC.res
      have r1 := hC.resf
      have hz := hC.size
      have HC : Hid _ := hC; clear hC
      have HE : Hid _ := e; clear e
      have hzz : w.heap.size < wr.heap.size := by omega
      go_wp2_with (go_at_call 31; refine (makeIDs_any _ _ _ _).mono ?_; rintro e w' ⟨rfl, rfl⟩)
      refine bodyPost_ret (v := .agg #[.slice (some ⟨w.heap.size + 1, 0, none⟩) n n]) ?_ rfl ⟨_, _, rfl, ?_, Nat.le_refl _, ?_⟩
      · simp [results, Try.results12, go_sem, r0, hzz]
      · refine hS.of fun i hi' => ?_
        obtain ⟨v0, g0, g0'⟩ := HC.out.cell0 i hi'
        obtain ⟨v1, g1, g1'⟩ := HC.out.cell1 i hi'
        rw [g0' (by rw [HE.out]; exact hi')] at g0
        rw [g1' (by rw [HE.out]; exact hi')] at g1
        rw [World.cell?_alloc_past _ _ _ (by simp [World.setCell]; omega), World.cell?_alloc_past _ _ _ (by simp [World.setCell]; omega),
          World.cell?_setCell_other _ _ _ _ (by simp only [ne_eq, Addr.mk.injEq]; omega), World.cell?_setCell_other _ _ _ _ (by simp only [ne_eq, Addr.mk.injEq]; omega)]
        exact ⟨g0, g1⟩
      · exact (HC.out.below.setCell (Nat.le_refl _) _).alloc (by simp [World.setCell]; omega) _

theorem ids_nil (w : World) :
    Calls Try.prog 12 #[.slice none 0 0] w fun e w' => e = .returned (.agg #[.slice none 0 0]) ∧ Below w.heap.size w w' := by
  have hnil := fun w a n c => Lib.run_eql_slice_nil (P := Try.prog) w 22 54 a n c 0 0 Try.underlying22
  go_enter Try.func12, Try.ntmps12
  go_wp2_with (go_at_call 31; refine (makeIDs_any _ _ _ _).mono ?_; rintro e w' ⟨rfl, rfl⟩)
  exact bodyPost_ret (v := .agg #[.slice none 0 0]) (by simp [results, Try.results12, go_sem]) rfl ⟨rfl, ((Below.refl _ _).alloc (Nat.le_refl _) _).alloc (by simp) _⟩

/-- An argument's slice of spans: nil, or at an address that was there. -/
def Came (w : World) (a : Option Addr) (n c : Nat) (rs : List (Nat × Nat)) : Prop :=
  Spans w a n rs ∧ n ≤ c ∧ ((a = none ∧ n = 0 ∧ c = 0) ∨ ∃ x : Addr, a = some x ∧ (n = 0 ∨ x.block < w.heap.size))

theorem Spans.nil (w : World) (a : Option Addr) : Spans w a 0 [] := ⟨rfl, fun i h => by omega, .inl rfl⟩

theorem ids_any (rs : List (Nat × Nat)) (a : Option Addr) (n c : Nat) (hn : n ≤ 65536) (w : World) (h : Came w a n c rs) :
    Calls Try.prog 12 #[.slice a n c] w fun e w' => ∃ a' c', e = .returned (.agg #[.slice a' n c']) ∧ Spans w' a' n rs ∧ n ≤ c' ∧ Below w.heap.size w w' := by
  obtain ⟨hS, hc, h⟩ := h
  rcases h with ⟨rfl, rfl, rfl⟩ | ⟨x, rfl, hb⟩
  · refine (ids_nil w).mono ?_
    rintro e w' ⟨rfl, hb⟩
    refine ⟨none, 0, rfl, ?_, Nat.le_refl _, hb⟩
    have : rs = [] := List.length_eq_zero_iff.1 hS.1
    rw [this]; exact Spans.nil _ _
  · exact ids_pos rs x n c hn w hS hb

theorem spansOK_any (rs : List (Nat × Nat)) (a : Option Addr) (n c : Nat) (hn : n ≤ 65536) (w : World) (h : Spans w a n rs) :
    Calls Try.prog 10 #[.slice a n c] w fun e w' => e = .returned (.bool (okFrom none rs)) ∧ Drawn w w' := by
  by_cases h0 : 0 < n
  · rcases h.2.2 with hz | ⟨b, o, rfl, _⟩
    · omega
    · exact spansOK_pos rs b o n c hn w h h0
  · have e : n = 0 := by omega
    subst e
    have : rs = [] := List.length_eq_zero_iff.1 h.1
    subst this
    clear h h0
    go_enter Try.func10, Try.ntmps10
    go_wp2
    go_loopg [3] 0 (fun g i wr => i = .int .i64 0 ∧ w = wr)
    case atStart => exact ⟨rfl, rfl⟩
    case round =>
      obtain ⟨rfl, rfl⟩ := hrel
      go_wp2
      go_ret
      exact ⟨rfl, Drawn.refl _⟩

end Go.Proofs.Qxb6601345a
