/-
  THE PROOF OF 'Rows.FnWithoutMatchesBitmapModelSaid'. The frame is the guide's own way for a law over slices (howto/shells), turned to slices of structs of two fields.
-/
import Derived.Test.Qxb6601345aRows
import Derived.Test.Qxb6601345aLawIds
import Derived.WalkKit
import Derived.ProofKit
import Derived.OpenShut
import Derived.ChangeOld
import Derived.Below
import Derived.Deep.SlicePairs
namespace Go.Proofs.Qxb6601345a.fnWithoutMatchesBitmapModel
open Go.ChangeShapes Go.WideShapes Go.ChangeAt Go.RowKit Go.Deep
set_option linter.unusedVariables false

theorem own : ownKnob Try.prog.godebug = none := by kernel_rfl
theorem laidOut : laidOutB Try.prog = true := by kernel_rfl

theorem two_tests (a0 a1 : Option Addr) (n0 c0 n1 c1 : Nat) (h0 : n0 ≤ maxLen) (h1 : n1 ≤ maxLen) (h : 65536 < n0 ∨ 65536 < n1) (w : World) :
    Calls Try.prog 3 #[.slice a0 n0 c0, .slice a1 n1 c1] w fun e w' => e = .returned (.bool true) ∧ Below w.heap.size w w' := by
  unfold maxLen at h0 h1
  by_cases p0 : n0 ≤ 1048576
  · by_cases p1 : n1 ≤ 1048576
    · by_cases p2 : n0 + n1 ≤ 1048576
      · by_cases p3 : n0 ≤ 65536
        · have p4 : ¬ n1 ≤ 65536 := by omega
          go_enter Try.func3, Try.ntmps3
          go_wp2
          go_ret
          exact ⟨rfl, Below.refl _ _⟩
        · go_enter Try.func3, Try.ntmps3
          go_wp2
          go_ret
          exact ⟨rfl, Below.refl _ _⟩
      · go_enter Try.func3, Try.ntmps3
        go_wp2
        go_ret
        exact ⟨rfl, Below.refl _ _⟩
    · go_enter Try.func3, Try.ntmps3
      go_wp2
      go_ret
      exact ⟨rfl, Below.refl _ _⟩
  · go_enter Try.func3, Try.ntmps3
    go_wp2
    go_ret
    exact ⟨rfl, Below.refl _ _⟩

theorem walk (a0 a1 : Option Addr) (n0 c0 n1 c1 : Nat) (S T : List (Nat × Nat)) (w : World) (h0 : n0 ≤ maxLen) (h1 : n1 ≤ maxLen) (w0 : Came w a0 n0 c0 S) (w1 : Came w a1 n1 c1 T) :
    Calls Try.prog 3 #[.slice a0 n0 c0, .slice a1 n1 c1] w fun e w' => e = .returned (.bool true) ∧ Below w.heap.size w w' := by
  by_cases p0 : n0 ≤ 65536
  · by_cases p1 : n1 ≤ 65536
    · exact ids_core S T a0 a1 n0 n1 c0 c1 p0 p1 w w0 w1
    · exact two_tests a0 a1 n0 c0 n1 c1 h0 h1 (by omega) w
  · exact two_tests a0 a1 n0 c0 n1 c1 h0 h1 (by omega) w

/-- A slice of spans that came in, opened. -/
theorem opened {H : Type} (enc : TypeId × Value → H) (W : World) {a : Option Addr} {len cap : Nat} {d : DataW H} {p : List MemPlace}
    (h : DataW.Trod enc Try.prog W 0 (fun _ => true) true 22 (.slice a len cap) d p) : ∃ rs, Came W a len cap rs ∧ len ≤ maxLen := by
  obtain ⟨fuel, hf⟩ := h
  rcases open_slice_pairs Try.underlying22 Try.underlying54 (by kernel_rfl) rfl rfl (by kernel_rfl) (by kernel_rfl) hf with ⟨hcs, _⟩ | ⟨x, l, c, m, n, V0, V1, D0, D1, P0, P1, hcs, _, hl, hm, hmm, _, hx⟩
  · simp [Value.cells] at hcs
    obtain ⟨rfl, rfl, rfl⟩ := hcs
    exact ⟨[], ⟨Spans.nil _ _, Nat.le_refl _, .inl ⟨rfl, rfl, rfl⟩⟩, by simp⟩
  · simp [Value.cells] at hcs
    obtain ⟨rfl, rfl, rfl⟩ := hcs
    simp only [if_true] at hmm
    have each : ∀ i, i < len → ∃ q : Nat × Nat, (q.1 < 65536 ∧ q.2 < 65536) ∧ W.cell? (x.add (i * 2)) = some (.int .u16 q.1) ∧ W.cell? (x.add (i * 2 + 1)) = some (.int .u16 q.2) := by
      intro i hi
      obtain ⟨h0, h1, t0, t1⟩ := hx i (by omega)
      obtain ⟨z0, e0, _, w0⟩ := DataW.trod_int Try.underlying45 t0
      obtain ⟨z1, e1, _, w1⟩ := DataW.trod_int Try.underlying45 t1
      simp only [List.cons.injEq, and_true] at e0 e1
      have b0 := bounds_u16 w0
      have b1 := bounds_u16 w1
      refine ⟨(z0.toNat, z1.toNat), ⟨by simp only; omega, by simp only; omega⟩, ?_, ?_⟩
      · rw [h0, e0]; simp only; rw [Int.toNat_of_nonneg (by omega)]
      · rw [h1, e1]; simp only; rw [Int.toNat_of_nonneg (by omega)]
    obtain ⟨q, hq⟩ := choose_lt each
    have hlo : ∀ i, i < len → lo ((List.range len).map q) i = (q i).1 := fun i hi => by simp [lo, List.getD_eq_getElem?_getD, hi]
    have hhi : ∀ i, i < len → hi ((List.range len).map q) i = (q i).2 := fun i hi' => by simp [hi, List.getD_eq_getElem?_getD, hi']
    refine ⟨(List.range len).map q, ⟨⟨by simp, fun i hi' => by rw [hlo i hi', hhi i hi']; exact (hq i hi').1, ?_⟩, hl, ?_⟩, by omega⟩
    · by_cases hz : len = 0
      · exact .inl hz
      · right
        obtain ⟨b, off, spot⟩ := x
        have hspot : spot = none := by simpa [Addr.add] using World.cell?_spot (hq 0 (by omega)).2.1
        subst hspot
        refine ⟨b, off, rfl, fun i hi' => ?_⟩
        rw [hlo i hi', hhi i hi', Nat.add_assoc, ← add_plain, ← add_plain]
        exact (hq i hi').2
    · refine .inr ⟨x, rfl, ?_⟩
      by_cases hz : len = 0
      · exact .inl hz
      · right
        obtain ⟨b, off, spot⟩ := x
        have hspot : spot = none := by simpa [Addr.add] using World.cell?_spot (hq 0 (by omega)).2.1
        subst hspot
        have := (hq 0 (by omega)).2.1
        rw [add_plain] at this
        exact cell_lt this

set_option maxRecDepth 100000 in
theorem lifted (os : Os) (started : os.Started) (H : Type) (enc : TypeId × Value → H) :
    ReturnsInHanded {} Try.checked os 3 .any (Rows.fnWithoutMatchesBitmapModelSpec.pre6 enc Try.prog Try.f3 Rows.fnWithoutMatchesBitmapModelRow.domain false) (Rows.fnWithoutMatchesBitmapModelSpec.post enc Try.prog Try.f3 false true false false) := by
  refine returnsInHanded_of_change (C := Try.checked) own started (by kernel_rfl) Try.func3
    (ChangeSpec.witness6 (enc := enc) (C := Try.checked) false ⟨#[], #[.slice none 0 0, .slice none 0 0], []⟩ 8 (by kernel_rfl) (by kernel_rfl) (by kernel_rfl) (by kernel_rfl)) ?_
  intro W base args ds gs before hval0 hW hcnd _
  have hval : ∀ (j : Nat) t v, Try.f3.params[j]? = some t → args[j]? = some v → Value.okWide Try.prog W .any base t v := hval0
  have hW' := hW
  obtain ⟨p, q, hA0, hV, rfl, hfz, hnd⟩ := hW
  have hA : DataW.TrodAll enc Try.prog W 0 (fun _ => true) true Try.f3.params.toList args.toList ds p := hA0
  rw [Try.params3] at hA hval
  obtain ⟨v0, vs0, d0, ds0, p0, q0, hargs, rfl, rfl, h0, r0⟩ := trodAll_cons hA
  obtain ⟨v1, vs1, d1, ds1, p1, q1, rfl, rfl, rfl, h1, r1⟩ := trodAll_cons r0
  obtain ⟨rfl, rfl, rfl⟩ := trodAll_nil r1
  obtain rfl : args = #[v0, v1] := by cases args; simp_all
  obtain ⟨rfl, rfl⟩ := trodVars_none hV
  obtain ⟨a0, len0, cap0, rfl⟩ := okWide_slice Try.underlying22 (hval 0 22 v0 rfl rfl)
  obtain ⟨a1, len1, cap1, rfl⟩ := okWide_slice Try.underlying22 (hval 1 22 v1 rfl rfl)
  have lt0 : ∀ x ∈ p0, x.block < W.heap.size := by obtain ⟨m, hm⟩ := h0; exact DataW.trod_lt m _ _ _ hm
  have lt1 : ∀ x ∈ p1, x.block < W.heap.size := by obtain ⟨m, hm⟩ := h1; exact DataW.trod_lt m _ _ _ hm
  obtain ⟨S, w0, m0⟩ := opened enc W h0
  obtain ⟨T, w1, m1⟩ := opened enc W h1
  clear hA0 hval0
  refine (walk a0 a1 len0 cap0 len1 cap1 S T W m0 m1 w0 w1).mono fun e W' ⟨he, bel⟩ => ?_
  subst he
  exact ⟨_, rfl, _, _, _, [], _, [], hW', trodAll_mk1 (shut_bool Try.underlying4 _), (trodAll_cons_mk (Below.trod laidOut (by kernel_rfl) (of_decide_eq_true (by kernel_rfl)) h0 bel lt0) (trodAll_cons_mk (Below.trod laidOut (by kernel_rfl) (of_decide_eq_true (by kernel_rfl)) h1 bel lt1) trodAll_mk0)), rfl, bel.frame _, fun h => by cases h⟩

theorem over : Rows.fnWithoutMatchesBitmapModelRow.holds Try.pinned (OpenSpec.ofChange Rows.fnWithoutMatchesBitmapModelSpec) :=
  OpenClaim.holds_of_wide 3 Try.f3 rfl rfl rfl rfl rfl rfl rfl ⟨rfl, rfl, rfl, rfl, rfl⟩ rfl rfl rfl rfl rfl (by kernel_rfl) Try.func3 (by kernel_rfl)
    (of_decide_eq_true (by kernel_rfl)) (by unfold Func.isWrapper; first | (rw [if_pos (by decide +kernel)]; kernel_rfl) | (rw [if_neg (by decide +kernel)]; exact ⟨rfl, rfl⟩))
    (fun os started H enc _ => lifted os started H enc)

/-- ████ THE STATEMENT ████ -/
theorem proved : Rows.FnWithoutMatchesBitmapModelSaid := over
#print axioms proved

end Go.Proofs.Qxb6601345a.fnWithoutMatchesBitmapModel
