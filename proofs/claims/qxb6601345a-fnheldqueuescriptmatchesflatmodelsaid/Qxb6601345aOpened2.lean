import Derived.Test.Qxb6601345aLawScript
import Derived.Test.Qxb6601345aOpened
namespace Go.Proofs.Qxb6601345a
open Go.ChangeShapes Go.RowKit Go.Deep
set_option linter.unusedVariables false
set_option linter.unusedSimpArgs false

section
variable {H : Type} (enc : TypeId × Value → H) (W : World)

instance : Inhabited OpV := ⟨⟨false, 0, 0, 0⟩⟩

theorem opened_ops {a : Option Addr} {len cap : Nat} {d : DataW H} {p : List MemPlace} (h : DataW.Trod enc Try.prog W 0 (fun _ => true) true 49 (.slice a len cap) d p) : ∃ ops, OpsIn W a len ops ∧ len ≤ maxLen := by
  obtain ⟨fuel, hf⟩ := h
  have ce : Try.prog.cellsOf 52 = 4 := by kernel_rfl
  have k2 : Try.prog.cellsOf 2 = 1 := by kernel_rfl
  have k45 : Try.prog.cellsOf 45 = 1 := by kernel_rfl
  have k4 : Try.prog.cellsOf 4 = 1 := by kernel_rfl
  rcases open_slice Try.underlying49 hf with ⟨hcs, _⟩ | ⟨x, l, c, m, n, D, Pl, hcs, _, hl, hm, hmm, _, hx⟩
  · simp [Value.cells] at hcs
    obtain ⟨rfl, rfl, rfl⟩ := hcs
    exact ⟨fun _ => default, .inl rfl, by simp⟩
  · simp [Value.cells] at hcs
    obtain ⟨rfl, rfl, rfl⟩ := hcs
    simp only [if_true] at hmm
    have each : ∀ i, i < len → ∃ q : OpV, (∀ c, c < 4 → W.cell? (x.add (i * 4 + c)) = (#[Value.bool q.tk, .int .u16 q.fr, .int .i64 q.ab, .int .i64 q.th])[c]?) ∧ q.fr < 65536 := by
      intro i hi
      obtain ⟨cs', h1, h2⟩ := hx i (by omega)
      rw [ce] at h1
      obtain ⟨_, hlen, hcell⟩ := World.cells?_some h1
      obtain ⟨xs, k, hk, hxy, _, hxl, hf⟩ := DataW.trod_struct Try.underlying52 h2
      match xs, hxl, cs', hlen with
      | [y0, y1, y2, y3], _, [v0, v1, v2, v3], _ =>
        have g0 := hf 0 _ rfl
        have g1 := hf 1 _ rfl
        have g2 := hf 2 _ rfl
        have g3 := hf 3 _ rfl
        simp [k2, k45, k4] at g0 g1 g2 g3
        obtain ⟨z0, e0, _⟩ := DataW.trod_bool Try.underlying4 g0
        obtain ⟨z1, e1, _, w1⟩ := DataW.trod_int Try.underlying45 g1
        obtain ⟨z2, e2, _, w2⟩ := DataW.trod_int Try.underlying2 g2
        obtain ⟨z3, e3, _, w3⟩ := DataW.trod_int Try.underlying2 g3
        simp only [List.cons.injEq, and_true] at e0 e1 e2 e3
        subst e0 e1 e2 e3
        have b1 := bounds_u16 w1
        refine ⟨⟨z0, z1.toNat, z2, z3⟩, fun c hc => ?_, by simp only; omega⟩
        have := hcell c hc
        rw [add_add] at this
        rw [this]
        simp only
        rw [Int.toNat_of_nonneg (by omega)]
        rcases (show c = 0 ∨ c = 1 ∨ c = 2 ∨ c = 3 by omega) with rfl | rfl | rfl | rfl <;> rfl
    obtain ⟨q, hq⟩ := choose_lt each
    refine ⟨q, ?_, by omega⟩
    by_cases hz : len = 0
    · exact .inl hz
    · have h0 : W.cell? (x.add (0 * 4 + 0)) = some _ := (hq 0 (by omega)).1 0 (by omega)
      obtain ⟨b, o, e, hb⟩ := plain_addr h0
      have hx0 : ∃ b o, x = ⟨b, o, none⟩ ∧ b < W.heap.size := by
        obtain ⟨xb, xo, xs⟩ := x
        unfold Addr.add at e
        split at e
        · simp at e; exact ⟨xb, xo, by simp_all, by obtain ⟨e1, _⟩ := e; omega⟩
        · simp at e
      obtain ⟨b, o, rfl, hb⟩ := hx0
      have hat : ∀ j, j < len → ∀ c, c < 4 → W.cell? ⟨b, o + j * 4 + c, none⟩ = (#[Value.bool (q j).tk, .int .u16 (q j).fr, .int .i64 (q j).ab, .int .i64 (q j).th])[c]? := fun j hj c hc => by
        rw [Nat.add_assoc, ← addr_add]; exact (hq j hj).1 c hc
      exact .inr ⟨b, o, rfl, hb, fun j hj => ⟨hat j hj 0 (by omega), hat j hj 1 (by omega), hat j hj 2 (by omega), hat j hj 3 (by omega), (hq j hj).2⟩⟩
end

end Go.Proofs.Qxb6601345a
