import Derived.Test.Qxb6601345aDrain
import Derived.Deep.Slices
import Derived.ChangeSame
import Derived.OpenShut
namespace Go.Proofs.Qxb6601345a
open Go.ChangeShapes Go.RowKit Go.Deep
set_option linter.unusedVariables false
set_option linter.unusedSimpArgs false

theorem cell_lt2 {w : World} {b o : Nat} {v : Value} (h : w.cell? ⟨b, o, none⟩ = some v) : b < w.heap.size := by
  by_cases hb : b < w.heap.size
  · exact hb
  · simp [World.cell?, Array.getElem?_eq_none (Nat.le_of_not_lt hb)] at h

theorem plain_addr {w : World} {x : Addr} {v : Value} (h : w.cell? x = some v) : ∃ b o, x = ⟨b, o, none⟩ ∧ b < w.heap.size := by
  obtain ⟨b, o, spot⟩ := x
  have hs : spot = none := by simpa using World.cell?_spot h
  subst hs
  exact ⟨b, o, rfl, cell_lt2 h⟩

theorem addr_add (b o k : Nat) : (⟨b, o, none⟩ : Addr).add k = ⟨b, o + k, none⟩ := by unfold Addr.add; split <;> simp_all

section
variable {H : Type} (enc : TypeId × Value → H) (W : World)

theorem opened_ints {a : Option Addr} {len cap : Nat} {d : DataW H} {p : List MemPlace} (h : DataW.Trod enc Try.prog W 0 (fun _ => true) true 36 (.slice a len cap) d p) : ∃ zs, IntsIn W a len zs ∧ len ≤ maxLen := by
  obtain ⟨fuel, hf⟩ := h
  rcases open_slice1 Try.underlying36 (by kernel_rfl) hf with ⟨hcs, _⟩ | ⟨x, l, c, m, n, V, D, Pl, hcs, _, hl, hm, hmm, _, hx⟩
  · simp [Value.cells] at hcs
    obtain ⟨rfl, rfl, rfl⟩ := hcs
    exact ⟨fun _ => 0, .inl rfl, by simp⟩
  · simp [Value.cells] at hcs
    obtain ⟨rfl, rfl, rfl⟩ := hcs
    simp only [if_true] at hmm
    have each : ∀ i, i < len → ∃ z : Int, W.cell? (x.add i) = some (.int .i64 z) := by
      intro i hi
      obtain ⟨h0, t0⟩ := hx i (by omega)
      obtain ⟨z0, e0, _, w0⟩ := DataW.trod_int Try.underlying2 t0
      simp only [List.cons.injEq, and_true] at e0
      exact ⟨z0, by rw [h0, e0]⟩
    obtain ⟨q, hq⟩ := choose_lt each
    refine ⟨q, ?_, by omega⟩
    by_cases hz : len = 0
    · exact .inl hz
    · have h0 := hq 0 (by omega)
      obtain ⟨b, o, e, hb⟩ := plain_addr h0
      have hx0 : ∃ b o, x = ⟨b, o, none⟩ ∧ b < W.heap.size := by
        obtain ⟨xb, xo, xs⟩ := x
        unfold Addr.add at e
        split at e
        · simp at e; exact ⟨xb, xo, by simp_all, by obtain ⟨e1, _⟩ := e; omega⟩
        · simp at e
      obtain ⟨b, o, rfl, hb⟩ := hx0
      exact .inr ⟨b, o, rfl, hb, fun j hj => by rw [← addr_add]; exact hq j hj⟩

theorem opened_bytes {a : Option Addr} {len cap fuel : Nat} {x : DataW H × List MemPlace} (hf : DataW.trod enc Try.prog W 0 (fun _ => true) true fuel 58 [.slice a len cap] = some x) : ∃ bs, BytesIn W a len bs ∧ len ≤ maxLen ∧ (a = none → len = 0 ∧ cap = 0) := by
  rcases open_slice1 Try.underlying58 (by kernel_rfl) hf with ⟨hcs, _⟩ | ⟨x, l, c, m, n, V, D, Pl, hcs, _, hl, hm, hmm, _, hx⟩
  · simp at hcs
    obtain ⟨rfl, rfl, rfl⟩ := hcs
    exact ⟨fun _ => 0, .inl rfl, by simp, fun _ => ⟨rfl, rfl⟩⟩
  · simp at hcs
    obtain ⟨rfl, rfl, rfl⟩ := hcs
    simp only [if_true] at hmm
    have each : ∀ i, i < len → ∃ z : Nat, W.cell? (x.add i) = some (.int .u8 z) ∧ z < 256 := by
      intro i hi
      obtain ⟨h0, t0⟩ := hx i (by omega)
      obtain ⟨z0, e0, _, w0⟩ := DataW.trod_int Try.underlying5 t0
      simp only [List.cons.injEq, and_true] at e0
      have hb := bounds_u8 w0
      exact ⟨z0.toNat, by rw [h0, e0, Int.toNat_of_nonneg (by omega)], by omega⟩
    obtain ⟨q, hq⟩ := choose_lt each
    refine ⟨q, ?_, by omega, by simp⟩
    by_cases hz : len = 0
    · exact .inl hz
    · have h0 := (hq 0 (by omega)).1
      obtain ⟨b, o, e, hb⟩ := plain_addr h0
      have hx0 : ∃ b o, x = ⟨b, o, none⟩ ∧ b < W.heap.size := by
        obtain ⟨xb, xo, xs⟩ := x
        unfold Addr.add at e
        split at e
        · simp at e; exact ⟨xb, xo, by simp_all, by obtain ⟨e1, _⟩ := e; omega⟩
        · simp at e
      obtain ⟨b, o, rfl, hb⟩ := hx0
      exact .inr ⟨b, o, rfl, hb, fun j hj => by rw [← addr_add]; exact hq j hj⟩

instance : Inhabited MsgV := ⟨⟨0, 0, 0, false, false, none, 0, 0⟩⟩

theorem opened_msgs {a : Option Addr} {len cap : Nat} {d : DataW H} {p : List MemPlace} (h : DataW.Trod enc Try.prog W 0 (fun _ => true) true 35 (.slice a len cap) d p) :
    ∃ mg pb, MsgsIn W a len mg pb ∧ len ≤ maxLen ∧ ∀ i, i < len → (Lit.int .i64 (mg i).ts).wf = true := by
  obtain ⟨fuel, hf⟩ := h
  have ce : Try.prog.cellsOf 60 = 6 := by kernel_rfl
  have k2 : Try.prog.cellsOf 2 = 1 := by kernel_rfl
  have k45 : Try.prog.cellsOf 45 = 1 := by kernel_rfl
  have k4 : Try.prog.cellsOf 4 = 1 := by kernel_rfl
  have k58 : Try.prog.cellsOf 58 = 1 := by kernel_rfl
  rcases open_slice Try.underlying35 hf with ⟨hcs, _⟩ | ⟨x, l, c, m, n, D, Pl, hcs, _, hl, hm, hmm, _, hx⟩
  · simp [Value.cells] at hcs
    obtain ⟨rfl, rfl, rfl⟩ := hcs
    exact ⟨fun _ => default, fun _ _ => 0, ⟨fun i hi => by omega, .inl rfl, fun i hi => by omega⟩, by simp, fun i hi => by omega⟩
  · simp [Value.cells] at hcs
    obtain ⟨rfl, rfl, rfl⟩ := hcs
    simp only [if_true] at hmm
    have each : ∀ i, i < len → ∃ q : MsgV × (Nat → Nat), (∀ c, c < 6 → W.cell? (x.add (i * 6 + c)) = q.1.cells[c]?) ∧ (q.1.fr < 65536 ∧ q.1.tt < 65536 ∧ q.1.pl ≤ maxLen ∧ (q.1.pa = none → q.1.pl = 0 ∧ q.1.pc = 0)) ∧ BytesIn W q.1.pa q.1.pl q.2 ∧ (Lit.int .i64 q.1.ts).wf = true := by
      intro i hi
      obtain ⟨cs', h1, h2⟩ := hx i (by omega)
      rw [ce] at h1
      obtain ⟨_, hlen, hcell⟩ := World.cells?_some h1
      obtain ⟨xs, k, hk, hxy, _, hxl, hf⟩ := DataW.trod_struct Try.underlying60 h2
      match xs, hxl, cs', hlen with
      | [y0, y1, y2, y3, y4, y5], _, [v0, v1, v2, v3, v4, v5], _ =>
        have g0 := hf 0 _ rfl
        have g1 := hf 1 _ rfl
        have g2 := hf 2 _ rfl
        have g3 := hf 3 _ rfl
        have g4 := hf 4 _ rfl
        have g5 := hf 5 _ rfl
        simp [k2, k45, k4, k58] at g0 g1 g2 g3 g4 g5
        obtain ⟨z0, e0, _, w0⟩ := DataW.trod_int Try.underlying2 g0
        obtain ⟨z1, e1, _, w1⟩ := DataW.trod_int Try.underlying45 g1
        obtain ⟨z2, e2, _, w2⟩ := DataW.trod_int Try.underlying45 g2
        obtain ⟨z3, e3, _⟩ := DataW.trod_bool Try.underlying4 g3
        obtain ⟨z4, e4, _⟩ := DataW.trod_bool Try.underlying4 g4
        simp only [List.cons.injEq, and_true] at e0 e1 e2 e3 e4
        obtain ⟨pa, pl, pc, e5⟩ : ∃ pa pl pc, v5 = .slice pa pl pc := by
          rcases open_slice1 Try.underlying58 (by kernel_rfl) g5 with ⟨hcs, _⟩ | ⟨x, l, c, m, n, V, D, Pl, hcs, _⟩
          · simp at hcs; exact ⟨_, _, _, hcs⟩
          · simp at hcs; exact ⟨_, _, _, hcs⟩
        subst e0 e1 e2 e3 e4 e5
        obtain ⟨bs, hb1, hb2, hb3⟩ := opened_bytes enc W g5
        have b1 := bounds_u16 w1
        have b2 := bounds_u16 w2
        refine ⟨(⟨z0, z1.toNat, z2.toNat, z3, z4, pa, pl, pc⟩, bs), fun c hc => ?_, ⟨by simp only; omega, by simp only; omega, hb2, hb3⟩, hb1, w0⟩
        have := hcell c hc
        rw [add_add] at this
        rw [this]
        simp only [MsgV.cells]
        rw [Int.toNat_of_nonneg (by omega), Int.toNat_of_nonneg (by omega)]
        rcases (show c = 0 ∨ c = 1 ∨ c = 2 ∨ c = 3 ∨ c = 4 ∨ c = 5 by omega) with rfl | rfl | rfl | rfl | rfl | rfl <;> rfl
    obtain ⟨q, hq⟩ := choose_lt each
    refine ⟨fun i => (q i).1, fun i => (q i).2, ⟨fun i hi => (hq i hi).2.1, ?_, fun i hi => (hq i hi).2.2.1⟩, by omega, fun i hi => (hq i hi).2.2.2⟩
    by_cases hz : len = 0
    · exact .inl hz
    · have h0 : W.cell? (x.add (0 * 6 + 0)) = some _ := (hq 0 (by omega)).1 0 (by omega)
      obtain ⟨b, o, e, hb⟩ := plain_addr h0
      have hx0 : ∃ b o, x = ⟨b, o, none⟩ ∧ b < W.heap.size := by
        obtain ⟨xb, xo, xs⟩ := x
        unfold Addr.add at e
        split at e
        · simp at e; exact ⟨xb, xo, by simp_all, by obtain ⟨e1, _⟩ := e; omega⟩
        · simp at e
      obtain ⟨b, o, rfl, hb⟩ := hx0
      exact .inr ⟨b, o, rfl, hb, fun j hj c hc => by rw [Nat.add_assoc, ← addr_add]; exact (hq j hj).1 c hc⟩
end

end Go.Proofs.Qxb6601345a
