import Derived.Test.Qxb6601345aMake
import Derived.ArgAppend
namespace Go.Proofs.Qxb6601345a
open Go.RowKit
set_option linter.unusedVariables false
set_option linter.unusedSimpArgs false

/-! ### Cells laid into a block -/

theorem lay_block {b : Nat} {e : TypeId} {f : Nat × Nat} : ∀ (vs : List Value) (o : Nat) (w : World) (c : Array Value), w.heap[b]? = some (.cells c e f) → o + vs.length ≤ c.size →
    ∃ c', (w.setCells b o vs).heap[b]? = some (.cells c' e f) ∧ c'.size = c.size ∧ (∀ j, j < o ∨ o + vs.length ≤ j → c'[j]? = c[j]?) ∧ ∀ j, j < vs.length → c'[o + j]? = vs[j]? := by
  intro vs
  induction vs with
  | nil => intro o w c h _; exact ⟨c, h, rfl, fun _ _ => rfl, fun j hj => by simp at hj⟩
  | cons v r ih =>
    intro o w c h hs
    simp only [List.length_cons] at hs
    obtain ⟨c', h1, h2, h3, h4⟩ := ih (o + 1) (w.setCell ⟨b, o, none⟩ v) _ (set_block h v) (by simp; omega)
    refine ⟨c', h1, by rw [h2]; simp, fun j hj => ?_, fun j hj => ?_⟩
    · simp only [List.length_cons] at hj
      rw [h3 j (by omega), Array.getElem?_setIfInBounds_ne (by omega)]
    · cases j with
      | zero => rw [h3 _ (by omega), Nat.add_zero, Array.getElem?_setIfInBounds_self_of_lt (by omega)]; rfl
      | succ j =>
        have := h4 j (by simpa using hj)
        rw [show o + (j + 1) = o + 1 + j from by omega, this]; simp

theorem lay_other {b : Nat} : ∀ (vs : List Value) (o : Nat) (w : World) {x : Nat}, x ≠ b → (w.setCells b o vs).heap[x]? = w.heap[x]? := by
  intro vs
  induction vs with
  | nil => intro o w x h; rfl
  | cons v r ih => intro o w x h; exact (ih (o + 1) _ h).trans (set_other v h)

theorem lay_size {b : Nat} : ∀ (vs : List Value) (o : Nat) (w : World), (w.setCells b o vs).heap.size = w.heap.size := by
  intro vs
  induction vs with
  | nil => intro o w; rfl
  | cons v r ih => intro o w; exact (ih (o + 1) _).trans (set_size _ _ _)

theorem Fr.lay {N : Nat} {T : List Nat} {x : Nat} {e : TypeId} {f : Nat × Nat} (he : e ∈ T) (hN : N ≤ x) : ∀ (vs : List Value) (o : Nat) (a w : World) (c : Array Value), Fr N T a w → w.heap[x]? = some (.cells c e f) → Fr N T a (w.setCells x o vs) := by
  intro vs
  induction vs with
  | nil => intro o a w c h _; exact h
  | cons v r ih => intro o a w c h hb; exact ih (o + 1) a _ _ (h.set (o := o) hb he hN v) (set_block hb v)

/-! ### append in place, clear -/

section
variable {P : Program} (w : World)

theorem wpList_append_room {ops : Array Oper} {rest : List Oper} {o : Oper} {a : Act} {Q : Exit → Act → World → Prop}
    (hg : o.guard = none) (s x : Operand) (t : TypeId) (hop : o.op = Op.call { callee := Callee.builtin Builtin.append, args := #[s, x], argTypes := #[t, t] })
    (e : TypeId) (i : TypeInfo) (size : Nat) (h1 : P.underlying t = some (.slice e)) (h2 : P.info? e = some i) (h4 : i.size = size)
    (b off n cap : Nat) (hs : a.eval s = .slice (some ⟨b, off, none⟩) n cap)
    (ad : Addr) (m c : Nat) (news : List Value) (hx : a.eval x = .slice (some ad) m c) (hn : news.length = m * size) (hc : ∀ j u, news[j]? = some u → w.cell? (ad.add j) = some u) (h1c : ∀ u ∈ news, u.oneCell' = true)
    (hr : n + m ≤ cap) (hspare : ∀ j, j < news.length → (w.cell? ⟨b, off + n * size + j, none⟩).isSome = true ∧ w.frozen? ⟨b, off + n * size + j, none⟩ = false)
    (hroom : wpList P ops Q rest (a.put o.dst (.slice (some ⟨b, off, none⟩) (n + m) cap)) (w.setCells b (off + n * size) news)) :
    wpList P ops Q (o :: rest) a w := by
  refine wpList_plain hg fun K hK' => ?_
  subst h4
  have hrun := run_append_room_cells (P := P) w t o.type e i h1 h2 b off n cap ad m c news hn hc h1c hr (fun j hj => (hspare j hj).1) (fun j hj => (hspare j hj).2)
  unfold Oper.wp
  simp [execOp, hop, resolve, invoke, builtin, hs, hx, hrun, Result.andThen]
  exact hK' _ _ hroom

/-- clear of a slice of n elements, of as many cells as z has. -/
theorem run_clear_any (t e ty : TypeId) (z : Value) (ht : P.underlying t = some (.slice e)) (hv : ∀ w, (zeroValue e).run P w = .ok z w) (b o n c : Nat) (h1 : ∀ u ∈ (Builtin.zeroCells z.cells n).toList, u.oneCell' = true)
    (hc : ∀ j, j < (Builtin.zeroCells z.cells n).toList.length → (w.cell? ⟨b, o + j, none⟩).isSome = true) (hf : ∀ j, j < (Builtin.zeroCells z.cells n).toList.length → w.frozen? ⟨b, o + j, none⟩ = false) (hn : 0 < n) :
    (Builtin.clear_ #[t] ty #[.slice (some ⟨b, o, none⟩) n c]).run P w = .ok (.tuple #[]) (w.setCells b o (Builtin.zeroCells z.cells n).toList) := by
  have hst := run_storeCells_cells (P := P) b o (Builtin.zeroCells z.cells n).toList 0 w (by simpa using hc) (by simpa using hf) h1
  simp only [Nat.add_zero] at hst
  obtain ⟨m, rfl⟩ : ∃ m, n = m + 1 := ⟨n - 1, by omega⟩
  simp only [Builtin.clear_, List.getElem?_toArray, List.getElem?_cons_zero, run_underlying ht, hv, hst, Sem.run_bind, Sem.run_pure, Result.andThen_ok]

theorem run_clear_none (t e ty : TypeId) (ht : P.underlying t = some (.slice e)) (a : Option Addr) (c : Nat) : (Builtin.clear_ #[t] ty #[.slice a 0 c]).run P w = .ok (.tuple #[]) w := by
  cases a <;> simp [Builtin.clear_, run_underlying ht]

theorem wpList_clear {ops : Array Oper} {rest : List Oper} {o : Oper} {a : Act} {Q : Exit → Act → World → Prop}
    (hg : o.guard = none) (s : Operand) (t : TypeId) (hop : o.op = Op.call { callee := Callee.builtin Builtin.clear, args := #[s], argTypes := #[t] })
    (e : TypeId) (z : Value) (ht : P.underlying t = some (.slice e)) (hv : ∀ w, (zeroValue e).run P w = .ok z w) (b off n c : Nat) (hs : a.eval s = .slice (some ⟨b, off, none⟩) n c) (h1 : ∀ u ∈ (Builtin.zeroCells z.cells n).toList, u.oneCell' = true)
    (hc : ∀ j, j < (Builtin.zeroCells z.cells n).toList.length → (w.cell? ⟨b, off + j, none⟩).isSome = true ∧ w.frozen? ⟨b, off + j, none⟩ = false) (hn : 0 < n)
    (h : wpList P ops Q rest (a.put o.dst (.tuple #[])) (w.setCells b off (Builtin.zeroCells z.cells n).toList)) :
    wpList P ops Q (o :: rest) a w := by
  refine wpList_plain hg fun K hK' => ?_
  have hrun := run_clear_any (P := P) w t e o.type z ht hv b off n c h1 (fun j hj => (hc j hj).1) (fun j hj => (hc j hj).2) hn
  unfold Oper.wp execOp
  simp only [hop, resolve, invoke, builtin, Sem.run_bind, Sem.run_pure, Result.andThen_ok, List.map_toArray, List.map_cons, List.map_nil, hs, hrun]
  exact hK' _ _ h

theorem wpList_clear_none {ops : Array Oper} {rest : List Oper} {o : Oper} {a : Act} {Q : Exit → Act → World → Prop}
    (hg : o.guard = none) (s : Operand) (t : TypeId) (hop : o.op = Op.call { callee := Callee.builtin Builtin.clear, args := #[s], argTypes := #[t] })
    (e : TypeId) (ht : P.underlying t = some (.slice e)) (ad : Option Addr) (c : Nat) (hs : a.eval s = .slice ad 0 c)
    (h : wpList P ops Q rest (a.put o.dst (.tuple #[])) w) :
    wpList P ops Q (o :: rest) a w := by
  refine wpList_plain hg fun K hK' => ?_
  have hrun := run_clear_none (P := P) w t e o.type ht ad c
  unfold Oper.wp execOp
  simp only [hop, resolve, invoke, builtin, Sem.run_bind, Sem.run_pure, Result.andThen_ok, List.map_toArray, List.map_cons, List.map_nil, hs, hrun]
  exact hK' _ _ h
end

theorem zero65 (w : World) : (zeroValue 65).run Try.prog w = .ok (.agg zeroMsg) w := by kernel_rfl

theorem zeros_len (n : Nat) : (Builtin.zeroCells (Value.agg zeroMsg).cells n).toList.length = n * 6 := by
  simp [Builtin.zeroCells, Value.cells, zeroMsg]
theorem zeros_one (n : Nat) : ∀ u ∈ (Builtin.zeroCells (Value.agg zeroMsg).cells n).toList, u.oneCell' = true := by
  intro u hu
  simp only [Builtin.zeroCells, Value.cells, Array.toList_map, List.mem_map] at hu
  obtain ⟨j, _, rfl⟩ := hu
  have hs : zeroMsg.size = 6 := rfl
  rw [hs]
  have hj : j % 6 < 6 := Nat.mod_lt _ (by omega)
  rcases (show j % 6 = 0 ∨ j % 6 = 1 ∨ j % 6 = 2 ∨ j % 6 = 3 ∨ j % 6 = 4 ∨ j % 6 = 5 by omega) with e | e | e | e | e | e <;> (rw [e]; rfl)

end Go.Proofs.Qxb6601345a
