import Derived.Test.Qxb6601345aQueue
import Derived.Maps.OwnOps
import Derived.Maps.Views
namespace Go.Proofs.Qxb6601345a
open Go.RowKit Go.Maps
set_option linter.unusedVariables false
set_option linter.unusedSimpArgs false

/-! ### map[uint16]*run -/

theorem law45 : Keyed Try.prog 45 := int_keyed Try.underlying45
theorem zero76 (w : World) : (zeroValue 76).run Try.prog w = .ok (.pointer none) w := by kernel_rfl

def ptrElem (v : Value) : Option (DataW Unit × List MemPlace) := match v with
  | .pointer none => some (.nil, [])
  | .pointer (some a) => if a = ⟨a.block, 0, none⟩ then some (.lit (.int .i64 a.block), []) else none
  | _ => none

def ptrOpt : Option Nat → Value
  | none => .pointer none
  | some b => .pointer (some ⟨b, 0, none⟩)
def datOpt : Option Nat → DataW Unit
  | none => .nil
  | some b => .lit (.int .i64 b)

theorem ptrElem_opt (o : Option Nat) : ptrElem (ptrOpt o) = some (datOpt o, []) := by
  cases o <;> simp [ptrElem, ptrOpt, datOpt]
theorem ptrElem_inv {v : Value} {o : Option Nat} {ps : List MemPlace} (h : ptrElem v = some (datOpt o, ps)) : v = ptrOpt o := by
  unfold ptrElem at h
  split at h
  · cases o with
    | none => rfl
    | some b => simp [datOpt] at h
  · rename_i a
    split at h
    · rename_i ha
      cases o with
      | none => simp [datOpt] at h
      | some b =>
        simp only [datOpt, Option.some.injEq, Prod.mk.injEq, DataW.lit.injEq, Lit.int.injEq, true_and, Int.natCast_inj] at h
        rw [ha, h.1]; rfl
    · cases h
  · cases h

/-- The map's element at sender s is run f s. -/
def MapIs (w : World) (bm n : Nat) (f : Nat → Option Nat) : Prop :=
  ∃ D : DataW Unit, w.ownsMap Try.prog 45 ptrElem bm n D ∧ IsMap D ∧ ∀ s : Nat, s < 65536 → D.atKey (.int .u16 s) .nil = datOpt (f s)

theorem key45 {s : Nat} (hs : s < 65536) : keyOf Try.prog 45 (.int .u16 s) = some (.int .u16 s) := keyOf_int_mk Try.underlying45 (WalkArith.wf_u16 ⟨by omega, by omega⟩)

theorem MapIs.made (w : World) : MapIs (w.alloc (.map #[] 0)) w.heap.size 0 (fun _ => none) :=
  ⟨.map [], World.ownsMap_made _ _ _ _, isMap_empty, fun s hs => rfl⟩
theorem MapIs.keep {w w' : World} {bm n : Nat} {f : Nat → Option Nat} (h : MapIs w bm n f) (hk : w'.heap[bm]? = w.heap[bm]?) : MapIs w' bm n f := by
  obtain ⟨D, ⟨es, cl, h1, h2⟩, h3⟩ := h
  exact ⟨D, ⟨es, cl, hk.trans h1, h2⟩, h3⟩
theorem MapIs.lt {w : World} {bm n : Nat} {f : Nat → Option Nat} (h : MapIs w bm n f) : bm < w.heap.size := by
  obtain ⟨D, h1, _⟩ := h
  exact h1.lt
theorem MapIs.obj {w : World} {bm n : Nat} {f : Nat → Option Nat} (h : MapIs w bm n f) : ∃ es cl, w.heap[bm]? = some (.map es cl) := by
  obtain ⟨D, ⟨es, cl, h1, h2⟩, h3⟩ := h
  exact ⟨es, cl, h1⟩
theorem MapIs.lookup {w : World} {bm n : Nat} {f : Nat → Option Nat} (h : MapIs w bm n f) {s : Nat} (hs : s < 65536) : (Instr.lookup 73 (.map (some bm)) (.int .u16 s) false).run Try.prog w = .ok (ptrOpt (f s)) w := by
  obtain ⟨D, h1, h2, h3⟩ := h
  obtain ⟨v, ps, hr, hv⟩ := h1.lookup law45 Try.underlying73 (zero76 w) (ptrElem_opt none) (key45 hs)
  rw [show datOpt none = .nil from rfl, h3 s hs] at hv
  rw [hr, ptrElem_inv hv]
theorem MapIs.update {w : World} {bm n : Nat} {f : Nat → Option Nat} (h : MapIs w bm n f) (hn : n < maxLen) {s : Nat} (hs : s < 65536) (b : Nat) : ∃ w', (Instr.mapUpdate 73 (.map (some bm)) (.int .u16 s) (.pointer (some ⟨b, 0, none⟩))).run Try.prog w = .ok () w' ∧
    MapIs w' bm (n + 1) (fun s' => if s' = s then some b else f s') ∧ w.grownBy w' (some bm) := by
  obtain ⟨D, h1, h2, h3⟩ := h
  obtain ⟨w', hr, h4, h5⟩ := h1.update law45 Try.underlying73 hn (key45 hs) (ptrElem_opt (some b))
  refine ⟨w', hr, ⟨_, h4, h2.put _ _, fun s' hs' => ?_⟩, h5⟩
  by_cases e : s' = s
  · subst e
    rw [atKey_put_same h2 (by simp [WideAt.IsKeyLit])]; simp
  · rw [atKey_put_other (by simp; omega), h3 s' hs']; simp [e]

theorem owns_keep {w w' : World} {base : Nat} {e : TypeId} {size : Nat} {v : Value} {n : Nat} {xs : List Value} (h : w.ownsRow base e size v n xs) (hk : ∀ g, v.ownBlock = some g → w'.heap[g]? = w.heap[g]?) : w'.ownsRow base e size v n xs := by
  refine ⟨h.1, ?_⟩
  rcases h.2 with h1 | ⟨g, cap, cur, rfl, h2, h3, h4⟩
  · exact .inl h1
  · exact .inr ⟨g, cap, cur, rfl, h2, (hk g rfl).trans h3, h4⟩

/-- The cells of the messages l. -/
def flat (mc : Nat → MsgV) (l : List Nat) : List Value := l.flatMap fun i => (mc i).cells.toList
theorem cells_len (v : MsgV) : v.cells.toList.length = 6 := rfl
theorem flat_snoc (mc : Nat → MsgV) (l : List Nat) (i : Nat) : flat mc (l ++ [i]) = flat mc l ++ (mc i).cells.toList := by simp [flat]
theorem flat_len (mc : Nat → MsgV) : ∀ l, (flat mc l).length = l.length * 6 := by
  intro l
  induction l with
  | nil => rfl
  | cons i l ih => simp only [flat, List.flatMap_cons, List.length_append, cells_len, List.length_cons] at ih ⊢; omega
theorem flat_at (mc : Nat → MsgV) : ∀ (l : List Nat) (k : Nat), k < l.length → ∀ c, c < 6 → (flat mc l)[k * 6 + c]? = (mc l[k]!).cells[c]? := by
  intro l
  induction l with
  | nil => intro k hk; simp at hk
  | cons i l ih =>
    intro k hk c hc
    cases k with
    | zero =>
      simp only [flat, List.flatMap_cons, Nat.zero_mul, Nat.zero_add]
      rw [List.getElem?_append_left (by rw [cells_len]; exact hc)]
      simp
    | succ k =>
      simp only [flat, List.flatMap_cons]
      rw [List.getElem?_append_right (by rw [cells_len]; omega), cells_len, show (k + 1) * 6 + c - 6 = k * 6 + c from by omega]
      have := ih k (by simpa using hk) c hc
      simpa [flat] using this

theorem Row.of_owns {N : Nat} {w : World} {mc : Nat → MsgV} {b s : Nat} {v : Value} {l : List Nat} (h : w.ownsRow N 65 6 v l.length (flat mc l)) (h0 : l ≠ []) (hl : l.length ≤ 4096) :
    ∃ g cap, v = .slice (some ⟨g, 0, none⟩) l.length cap ∧ N ≤ g ∧ cap ≤ maxLen ∧ Row w mc ⟨b, s, g, l.length, cap, 0⟩ l := by
  rcases h.2 with ⟨_, h1⟩ | ⟨g, cap, cur, rfl, h2, h3, h4, h5, h6, h7⟩
  · exact absurd (List.eq_nil_of_length_eq_zero h1) h0
  · refine ⟨g, cap, rfl, h2, h5, ⟨by simp, hl, h4, cur, h3, h6, fun k hk c hc => ?_⟩⟩
    have := flat_at mc l k hk c hc
    rw [← h7, List.getElem?_take, if_pos (by omega), Array.getElem?_toList] at this
    simpa using this

end Go.Proofs.Qxb6601345a
