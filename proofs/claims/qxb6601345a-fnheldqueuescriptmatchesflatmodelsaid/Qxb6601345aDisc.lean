import Derived.Test.Qxb6601345aLay
import Derived.BigQuiet
namespace Go.Proofs.Qxb6601345a
open Go.RowKit
set_option linter.unusedVariables false
set_option linter.unusedSimpArgs false

/-- Message i stays. -/
def stays (mc : Nat → MsgV) (above thr : Int) (i : Nat) : Bool := decide ((mc i).ts ≤ above) || decide (thr < (mc i).ts)

/-- While discard goes through the run's messages l: j of them have been looked at; K: the kept ones. -/
structure DL (N : Nat) (w wx : World) (g hd cp : Nat) (mc : Nat → MsgV) (l : List Nat) (j : Nat) (K : List Nat) : Prop where
  fr : Fr N [65] w wx
  old : ∀ c, c < w.heap.size → c ≠ g → wx.heap[c]? = w.heap[c]?
  klen : K.length ≤ j
  arr : ∃ cur, wx.heap[g]? = some (.cells cur 65) ∧ cur.size = cp * 6 ∧ (∀ t, t < K.length → ∀ c, c < 6 → cur[(hd + t) * 6 + c]? = (mc K[t]!).cells[c]?) ∧ ∀ t, j ≤ t → t < l.length → ∀ c, c < 6 → cur[(hd + t) * 6 + c]? = (mc l[t]!).cells[c]?

theorem DL.start {N : Nat} {w : World} {g hd cp : Nat} {mc : Nat → MsgV} {l : List Nat} {cm : Array Value} (hg : w.heap[g]? = some (.cells cm 65)) (hs : cm.size = cp * 6) (hc : ∀ t, t < l.length → ∀ c, c < 6 → cm[(hd + t) * 6 + c]? = (mc l[t]!).cells[c]?) : DL N w w g hd cp mc l 0 [] :=
  ⟨Fr.refl _ _ _, fun _ _ _ => rfl, by simp, cm, hg, hs, fun t ht => by simp at ht, fun t _ ht => hc t ht⟩

/-- New blocks. -/
theorem DL.alloc {N : Nat} {w wx : World} {g hd cp : Nat} {mc : Nat → MsgV} {l : List Nat} {j : Nat} {K : List Nat} (h : DL N w wx g hd cp mc l j K) (hN : N ≤ w.heap.size) (o : Obj) : DL N w (wx.alloc o) g hd cp mc l j K := by
  have hs := h.fr.below.size
  obtain ⟨cur, h1, h2⟩ := h.arr
  exact ⟨h.fr.alloc (by omega) o, fun c hc hne => (Below.heap_alloc _ _ _ (by omega)).trans (h.old c hc hne), h.klen, cur, (Below.heap_alloc _ _ _ (block_lt h1)).trans h1, h2⟩

/-- The j-th is let go. -/
theorem DL.drop {N : Nat} {w wx : World} {g hd cp : Nat} {mc : Nat → MsgV} {l : List Nat} {j : Nat} {K : List Nat} (h : DL N w wx g hd cp mc l j K) : DL N w wx g hd cp mc l (j + 1) K := by
  obtain ⟨cur, h1, h2, h3, h4⟩ := h.arr
  exact ⟨h.fr, h.old, by have := h.klen; omega, cur, h1, h2, h3, fun t ht => h4 t (by omega)⟩

/-- The j-th is kept. -/
theorem DL.keep {N : Nat} {w wx : World} {g hd cp : Nat} {mc : Nat → MsgV} {l : List Nat} {j : Nat} {K : List Nat} (h : DL N w wx g hd cp mc l j K) (hN : N ≤ g) (hj : j < l.length) (hcap : hd + l.length ≤ cp) :
    DL N w (wx.setCells g ((hd + K.length) * 6) (mc l[j]!).cells.toList) g hd cp mc l (j + 1) (K ++ [l[j]!]) := by
  have hk := h.klen
  obtain ⟨cur, h1, h2, h3, h4⟩ := h.arr
  obtain ⟨c', e1, e2, e3, e4⟩ := lay_block (mc l[j]!).cells.toList ((hd + K.length) * 6) wx cur h1 (by rw [cells_len, h2]; omega)
  rw [cells_len] at e3 e4
  refine ⟨Fr.lay (by simp) hN _ _ _ _ _ h.fr h1, fun c hc hne => (lay_other _ _ _ hne).trans (h.old c hc hne), by simp; omega, c', e1, e2.trans h2, fun t ht c hc => ?_, fun t ht htl c hc => ?_⟩
  · simp only [List.length_append, List.length_cons, List.length_nil] at ht
    by_cases e : t = K.length
    · subst e
      rw [e4 c hc]
      simp [List.getElem!_eq_getElem?_getD]
    · rw [e3 _ (by omega), h3 t (by omega) c hc]
      simp [List.getElem!_eq_getElem?_getD, List.getElem?_append_left (show t < K.length by omega)]
  · rw [e3 _ (by omega)]; exact h4 t (by omega) htl c hc

/-- What lies behind the kept ones is wiped. -/
theorem DL.wipe {N : Nat} {w wx : World} {g hd cp : Nat} {mc : Nat → MsgV} {l : List Nat} {K : List Nat} (h : DL N w wx g hd cp mc l l.length K) (hN : N ≤ g) (hcap : hd + l.length ≤ cp) (vs : List Value) (hv : vs.length = (l.length - K.length) * 6) :
    DL N w (wx.setCells g ((hd + K.length) * 6) vs) g hd cp mc l l.length K := by
  have hk := h.klen
  obtain ⟨cur, h1, h2, h3, h4⟩ := h.arr
  obtain ⟨c', e1, e2, e3, e4⟩ := lay_block vs ((hd + K.length) * 6) wx cur h1 (by rw [hv, h2]; omega)
  exact ⟨Fr.lay (by simp) hN _ _ _ _ _ h.fr h1, fun c hc hne => (lay_other _ _ _ hne).trans (h.old c hc hne), hk, c', e1, e2.trans h2, fun t ht c hc => by rw [e3 _ (by omega)]; exact h3 t ht c hc, fun t ht htl => by omega⟩

theorem DL.cell {N : Nat} {w wx : World} {g hd cp : Nat} {mc : Nat → MsgV} {l : List Nat} {j : Nat} {K : List Nat} (h : DL N w wx g hd cp mc l j K) (hj : j < l.length) {c : Nat} (hc : c < 6) : wx.cell? ⟨g, (hd + j) * 6 + c, none⟩ = (mc l[j]!).cells[c]? := by
  obtain ⟨cur, h1, h2, h3, h4⟩ := h.arr
  rw [cell_of h1]; exact h4 j (Nat.le_refl _) hj c hc

theorem DL.there {N : Nat} {w wx : World} {g hd cp : Nat} {mc : Nat → MsgV} {l : List Nat} {j : Nat} {K : List Nat} (h : DL N w wx g hd cp mc l j K) {o : Nat} (ho : o < cp * 6) : (wx.cell? ⟨g, o, none⟩).isSome = true ∧ wx.frozen? ⟨g, o, none⟩ = false := by
  obtain ⟨cur, h1, h2, _⟩ := h.arr
  rw [cell_of h1]
  exact ⟨by simp; omega, frozen_of h1⟩

end Go.Proofs.Qxb6601345a
