import Derived.Test.Qxb6601345aHeapPop
namespace Go.Proofs.Qxb6601345a
open Go.RowKit
set_option linter.unusedVariables false
set_option linter.unusedSimpArgs false

theorem ltK_irr (t : Int) (s : Nat) : ltK t s t s = false := by simp [ltK]
theorem ltR_ord (ts : Nat → Int) (rc : Nat → Rec) : PlainHeap.Ord (ltR ts rc) := by
  refine ⟨fun x => ltK_irr _ _, fun x y h => ?_, fun x y z h k => ?_⟩
  · simp only [ltR, ltK, Bool.or_eq_true, Bool.and_eq_true, decide_eq_true_eq, Bool.or_eq_false_iff, Bool.and_eq_false_iff, decide_eq_false_iff_not] at h ⊢
    omega
  · simp only [ltR, ltK, Bool.or_eq_false_iff, Bool.and_eq_false_iff, decide_eq_false_iff_not] at h k ⊢
    omega

open PlainHeap in
theorem heap_congr {lt lt' : Nat → Nat → Bool} {n : Nat} {H : Nat → Nat} (h : Heap lt n H) (ha : ∀ j, j < n → ∀ k, k < n → lt' (H j) (H k) = lt (H j) (H k)) : Heap lt' n H := by
  intro k h0 hk
  have := h k h0 hk
  unfold le at this ⊢
  rw [ha k hk _ (by omega)]; exact this

open PlainHeap in
/-- The root's key has changed: down restores the order. -/
theorem heap_down0 {lt lt' : Nat → Nat → Bool} (o : Ord lt') {n : Nat} {H : Nat → Nat} (h0 : 0 < n) (h : Heap lt n H) (ha : ∀ j, 0 < j → j < n → ∀ k, 0 < k → k < n → lt' (H j) (H k) = lt (H j) (H k)) : Heap lt' n (downF lt' n n H 0) := by
  obtain ⟨j, hj, hv, hb, hm, hs⟩ := downF_heap o n n H 0 (by omega) h0 ⟨fun k hk0 hkn hk hkp => by
    have := h k hk0 hkn
    unfold le at this ⊢
    rw [ha k hk0 hkn _ (by omega) (by omega)]; exact this, fun e => by omega⟩
  by_cases e : j = 0
  · subst e
    intro k hk0 hkn
    exact hb.1 k hk0 hkn (by omega)
  · exact hm e

open PlainHeap in
/-- The root is taken off. -/
theorem heap_pop {lt lt' : Nat → Nat → Bool} (o : Ord lt') {n : Nat} {H : Nat → Nat} (h : Heap lt (n + 1) H) (ha : ∀ j, 0 < j → j < n + 1 → ∀ k, 0 < k → k < n + 1 → lt' (H j) (H k) = lt (H j) (H k)) : Heap lt' n (downF lt' n n (upd H 0 (H n)) 0) := by
  by_cases h0 : 0 < n
  · obtain ⟨j, hj, hv, hb, hm, hs⟩ := downF_heap o n n (upd H 0 (H n)) 0 (by omega) h0 ⟨fun k hk0 hkn hk hkp => by
      have := h k hk0 (by omega)
      unfold le at this ⊢
      unfold upd
      rw [if_neg hkp, if_neg hk, ha k hk0 (by omega) _ (by omega) (by omega)]; exact this, fun e => by omega⟩
    by_cases e : j = 0
    · subst e
      intro k hk0 hkn
      exact hb.1 k hk0 hkn (by omega)
    · exact hm e
  · intro k hk0 hkn; omega

open PlainHeap in
theorem mem_pop {lt : Nat → Nat → Bool} {n : Nat} {H : Nat → Nat} (y : Nat) : (∃ k, k < n ∧ downF lt n n (upd H 0 (H n)) 0 k = y) ↔ ∃ k, 0 < k ∧ k < n + 1 ∧ H k = y := by
  by_cases h0 : 0 < n
  · rw [(downF_same lt n n (upd H 0 (H n)) 0 h0).1 y]
    constructor
    · rintro ⟨k, hk, e⟩
      unfold upd at e
      split at e
      · exact ⟨n, h0, by omega, e⟩
      · exact ⟨k, by omega, by omega, e⟩
    · rintro ⟨k, hk0, hk, e⟩
      by_cases e' : k = n
      · subst e'; exact ⟨0, h0, by simp [upd, e]⟩
      · exact ⟨k, by omega, by simp [upd, show k ≠ 0 by omega, e]⟩
  · constructor
    · rintro ⟨k, hk, _⟩; omega
    · rintro ⟨k, hk0, hk, _⟩; omega

open PlainHeap in
theorem heap_push {lt : Nat → Nat → Bool} (o : Ord lt) {n x : Nat} {H : Nat → Nat} (h : Heap lt n H) : Heap lt (n + 1) (upF lt n (upd H n x) n) := by
  refine upF_heap o (n + 1) n _ n (Nat.le_refl _) (by omega) ⟨fun k hk0 hkn hk => ?_, fun _ k hk hk' => by omega⟩
  have := h k hk0 (by omega)
  unfold upd
  rw [if_neg (by omega), if_neg hk]; exact this

open PlainHeap in
theorem mem_push {lt : Nat → Nat → Bool} {n x : Nat} {H : Nat → Nat} (y : Nat) : (∃ k, k < n + 1 ∧ upF lt n (upd H n x) n k = y) ↔ y = x ∨ ∃ k, k < n ∧ H k = y := by
  rw [(upF_same lt (n + 1) n (upd H n x) n (by omega)).1 y]
  constructor
  · rintro ⟨k, hk, e⟩
    unfold upd at e
    split at e
    · exact .inl e.symm
    · exact .inr ⟨k, by omega, e⟩
  · rintro (e | ⟨k, hk, e⟩)
    · exact ⟨n, by omega, by simp [upd, e]⟩
    · exact ⟨k, by omega, by simp [upd, show k ≠ n by omega, e]⟩

/-- What 'remove' leaves. -/
def Removed (lt : Nat → Nat → Bool) (n i : Nat) (H H' : Nat → Nat) : Prop :=
  (i = n ∧ H' = H) ∨ (i < n ∧ ∃ j, j < n ∧ PlainHeap.downF lt n (n - i) (upd H i (H n)) i j = H n ∧ H' = PlainHeap.upF lt j (PlainHeap.downF lt n (n - i) (upd H i (H n)) i) j)

open PlainHeap in
theorem heap_remove {lt : Nat → Nat → Bool} (o : Ord lt) {n i : Nat} {H H' : Nat → Nat} (h : Heap lt (n + 1) H) (hj : ∀ j, j < n + 1 → ∀ k, k < n + 1 → j ≠ k → H j ≠ H k) (hr : Removed lt n i H H') : Heap lt n H' := by
  rcases hr with ⟨rfl, rfl⟩ | ⟨hi, j, hjn, hjx, rfl⟩
  · exact fun k hk0 hk => h k hk0 (by omega)
  · have off : HeapOff lt n (upd H i (H n)) i := by
      constructor
      · intro k hk0 hkn hk hkp
        have := h k hk0 (by omega)
        unfold upd
        rw [if_neg hkp, if_neg hk]; exact this
      · intro hi0 k hkn hk
        unfold upd
        rw [if_neg (by omega), if_neg (by omega)]
        have h1 := h k (by omega) (by omega)
        rw [show (k - 1) / 2 = i from by omega] at h1
        exact o.trans (h i hi0 (by omega)) h1
    obtain ⟨j', hj', hv, hb, hm, hs⟩ := downF_heap o n (n - i) (upd H i (H n)) i (by omega) hi off
    have hv' : downF lt n (n - i) (upd H i (H n)) i j' = H n := by rw [hv]; simp [upd]
    have inj := (downF_same lt n (n - i) (upd H i (H n)) i hi).2 (fun a ha b hb' hab => by
      unfold upd
      split
      · split
        · omega
        · exact hj n (by omega) b (by omega) (by omega)
      · split
        · exact hj a (by omega) n (by omega) (by omega)
        · exact hj a (by omega) b (by omega) hab)
    have e : j = j' := by
      by_cases e : j = j'
      · exact e
      · exact absurd (hjx.trans hv'.symm) (inj j hjn j' hj' e)
    subst e
    exact upF_heap o n j _ j (Nat.le_refl _) hjn hb

open PlainHeap in
theorem mem_remove {lt : Nat → Nat → Bool} {n i : Nat} {H H' : Nat → Nat} (hr : Removed lt n i H H') (y : Nat) : (∃ k, k < n ∧ H' k = y) ↔ ∃ k, k < n + 1 ∧ k ≠ i ∧ H k = y := by
  rcases hr with ⟨rfl, rfl⟩ | ⟨hi, j, hjn, hjx, rfl⟩
  · constructor
    · rintro ⟨k, hk, e⟩; exact ⟨k, by omega, by omega, e⟩
    · rintro ⟨k, hk, hki, e⟩; exact ⟨k, by omega, e⟩
  · rw [(upF_same lt n j _ j hjn).1 y, (downF_same lt n (n - i) (upd H i (H n)) i hi).1 y]
    constructor
    · rintro ⟨k, hk, e⟩
      unfold upd at e
      split at e
      · exact ⟨n, by omega, by omega, e⟩
      · exact ⟨k, by omega, by assumption, e⟩
    · rintro ⟨k, hk, hki, e⟩
      by_cases e' : k = n
      · subst e'; exact ⟨i, hi, by simp [upd, e]⟩
      · exact ⟨k, by omega, by simp [upd, hki, e]⟩

/-! ### The queue -/

/-- A held message's six cells. -/
structure MsgV where
  ts : Int
  fr : Nat
  tt : Nat
  ack : Bool
  be : Bool
  pa : Option Addr
  pl : Nat
  pc : Nat

def MsgV.cells (v : MsgV) : Array Value := #[.int .i64 v.ts, .int .u16 v.fr, .int .u16 v.tt, .bool v.ack, .bool v.be, .slice v.pa v.pl v.pc]
def zeroMsg : Array Value := #[.int .i64 0, .int .u16 0, .int .u16 0, .bool false, .bool false, .slice none 0 0]

/-- Run r holds the messages l. -/
structure Row (w : World) (mc : Nat → MsgV) (r : Rec) (l : List Nat) : Prop where
  len : r.head + l.length = r.len
  max : r.len ≤ 4096
  cap : r.len ≤ r.cap
  arr : ∃ cur, w.heap[r.g]? = some (.cells cur 65) ∧ cur.size = r.cap * 6 ∧ ∀ k, k < l.length → ∀ c, c < 6 → cur[(r.head + k) * 6 + c]? = (mc l[k]!).cells[c]?

def tsOf (mc : Nat → MsgV) (ids : Nat → List Nat) (x : Nat) : Int := match ids x with
  | [] => 0
  | i :: _ => (mc i).ts

structure QI (N : Nat) (w : World) (q : Nat) (mv lv : Value) (m : Nat) (bk snd : Nat → Nat) (mc : Nat → MsgV) (ids : Nat → List Nat) (rc : Nat → Rec) (at_ : Nat → Nat) (n : Nat) (H : Nat → Nat) : Prop where
  qs : QS N w q mv lv m rc at_ (tsOf mc ids) n H
  heap : PlainHeap.Heap (ltR (tsOf mc ids) rc) n H
  same : ∀ x, x < m → (rc x).blk = bk x ∧ (rc x).snd = snd x
  row : ∀ x, x < m → Row w mc (rc x) (ids x)
  ginj : ∀ x, x < m → ∀ y, y < m → x ≠ y → (rc x).g ≠ (rc y).g
  gN : ∀ x, x < m → N ≤ (rc x).g
  mem : ∀ x, x < m → ((∃ k, k < n ∧ H k = x) ↔ ids x ≠ [])
  fr : ∀ x, x < m → ∀ i, i ∈ ids x → (mc i).fr = snd x

theorem Row.head {w : World} {mc : Nat → MsgV} {r : Rec} {i : Nat} {l : List Nat} (h : Row w mc r (i :: l)) : ∃ cur, w.heap[r.g]? = some (.cells cur 65) ∧ cur.size = r.cap * 6 ∧ ∀ c, c < 6 → cur[r.head * 6 + c]? = (mc i).cells[c]? := by
  obtain ⟨cur, h1, h2, h3⟩ := h.arr
  refine ⟨cur, h1, h2, fun c hc => ?_⟩
  simpa using h3 0 (by simp) c hc

theorem Row.headIs {w : World} {mc : Nat → MsgV} {r : Rec} {i : Nat} {l : List Nat} (h : Row w mc r (i :: l)) : HeadIs w r (mc i).ts (mc i).fr := by
  obtain ⟨cur, h1, _, h3⟩ := h.head
  have hl := h.len
  simp at hl
  exact ⟨by omega, h.max, cur, h1, by simpa [MsgV.cells] using h3 0 (by omega), by simpa [MsgV.cells] using h3 1 (by omega)⟩

theorem Row.keep {w w' : World} {mc : Nat → MsgV} {r : Rec} {l : List Nat} (h : Row w mc r l) (hk : w'.heap[r.g]? = w.heap[r.g]?) : Row w' mc r l :=
  ⟨h.len, h.max, h.cap, by rw [hk]; exact h.arr⟩

/-- The first message is let go. -/
theorem Row.tail {w w' : World} {mc : Nat → MsgV} {r : Rec} {i : Nat} {l : List Nat} (h : Row w mc r (i :: l)) {cur' : Array Value} (hg : w'.heap[r.g]? = some (.cells cur' 65)) (hc : ∀ cur, w.heap[r.g]? = some (.cells cur 65) → cur'.size = cur.size ∧ ∀ j, r.head * 6 + 6 ≤ j → cur'[j]? = cur[j]?) :
    Row w' mc { r with head := r.head + 1 } l := by
  obtain ⟨cur, h1, h2, h3⟩ := h.arr
  obtain ⟨e1, e2⟩ := hc cur h1
  have hl := h.len
  simp at hl
  refine ⟨by show r.head + 1 + l.length = r.len; omega, h.max, h.cap, cur', hg, by rw [e1]; exact h2, fun k hk c hc' => ?_⟩
  have := h3 (k + 1) (by simp; omega) c hc'
  simp only [List.getElem!_cons_succ] at this
  show cur'[(r.head + 1 + k) * 6 + c]? = _
  rw [e2 _ (by omega), ← this]
  congr 1
  omega

end Go.Proofs.Qxb6601345a
