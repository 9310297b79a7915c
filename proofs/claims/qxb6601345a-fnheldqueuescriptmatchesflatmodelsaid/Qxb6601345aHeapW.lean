import Derived.Test.Qxb6601345aIds
import Derived.Test.Qxb6601345aPlainHeap
import Derived.WalkSpells
namespace Go.Proofs.Qxb6601345a
open Go.RowKit
set_option linter.unusedVariables false
set_option linter.unusedSimpArgs false

/-! ### Blocks -/

theorem cell_of {w : World} {b o : Nat} {c : Array Value} {e : TypeId} {f : Nat × Nat} (h : w.heap[b]? = some (.cells c e f)) : w.cell? ⟨b, o, none⟩ = c[o]? := by
  simp [World.cell?, h]
theorem frozen_of {w : World} {b o : Nat} {c : Array Value} {e : TypeId} (h : w.heap[b]? = some (.cells c e)) : w.frozen? ⟨b, o, none⟩ = false := by
  simp [World.frozen?, h]
theorem block_lt {w : World} {b : Nat} {o : Obj} (h : w.heap[b]? = some o) : b < w.heap.size := by
  by_cases hb : b < w.heap.size
  · exact hb
  · rw [Array.getElem?_eq_none (by omega)] at h; cases h
theorem set_block {w : World} {b o : Nat} {c : Array Value} {e : TypeId} {f : Nat × Nat} (h : w.heap[b]? = some (.cells c e f)) (v : Value) :
    (w.setCell ⟨b, o, none⟩ v).heap[b]? = some (.cells (c.setIfInBounds o v) e f) := by
  simp [World.setCell, Array.getElem?_modify, h]
theorem set_other {w : World} {b o b' : Nat} (v : Value) (h : b' ≠ b) : (w.setCell ⟨b, o, none⟩ v).heap[b']? = w.heap[b']? :=
  Below.heap_setCell w ⟨b, o, none⟩ v b' h
theorem alloc_old {w : World} {b : Nat} {o : Obj} (o' : Obj) (h : w.heap[b]? = some o) : (w.alloc o').heap[b]? = some o := by
  rw [Below.heap_alloc _ _ _ (block_lt h)]; exact h

/-! ### The frame: blocks below N, and blocks of other types than T's, are as they were -/

structure Fr (N : Nat) (T : List Nat) (w w' : World) : Prop where
  below : Below N w w'
  other : ∀ b, b < w.heap.size → (∀ c e f, w.heap[b]? = some (.cells c e f) → e ∉ T) → w'.heap[b]? = w.heap[b]?

theorem Fr.refl (N : Nat) (T : List Nat) (w : World) : Fr N T w w := ⟨Below.refl _ _, fun _ _ _ => rfl⟩
theorem Fr.trans {N : Nat} {T : List Nat} {a b c : World} (h : Fr N T a b) (k : Fr N T b c) : Fr N T a c := by
  refine ⟨h.below.trans k.below, fun x hx ht => ?_⟩
  have e := h.other x hx ht
  rw [← e]
  exact k.other x (Nat.lt_of_lt_of_le hx h.below.size) (fun c e' f hc => ht c e' f (by rw [← e]; exact hc))
theorem Fr.mono {N : Nat} {T T' : List Nat} {a b : World} (h : Fr N T a b) (hT : ∀ t, t ∈ T → t ∈ T') : Fr N T' a b :=
  ⟨h.below, fun x hx ht => h.other x hx (fun c e f hc hm => ht c e f hc (hT _ hm))⟩
theorem Fr.less {N N' : Nat} {T : List Nat} {a b : World} (h : Fr N T a b) (hN : N' ≤ N) : Fr N' T a b := ⟨h.below.mono hN, h.other⟩
theorem Fr.drewN {N : Nat} {T : List Nat} {a b : World} (h : Fr N T a b) (n : Nat) : Fr N T a (b.drewN n) :=
  ⟨h.below.trans ⟨rfl, rfl, rfl, Nat.le_refl _, fun _ _ => rfl⟩, h.other⟩
theorem Fr.drew {N : Nat} {T : List Nat} {a b : World} (h : Fr N T a b) : Fr N T a b.drew := h.drewN 1
theorem Fr.drawn {N : Nat} {T : List Nat} {a b c : World} (h : Fr N T a b) (k : Drawn b c) : Fr N T a c := by
  obtain ⟨n, rfl⟩ := k
  exact h.drewN n
theorem Fr.alloc {N : Nat} {T : List Nat} {a b : World} (h : Fr N T a b) (hN : N ≤ b.heap.size) (o : Obj) : Fr N T a (b.alloc o) :=
  h.trans ⟨(Below.refl _ _).alloc hN o, fun x hx _ => Below.heap_alloc _ _ _ hx⟩
theorem Fr.set {N : Nat} {T : List Nat} {a b : World} (h : Fr N T a b) {x o : Nat} {c : Array Value} {e : TypeId} {f : Nat × Nat} (hb : b.heap[x]? = some (.cells c e f)) (he : e ∈ T) (hN : N ≤ x) (v : Value) : Fr N T a (b.setCell ⟨x, o, none⟩ v) :=
  h.trans ⟨(Below.refl _ _).setCell hN v, fun y hy ht => by
    by_cases e' : y = x
    · subst e'; exact absurd he (ht c e f hb)
    · exact set_other v e'⟩
theorem Fr.keep {N : Nat} {T : List Nat} {w w' : World} (h : Fr N T w w') {b : Nat} {c : Array Value} {e : TypeId} {f : Nat × Nat} (hb : w.heap[b]? = some (.cells c e f)) (he : e ∉ T) : w'.heap[b]? = some (.cells c e f) := by
  rw [h.other b (block_lt hb) (fun c' e' f' hc => by rw [hb] at hc; simp only [Option.some.injEq, Obj.cells.injEq] at hc; rw [← hc.2.1]; exact he)]
  exact hb

/-! ### Runs and the heap's row -/

/-- A run: its block; its sender; its row of messages (block, length, capacity); its head. -/
structure Rec where
  blk : Nat
  snd : Nat
  g : Nat
  len : Nat
  cap : Nat
  head : Nat

def recObj (r : Rec) (a : Nat) : Obj := .cells #[.int .u16 r.snd, .slice (some ⟨r.g, 0, none⟩) r.len r.cap, .int .i64 r.head, .int .i64 a] 80

/-- The first message that run r holds is stamped t, by sender s. -/
def HeadIs (w : World) (r : Rec) (t : Int) (s : Nat) : Prop :=
  r.head < r.len ∧ r.len ≤ 4096 ∧ ∃ cur, w.heap[r.g]? = some (.cells cur 65) ∧ cur[r.head * 6]? = some (.int .i64 t) ∧ cur[r.head * 6 + 1]? = some (.int .u16 s)

def ltK (t : Int) (s : Nat) (t' : Int) (s' : Nat) : Bool := decide (t < t') || (decide (t = t') && decide (s < s'))

theorem ret_bool {x y : Bool} (h : x = y) : Ending.returned (Value.bool x) = .returned (.bool y) := by rw [h]

set_option maxHeartbeats 400000 in
theorem before_any (p q : Rec) (a b : Nat) (t t' : Int) (s s' : Nat) (w : World) (hp : w.heap[p.blk]? = some (recObj p a)) (hq : w.heap[q.blk]? = some (recObj q b)) (kp : HeadIs w p t s) (kq : HeadIs w q t' s') :
    Calls Try.prog 47 #[.pointer (some ⟨p.blk, 0, none⟩), .pointer (some ⟨q.blk, 0, none⟩)] w fun e w' => e = .returned (.bool (ltK t s t' s')) ∧ Drawn w w' := by
  obtain ⟨k1, k1', c1, hg1, x1, y1⟩ := kp
  obtain ⟨k2, k2', c2, hg2, x2, y2⟩ := kq
  have p1 : w.cell? ⟨p.blk, 1, none⟩ = some (.slice (some ⟨p.g, 0, none⟩) p.len p.cap) := by rw [cell_of hp]; rfl
  have p2 : w.cell? ⟨p.blk, 2, none⟩ = some (.int .i64 p.head) := by rw [cell_of hp]; rfl
  have q1 : w.cell? ⟨q.blk, 1, none⟩ = some (.slice (some ⟨q.g, 0, none⟩) q.len q.cap) := by rw [cell_of hq]; rfl
  have q2 : w.cell? ⟨q.blk, 2, none⟩ = some (.int .i64 q.head) := by rw [cell_of hq]; rfl
  have m1 : w.cell? ⟨p.g, p.head * 6, none⟩ = some (.int .i64 t) := by rw [cell_of hg1]; exact x1
  have m2 : w.cell? ⟨p.g, p.head * 6 + 1, none⟩ = some (.int .u16 s) := by rw [cell_of hg1]; exact y1
  have n1 : w.cell? ⟨q.g, q.head * 6, none⟩ = some (.int .i64 t') := by rw [cell_of hg2]; exact x2
  have n2 : w.cell? ⟨q.g, q.head * 6 + 1, none⟩ = some (.int .u16 s') := by rw [cell_of hg2]; exact y2
  clear hp hq hg1 hg2 x1 x2 y1 y2
  obtain ⟨pb, ps, pg, pl, pc, ph⟩ := p
  obtain ⟨qb, qs, qg, ql, qc, qh⟩ := q
  simp only at *
  have hh1 : (ph : Int) < (pl : Int) := by omega
  have hh2 : (qh : Int) < (ql : Int) := by omega
  by_cases ht : t = t'
  · subst ht
    have hb : (t != t) = false := by simp
    go_enter Try.func47, Try.ntmps47
    go_wp2
    go_quiet (fail)
    go_wp2
    go_quiet (fail)
    go_wp2
    go_quiet (fail)
    go_wp2
    go_ret
    exact ⟨ret_bool (by simp [ltK]), by repeat (first | exact Drawn.refl _ | apply Drawn.next | apply Drawn.drew)⟩
  · have hb : (t != t') = true := by simp [ht]
    go_enter Try.func47, Try.ntmps47
    go_wp2
    go_quiet (fail)
    go_wp2
    go_quiet (fail)
    go_wp2
    go_quiet (fail)
    go_wp2
    go_ret
    exact ⟨ret_bool (by simp [ltK, ht]), by repeat (first | exact Drawn.refl _ | apply Drawn.next | apply Drawn.drew)⟩

/-- A pointer to run r. -/
def ptrTo (r : Rec) : Value := .pointer (some ⟨r.blk, 0, none⟩)

/-- The runs 0 .. m - 1 (their 'at' cells hold at_), and the heap's row T: but for the place 'hole' its k-th cell leads to run H k. ts: the stamp of a run's first message. -/
structure HS (w : World) (m : Nat) (rc : Nat → Rec) (at_ : Nat → Nat) (ts : Nat → Int) (T cap n hole : Nat) (H : Nat → Nat) : Prop where
  run : ∀ x, x < m → w.heap[(rc x).blk]? = some (recObj (rc x) (at_ x))
  inj : ∀ x, x < m → ∀ y, y < m → x ≠ y → (rc x).blk ≠ (rc y).blk
  arr : ∃ cur, w.heap[T]? = some (.cells cur 76) ∧ cur.size = cap ∧ ∀ k, k < n → k ≠ hole → cur[k]? = some (ptrTo (rc (H k)))
  dom : ∀ k, k < n → H k < m
  hinj : ∀ j, j < n → ∀ k, k < n → j ≠ k → H j ≠ H k
  key : ∀ x, (∃ k, k < n ∧ H k = x) → HeadIs w (rc x) (ts x) (rc x).snd
  ncap : n ≤ cap
  nmax : n ≤ 4096
  cmax : cap ≤ maxLen

theorem HS.ne {w : World} {m : Nat} {rc : Nat → Rec} {at_ : Nat → Nat} {ts : Nat → Int} {T cap n hole : Nat} {H : Nat → Nat} (h : HS w m rc at_ ts T cap n hole H) {x : Nat} (hx : x < m) : T ≠ (rc x).blk := by
  intro e
  obtain ⟨cur, hc, _⟩ := h.arr
  have hr := h.run x hx
  rw [← e, hc] at hr
  simp [recObj] at hr

theorem HeadIs.keep {w w' : World} {r : Rec} {t : Int} {s : Nat} (h : HeadIs w r t s) (hk : ∀ c, w.heap[r.g]? = some (.cells c 65) → w'.heap[r.g]? = w.heap[r.g]?) : HeadIs w' r t s := by
  obtain ⟨h1, h2, c, h3, h4⟩ := h
  exact ⟨h1, h2, c, (hk c h3).trans h3, h4⟩

def upd (f : Nat → Nat) (x v : Nat) : Nat → Nat := fun y => if y = x then v else f y

/-- Run x is put at place i of the row, and told so. -/
theorem HS.put {w : World} {m : Nat} {rc : Nat → Rec} {at_ : Nat → Nat} {ts : Nat → Int} {T cap n hole : Nat} {H : Nat → Nat} (h : HS w m rc at_ ts T cap n hole H) (i x : Nat) (hi : i < n) (hx : x < m)
    (hole' : Nat) (H' : Nat → Nat) (hS : PlainHeap.Same n H H') (hH : ∀ k, k < n → k ≠ hole' → (k = i ∧ H' k = x) ∨ (k ≠ i ∧ k ≠ hole ∧ H' k = H k)) :
    HS ((w.setCell ⟨T, i, none⟩ (ptrTo (rc x))).setCell ⟨(rc x).blk, 3, none⟩ (.int .i64 i)) m rc (upd at_ x i) ts T cap n hole' H' := by
  have hne := h.ne hx
  obtain ⟨cur, hc, hcs, hca⟩ := h.arr
  have hr := h.run x hx
  have hb1 : (w.setCell ⟨T, i, none⟩ (ptrTo (rc x))).heap[(rc x).blk]? = some (recObj (rc x) (at_ x)) := by rw [set_other _ (fun e => hne e.symm)]; exact hr
  have oth : ∀ b, b ≠ T → b ≠ (rc x).blk → ((w.setCell ⟨T, i, none⟩ (ptrTo (rc x))).setCell ⟨(rc x).blk, 3, none⟩ (.int .i64 i)).heap[b]? = w.heap[b]? :=
    fun b h1 h2 => (set_other _ h2).trans (set_other _ h1)
  refine ⟨fun y hy => ?_, h.inj, ⟨cur.setIfInBounds i (ptrTo (rc x)), ?_, by simp [hcs], fun k hk hk' => ?_⟩, fun k hk => ?_, hS.2 h.hinj, fun y hy => ?_, h.ncap, h.nmax, h.cmax⟩
  · by_cases e : y = x
    · subst e
      rw [set_block (e := 80) (f := (0, 0)) hb1]
      simp [recObj, upd]
    · rw [oth _ (fun e' => h.ne hy e'.symm) (h.inj y hy x hx e), h.run y hy]
      simp [upd, e]
  · rw [set_other _ hne, set_block hc]
  · rcases hH k hk hk' with ⟨rfl, e⟩ | ⟨h1, h2, e⟩
    · rw [Array.getElem?_setIfInBounds_self_of_lt (by have := h.ncap; omega), e]
    · rw [Array.getElem?_setIfInBounds_ne (by omega), e]; exact hca k hk h2
  · obtain ⟨j, hj, e⟩ := (hS.1 (H' k)).1 ⟨k, hk, rfl⟩
    rw [← e]; exact h.dom j hj
  · refine (h.key y ((hS.1 y).1 hy)).keep fun c hg => oth _ (fun e => ?_) (fun e => ?_)
    · rw [e, hc] at hg; simp at hg
    · rw [e, hr] at hg; simp [recObj] at hg

theorem HS.drawn {w w' : World} {m : Nat} {rc : Nat → Rec} {at_ : Nat → Nat} {ts : Nat → Int} {T cap n hole : Nat} {H : Nat → Nat} (h : HS w m rc at_ ts T cap n hole H) (hd : Drawn w w') : HS w' m rc at_ ts T cap n hole H := by
  obtain ⟨k, rfl⟩ := hd
  exact ⟨h.run, h.inj, h.arr, h.dom, h.hinj, h.key, h.ncap, h.nmax, h.cmax⟩

end Go.Proofs.Qxb6601345a
