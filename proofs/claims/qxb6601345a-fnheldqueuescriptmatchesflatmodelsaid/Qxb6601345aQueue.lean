import Derived.Test.Qxb6601345aHeapLaw
namespace Go.Proofs.Qxb6601345a
open Go.RowKit
set_option linter.unusedVariables false
set_option linter.unusedSimpArgs false

theorem gen_world {prog : Program} {code : Code} {Q : Exit → Act → World → Prop} {a : Act} {w : World} (P : World → Prop) (hw : P w) (h : ∀ wr, P wr → Code.wp prog code Q a wr) : Code.wp prog code Q a w := h w hw

/-- The run's first message is out: the message lies in the second new block. -/
structure TakeMid (N : Nat) (w wr : World) (b g hd : Nat) (rob : Obj) (mcells : Array Value) : Prop where
  fr : Fr N [65, 80] w wr
  size : wr.heap.size = w.heap.size + 2
  old : ∀ c, c < w.heap.size → c ≠ g → c ≠ b → wr.heap[c]? = w.heap[c]?
  rb : wr.heap[b]? = some rob
  rg : ∀ cur, w.heap[g]? = some (.cells cur 65) → ∃ cur', wr.heap[g]? = some (.cells cur' 65) ∧ cur'.size = cur.size ∧ ∀ j, hd * 6 + 6 ≤ j → cur'[j]? = cur[j]?
  z : wr.heap[w.heap.size]? = some (.cells zeroMsg 65)
  m : wr.heap[w.heap.size + 1]? = some (.cells mcells 65)

theorem set_size (w : World) (x : Addr) (v : Value) : (w.setCell x v).heap.size = w.heap.size := by
  simp [World.setCell]
theorem alloc_size (w : World) (o : Obj) : (w.alloc o).heap.size = w.heap.size + 1 := by simp
theorem alloc_new (w : World) (o : Obj) : (w.alloc o).heap[w.heap.size]? = some o := heap_alloc_new w o

theorem take_mid (N : Nat) (w : World) (b g hd ln cp a : Nat) (pa : Option Addr) (pl pc : Nat) (t : Int) (s o : Nat) (ak be : Bool) (cm : Array Value)
    (hb : w.heap[b]? = some (.cells #[.int .u16 s, .slice (some ⟨g, 0, none⟩) ln cp, .int .i64 hd, .int .i64 a] 80))
    (hg : w.heap[g]? = some (.cells cm 65)) (hgb : g ≠ b) (hNb : N ≤ b) (hNg : N ≤ g) :
    TakeMid N w ((((((((((w.setCell ⟨g, hd * 6, none⟩ (.int .i64 0)).setCell ⟨g, hd * 6 + 1, none⟩ (.int .u16 0)).setCell ⟨g, hd * 6 + 2, none⟩ (.int .u16 0)).setCell ⟨g, hd * 6 + 3, none⟩ (.bool false)).setCell
      ⟨g, hd * 6 + 4, none⟩ (.bool false)).setCell ⟨g, hd * 6 + 5, none⟩ (.slice none 0 0)).setCell ⟨b, 2, none⟩ (.int .i64 (hd + 1))).alloc (.cells #[.int .i64 0, .int .u16 0, .int .u16 0, .bool false, .bool false, .slice none 0 0] 65)).alloc
      (.cells #[.int .i64 t, .int .u16 s, .int .u16 o, .bool ak, .bool be, .slice pa pl pc] 65)).drew.drew) b g hd
      (.cells #[.int .u16 s, .slice (some ⟨g, 0, none⟩) ln cp, .int .i64 (hd + 1), .int .i64 a] 80) #[.int .i64 t, .int .u16 s, .int .u16 o, .bool ak, .bool be, .slice pa pl pc] := by
  have s0 := set_block (o := hd * 6) hg (.int .i64 0)
  have s1 := set_block (o := hd * 6 + 1) s0 (.int .u16 0)
  have s2 := set_block (o := hd * 6 + 2) s1 (.int .u16 0)
  have s3 := set_block (o := hd * 6 + 3) s2 (.bool false)
  have s4 := set_block (o := hd * 6 + 4) s3 (.bool false)
  have s5 := set_block (o := hd * 6 + 5) s4 (.slice none 0 0)
  have f5 : Fr N [65, 80] w _ := ((((((Fr.refl N [65, 80] w).set (o := hd * 6) hg (by simp) hNg (.int .i64 0)).set (o := hd * 6 + 1) s0 (by simp) hNg (.int .u16 0)).set (o := hd * 6 + 2) s1 (by simp) hNg (.int .u16 0)).set (o := hd * 6 + 3) s2 (by simp) hNg (.bool false)).set (o := hd * 6 + 4) s3 (by simp) hNg (.bool false)).set (o := hd * 6 + 5) s4 (by simp) hNg (.slice none 0 0)
  have o5 : ∀ c, c ≠ g → ((((((w.setCell ⟨g, hd * 6, none⟩ (.int .i64 0)).setCell ⟨g, hd * 6 + 1, none⟩ (.int .u16 0)).setCell ⟨g, hd * 6 + 2, none⟩ (.int .u16 0)).setCell ⟨g, hd * 6 + 3, none⟩ (.bool false)).setCell
      ⟨g, hd * 6 + 4, none⟩ (.bool false)).setCell ⟨g, hd * 6 + 5, none⟩ (.slice none 0 0)).heap[c]? = w.heap[c]? := fun c hc => by
    rw [set_other _ hc, set_other _ hc, set_other _ hc, set_other _ hc, set_other _ hc, set_other _ hc]
  have z5 : ((((((w.setCell ⟨g, hd * 6, none⟩ (.int .i64 0)).setCell ⟨g, hd * 6 + 1, none⟩ (.int .u16 0)).setCell ⟨g, hd * 6 + 2, none⟩ (.int .u16 0)).setCell ⟨g, hd * 6 + 3, none⟩ (.bool false)).setCell
      ⟨g, hd * 6 + 4, none⟩ (.bool false)).setCell ⟨g, hd * 6 + 5, none⟩ (.slice none 0 0)).heap.size = w.heap.size := by
    simp only [set_size]
  generalize ((((((w.setCell ⟨g, hd * 6, none⟩ (.int .i64 0)).setCell ⟨g, hd * 6 + 1, none⟩ (.int .u16 0)).setCell ⟨g, hd * 6 + 2, none⟩ (.int .u16 0)).setCell ⟨g, hd * 6 + 3, none⟩ (.bool false)).setCell
      ⟨g, hd * 6 + 4, none⟩ (.bool false)).setCell ⟨g, hd * 6 + 5, none⟩ (.slice none 0 0)) = w5 at *
  have b5 := (o5 b (Ne.symm hgb)).trans hb
  have b6 := set_block (o := 2) b5 (.int .i64 (hd + 1))
  have f6 := f5.set (o := 2) b5 (by simp) hNb (.int .i64 (hd + 1))
  have o6 : ∀ c, c ≠ b → (w5.setCell ⟨b, 2, none⟩ (.int .i64 (hd + 1))).heap[c]? = w5.heap[c]? := fun c hc => set_other _ hc
  have z6 : (w5.setCell ⟨b, 2, none⟩ (.int .i64 (hd + 1))).heap.size = w.heap.size := by rw [set_size, z5]
  generalize w5.setCell ⟨b, 2, none⟩ (.int .i64 (hd + 1)) = w6 at *
  have lb := block_lt hb
  have lg := block_lt hg
  have al : ∀ (o1 o2 : Obj) c, c < w.heap.size → ((w6.alloc o1).alloc o2).heap[c]? = w6.heap[c]? := fun o1 o2 c hc => by
    rw [Below.heap_alloc _ _ _ (by rw [alloc_size, z6]; omega), Below.heap_alloc _ _ _ (by rw [z6]; exact hc)]
  refine ⟨((f6.alloc (by rw [z6]; omega) _).alloc (by rw [alloc_size, z6]; omega) _).drew.drew, ?_, fun c hc h1 h2 => ?_, ?_, fun cur hc => ?_, ?_, ?_⟩
  · show ((w6.alloc _).alloc _).heap.size = _
    rw [alloc_size, alloc_size, z6]
  · exact (al _ _ c hc).trans ((o6 c h2).trans (o5 c h1))
  · exact (al _ _ b lb).trans b6
  · rw [hg] at hc
    simp only [Option.some.injEq, Obj.cells.injEq, and_true] at hc
    subst hc
    refine ⟨_, (al _ _ g lg).trans ((o6 g hgb).trans s5), by simp, fun j hj => ?_⟩
    rw [Array.getElem?_setIfInBounds_ne (by omega), Array.getElem?_setIfInBounds_ne (by omega), Array.getElem?_setIfInBounds_ne (by omega), Array.getElem?_setIfInBounds_ne (by omega), Array.getElem?_setIfInBounds_ne (by omega), Array.getElem?_setIfInBounds_ne (by omega)]
  · show ((w6.alloc _).alloc _).heap[w.heap.size]? = _
    rw [Below.heap_alloc _ _ _ (by rw [alloc_size, z6]; omega), ← z6, alloc_new]; rfl
  · show ((w6.alloc _).alloc _).heap[w.heap.size + 1]? = _
    have := alloc_new (w6.alloc (.cells #[.int .i64 0, .int .u16 0, .int .u16 0, .bool false, .bool false, .slice none 0 0] 65)) (.cells #[.int .i64 t, .int .u16 s, .int .u16 o, .bool ak, .bool be, .slice pa pl pc] 65)
    rw [alloc_size, z6] at this
    exact this


theorem QS.next {N : Nat} {w w' : World} {q : Nat} {mv lv : Value} {m : Nat} {rc rc' : Nat → Rec} {at_ : Nat → Nat} {ts ts' : Nat → Int} {n : Nat} {H : Nat → Nat} (h : QS N w q mv lv m rc at_ ts n H)
    (hblk : ∀ y, y < m → (rc' y).blk = (rc y).blk) (hrun : ∀ y, y < m → w'.heap[(rc y).blk]? = some (recObj (rc' y) (at_ y))) (hq : w'.heap[q]? = w.heap[q]?)
    (hT : ∀ (T : Nat) (c : Array Value), w.heap[T]? = some (Obj.cells c 76) → w'.heap[T]? = some (Obj.cells c 76)) (hkey : ∀ k, k < n → HeadIs w' (rc' (H k)) (ts' (H k)) (rc' (H k)).snd) : QS N w' q mv lv m rc' at_ ts' n H := by
  refine ⟨fun x hx => by rw [hblk x hx]; exact hrun x hx, fun x hx y hy hxy => by rw [hblk x hx, hblk y hy]; exact h.inj x hx y hy hxy, fun x hx => by rw [hblk x hx]; exact h.own x hx, ?_, h.qN, h.dom, h.hinj,
    fun x hx => ?_, h.told, h.nmax⟩
  · obtain ⟨ta, tc, h1, h2⟩ := h.top
    have e : ptrs rc' n H = ptrs rc n H := by
      unfold ptrs
      apply List.map_congr_left
      intro k hk
      have := List.mem_range.1 hk
      simp [ptrTo, hblk _ (h.dom k this)]
    refine ⟨ta, tc, hq.trans h1, ?_⟩
    rw [e]
    refine ⟨h2.1, ?_⟩
    rcases h2.2 with h3 | ⟨g, cap, cur, e1, e2, e3, e4⟩
    · exact .inl h3
    · exact .inr ⟨g, cap, cur, e1, e2, hT _ _ e3, e4⟩
  · obtain ⟨k, hk, rfl⟩ := hx
    exact hkey k hk

theorem QB.next {N : Nat} {w w' : World} {q : Nat} {mv lv : Value} {m : Nat} {rc rc' : Nat → Rec} {at_ : Nat → Nat} {T cap n : Nat} {H : Nat → Nat} (h : QB N w q mv lv m rc at_ T cap n H)
    (hblk : ∀ y, y < m → (rc' y).blk = (rc y).blk) (hrun : ∀ y, y < m → w'.heap[(rc y).blk]? = some (recObj (rc' y) (at_ y))) (hq : w'.heap[q]? = w.heap[q]?)
    (hT : w'.heap[T]? = w.heap[T]?) : QB N w' q mv lv m rc' at_ T cap n H := by
  refine ⟨fun x hx => by rw [hblk x hx]; exact hrun x hx, fun x hx y hy hxy => by rw [hblk x hx, hblk y hy]; exact h.inj x hx y hy hxy, fun x hx => by rw [hblk x hx]; exact h.own x hx, hq.trans h.top, ?_, h.TN, h.qN, h.dom, h.hinj, h.told, h.ncap, h.nmax, h.cmax⟩
  obtain ⟨cur, h1, h2, h3⟩ := h.arr
  exact ⟨cur, hT.trans h1, h2, fun k hk => by rw [h3 k hk]; simp [ptrTo, hblk _ (h.dom k hk)]⟩

theorem QB.toHS {N : Nat} {w : World} {q : Nat} {mv lv : Value} {m : Nat} {rc : Nat → Rec} {at_ : Nat → Nat} {ts : Nat → Int} {T cap n : Nat} {H : Nat → Nat} (h : QB N w q mv lv m rc at_ T cap n H) (hk : ∀ k, k < n → HeadIs w (rc (H k)) (ts (H k)) (rc (H k)).snd) : HS w m rc at_ ts T cap n n H := by
  obtain ⟨cur, h1, h2, h3⟩ := h.arr
  exact ⟨h.run, h.inj, ⟨cur, h1, h2, fun k hk _ => h3 k hk⟩, h.dom, h.hinj, fun x ⟨k, hk', e⟩ => e ▸ hk k hk', h.ncap, h.nmax, h.cmax⟩

def updR (f : Nat → Rec) (x : Nat) (v : Rec) : Nat → Rec := fun y => if y = x then v else f y
def updL (f : Nat → List Nat) (x : Nat) (v : List Nat) : Nat → List Nat := fun y => if y = x then v else f y

theorem updR_same (f : Nat → Rec) (x : Nat) (v : Rec) : updR f x v x = v := by simp [updR]
theorem updR_ne (f : Nat → Rec) (x : Nat) (v : Rec) {y : Nat} (h : y ≠ x) : updR f x v y = f y := by simp [updR, h]
theorem updL_same (f : Nat → List Nat) (x : Nat) (v : List Nat) : updL f x v x = v := by simp [updL]
theorem updL_ne (f : Nat → List Nat) (x : Nat) (v : List Nat) {y : Nat} (h : y ≠ x) : updL f x v y = f y := by simp [updL, h]

section
variable {N : Nat} {w : World} {q : Nat} {mv lv : Value} {m : Nat} {bk snd : Nat → Nat} {mc : Nat → MsgV} {ids : Nat → List Nat} {rc : Nat → Rec} {at_ : Nat → Nat} {n : Nat} {H : Nat → Nat}

theorem QI.keep (h : QI N w q mv lv m bk snd mc ids rc at_ n H) {w' : World} (hk : ∀ c, c < w.heap.size → w'.heap[c]? = w.heap[c]?) : QI N w' q mv lv m bk snd mc ids rc at_ n H := by
  have hk' : ∀ {b : Nat} {o : Obj}, w.heap[b]? = some o → w'.heap[b]? = some o := fun e => (hk _ (block_lt e)).trans e
  refine ⟨h.qs.next (fun _ _ => rfl) (fun y hy => hk' (h.qs.run y hy)) ?_ (fun T c e => hk' e) (fun k hk2 => ?_), h.heap, h.same, fun x hx => (h.row x hx).keep ?_, h.ginj, h.gN, h.mem, h.fr⟩
  · obtain ⟨_, _, e, _⟩ := h.qs.top
    exact hk _ (block_lt e)
  · exact (h.qs.key _ ⟨k, hk2, rfl⟩).keep fun c e => hk _ (block_lt e)
  · obtain ⟨c, e, _⟩ := (h.row x hx).arr
    exact hk _ (block_lt e)

/-- Message i is the first that run x holds, and no other run's first comes before it. -/
structure First (m : Nat) (snd : Nat → Nat) (mc : Nat → MsgV) (ids : Nat → List Nat) (x i : Nat) (l : List Nat) : Prop where
  lt : x < m
  eq : ids x = i :: l
  min : ∀ y, y < m → ∀ j l', ids y = j :: l' → ltK (mc j).ts (snd y) (mc i).ts (snd x) = false

/-- A block of type 65 that no run leads to has changed, or new blocks were made. -/
theorem QI.keep1 (h : QI N w q mv lv m bk snd mc ids rc at_ n H) {w' : World} {z : Nat} {cz : Array Value} (hz : w.heap[z]? = some (.cells cz 65)) (hgz : ∀ x, x < m → (rc x).g ≠ z) (hk : ∀ c, c ≠ z → w'.heap[c]? = w.heap[c]?) : QI N w' q mv lv m bk snd mc ids rc at_ n H := by
  have hk' : ∀ {b : Nat} {c : Array Value} {e : TypeId}, e ≠ 65 → w.heap[b]? = some (.cells c e) → w'.heap[b]? = some (.cells c e) := fun {b c e} he h1 => by
    rw [hk b (fun e' => ?_), h1]
    rw [e', hz] at h1
    simp at h1
    exact he h1.2.symm
  refine ⟨h.qs.next (fun _ _ => rfl) (fun y hy => hk' (by decide) (h.qs.run y hy)) ?_ (fun T c e => hk' (by decide) e) (fun k hk2 => ?_), h.heap, h.same, fun x hx => (h.row x hx).keep (hk _ (hgz x hx)), h.ginj, h.gN, h.mem, h.fr⟩
  · obtain ⟨_, _, e, _⟩ := h.qs.top
    rw [e]; exact hk' (by decide) e
  · exact (h.qs.key _ ⟨k, hk2, rfl⟩).keep fun c e => hk _ (hgz _ (h.qs.dom k hk2))

theorem QI.first (h : QI N w q mv lv m bk snd mc ids rc at_ n H) (h0 : 0 < n) : ∃ i l, First m snd mc ids (H 0) i l := by
  have hx := h.qs.dom 0 h0
  have hne := (h.mem (H 0) hx).1 ⟨0, h0, rfl⟩
  obtain ⟨i, l, e⟩ : ∃ i l, ids (H 0) = i :: l := by
    cases e : ids (H 0) with
    | nil => exact absurd e hne
    | cons i l => exact ⟨i, l, rfl⟩
  refine ⟨i, l, hx, e, fun y hy j l' e' => ?_⟩
  obtain ⟨k, hk, rfl⟩ := (h.mem y hy).2 (by rw [e']; simp)
  have := PlainHeap.heap_root (ltR_ord _ _) n H h.heap k hk
  unfold PlainHeap.le ltR at this
  rw [(h.same _ hx).2, (h.same _ hy).2] at this
  simpa [tsOf, e, e'] using this

theorem QI.none (h : QI N w q mv lv m bk snd mc ids rc at_ 0 H) : ∀ x, x < m → ids x = [] := by
  intro x hx
  by_cases e : ids x = []
  · exact e
  · obtain ⟨k, hk, _⟩ := (h.mem x hx).2 e
    omega
end


end Go.Proofs.Qxb6601345a
