import Derived.Test.Qxb6601345aMapIs
import Derived.Test.Qxb6601345aTake2
namespace Go.Proofs.Qxb6601345a
open Go.RowKit Go.Maps
set_option linter.unusedVariables false
set_option linter.unusedSimpArgs false

/-! ### The queue while it is made -/

def updV (f : Nat → Value) (x : Nat) (v : Value) : Nat → Value := fun y => if y = x then v else f y
def ptrsB (m : Nat) (bk : Nat → Nat) : List Value := (List.range m).map fun x => .pointer (some ⟨bk x, 0, none⟩)
theorem ptrsB_snoc (m : Nat) (bk : Nat → Nat) (b : Nat) : ptrsB (m + 1) (upd bk m b) = ptrsB m bk ++ [.pointer (some ⟨b, 0, none⟩)] := by
  unfold ptrsB
  rw [List.range_succ, List.map_append]
  congr 1
  · apply List.map_congr_left
    intro k hk
    have := List.mem_range.1 hk
    simp [upd, show k ≠ m from by omega]
  · simp [upd]
theorem ptrsB_len (m : Nat) (bk : Nat → Nat) : (ptrsB m bk).length = m := by simp [ptrsB]
theorem ptrsB_at (m : Nat) (bk : Nat → Nat) (k : Nat) (hk : k < m) : (ptrsB m bk)[k]? = some (.pointer (some ⟨bk k, 0, none⟩)) := by simp [ptrsB, hk]

def runObj (s : Nat) (v : Value) : Obj := .cells #[.int .u16 s, v, .int .i64 0, .int .i64 0] 80

/-- The ids of the first i messages that sender s has sent. -/
def idsTo (mc : Nat → MsgV) (i s : Nat) : List Nat := (List.range i).filter fun j => (mc j).fr == s
theorem idsTo_succ_ne {mc : Nat → MsgV} {i s : Nat} (h : (mc i).fr ≠ s) : idsTo mc (i + 1) s = idsTo mc i s := by
  simp [idsTo, List.range_succ, List.filter_append, h]
theorem idsTo_succ_eq {mc : Nat → MsgV} {i s : Nat} (h : (mc i).fr = s) : idsTo mc (i + 1) s = idsTo mc i s ++ [i] := by
  simp [idsTo, List.range_succ, List.filter_append, h]
theorem idsTo_len (mc : Nat → MsgV) (i s : Nat) : (idsTo mc i s).length ≤ i := by
  have := List.length_filter_le (fun j => (mc j).fr == s) (List.range i)
  simpa [idsTo] using this
theorem mem_idsTo {mc : Nat → MsgV} {i s j : Nat} : j ∈ idsTo mc i s ↔ j < i ∧ (mc j).fr = s := by simp [idsTo]

structure Made (N : Nat) (w : World) (q bm : Nat) (mc : Nat → MsgV) (i i2 m : Nat) (bk snd : Nat → Nat) (vs : Nat → Value) (ov : Value) (wr : World) : Prop where
  below : Below N w wr
  qc : wr.heap[q]? = some (.cells #[.map (some bm), .slice none 0 0, .pointer none] 78)
  qN : N ≤ q
  bN : N ≤ bm
  map : ∃ f, MapIs wr bm m f ∧ (∀ x, x < m → f (snd x) = some (bk x)) ∧ ∀ s, (∀ x, x < m → snd x ≠ s) → f s = none
  order : wr.ownsRow N 76 1 ov m (ptrsB m bk)
  run : ∀ x, x < m → wr.heap[bk x]? = some (runObj (snd x) (vs x))
  row : ∀ x, x < m → wr.ownsRow N 65 6 (vs x) (idsTo mc i (snd x)).length (flat mc (idsTo mc i (snd x)))
  inj : ∀ x, x < m → ∀ y, y < m → x ≠ y → bk x ≠ bk y ∧ snd x ≠ snd y
  sep : ∀ x, x < m → ∀ y, y < m → x ≠ y → ∀ g, (vs x).ownBlock = some g → (vs y).ownBlock ≠ some g
  kN : ∀ x, x < m → N ≤ bk x
  src : ∀ x, x < m → ∃ j, j < i2 ∧ (mc j).fr = snd x
  cov : ∀ j, j < i2 → ∃ x, x < m ∧ snd x = (mc j).fr
  mi : m ≤ i2

section
variable {N : Nat} {w : World} {q bm : Nat} {mc : Nat → MsgV} {i i2 m : Nat} {bk snd : Nat → Nat} {vs : Nat → Value} {ov : Value} {wr : World}

theorem owns_type {w : World} {base : Nat} {e : TypeId} {size : Nat} {v : Value} {n : Nat} {xs : List Value} (h : w.ownsRow base e size v n xs) {g : Nat} (hg : v.ownBlock = some g) : ∃ c, w.heap[g]? = some (.cells c e) := by
  rcases h.2 with ⟨rfl, _⟩ | ⟨g', cap, cur, rfl, _, h3, _⟩
  · cases hg
  · cases hg; exact ⟨cur, h3⟩

theorem Made.same (h : Made N w q bm mc i i2 m bk snd vs ov wr) {w' : World} (hb : Below N wr w') (hk : ∀ c, c < wr.heap.size → w'.heap[c]? = wr.heap[c]?) : Made N w q bm mc i i2 m bk snd vs ov w' := by
  obtain ⟨f, hf, hf2⟩ := h.map
  refine ⟨h.below.trans hb, (hk _ (block_lt h.qc)).trans h.qc, h.qN, h.bN, ⟨f, hf.keep (hk _ hf.lt), hf2⟩, owns_keep h.order (fun g hg => hk g (h.order.lt g hg).2), fun x hx => (hk _ (block_lt (h.run x hx))).trans (h.run x hx),
    fun x hx => owns_keep (h.row x hx) (fun g hg => hk g ((h.row x hx).lt g hg).2), h.inj, h.sep, h.kN, h.src, h.cov, h.mi⟩

/-- The sender is known. -/
theorem Made.found (h : Made N w q bm mc i i m bk snd vs ov wr) {x : Nat} (hx : x < m) (hs : snd x = (mc i).fr) : Made N w q bm mc i (i + 1) m bk snd vs ov wr := by
  refine ⟨h.below, h.qc, h.qN, h.bN, h.map, h.order, h.run, h.row, h.inj, h.sep, h.kN, fun y hy => ?_, fun j hj => ?_, by have := h.mi; omega⟩
  · obtain ⟨j, hj, e⟩ := h.src y hy
    exact ⟨j, by omega, e⟩
  · by_cases e : j = i
    · subst e; exact ⟨x, hx, hs⟩
    · exact h.cov j (by omega)

/-- A new sender. -/
theorem Made.new (h : Made N w q bm mc i i m bk snd vs ov wr) (hs : ∀ x, x < m → snd x ≠ (mc i).fr) {w3 : World} {ov' : Value} {n' : Nat} {f : Nat → Option Nat} (hf : (∀ x, x < m → f (snd x) = some (bk x)) ∧ ∀ s, (∀ x, x < m → snd x ≠ s) → f s = none)
    (hbel : Below N wr w3) (hold : ∀ c, c < wr.heap.size → c ≠ bm → some c ≠ ov.ownBlock → w3.heap[c]? = wr.heap[c]?) (hb0 : w3.heap[wr.heap.size]? = some (runObj (mc i).fr (.slice none 0 0)))
    (hmap : MapIs w3 bm (m + 1) (fun s => if s = (mc i).fr then some wr.heap.size else f s)) (hord : w3.ownsRow N 76 1 ov' (m + 1) (ptrsB m bk ++ [.pointer (some ⟨wr.heap.size, 0, none⟩)])) (hN : N ≤ wr.heap.size) :
    Made N w q bm mc i (i + 1) (m + 1) (upd bk m wr.heap.size) (upd snd m (mc i).fr) (updV vs m (.slice none 0 0)) ov' w3 := by
  obtain ⟨es, cl, hmo⟩ := h.map.choose_spec.1.obj
  have ho : ∀ {c : Nat} {cc : Array Value} {e : TypeId}, e ≠ 76 → wr.heap[c]? = some (.cells cc e) → w3.heap[c]? = some (.cells cc e) := fun {c cc e} he hc => by
    rw [hold c (block_lt hc) (fun e' => by rw [e', hmo] at hc; cases hc) (fun e' => ?_), hc]
    obtain ⟨c2, h2⟩ := owns_type h.order e'.symm
    rw [h2] at hc
    simp at hc
    exact he hc.2.symm
  have hlt : ∀ x, x < m → bk x < wr.heap.size := fun x hx => block_lt (h.run x hx)
  have case : ∀ x, x < m + 1 → x = m ∨ x < m := fun x hx => by omega
  have u1 : ∀ {f : Nat → Nat} {v x : Nat}, x < m → upd f m v x = f x := fun {f v x} hx => by simp [upd, show x ≠ m by omega]
  have u2 : ∀ {f : Nat → Nat} {v : Nat}, upd f m v m = v := by simp [upd]
  have v1 : ∀ {v : Value} {x : Nat}, x < m → updV vs m v x = vs x := fun {v x} hx => by simp [updV, show x ≠ m by omega]
  have v2 : ∀ {v : Value}, updV vs m v m = v := by simp [updV]
  have hid : idsTo mc i (mc i).fr = [] := by
    unfold idsTo
    rw [List.filter_eq_nil_iff]
    intro j hj
    have hj' := List.mem_range.1 hj
    obtain ⟨x, hx, e⟩ := h.cov j hj'
    simp only [beq_iff_eq]
    intro e'
    exact hs x hx (e.trans e')
  refine ⟨h.below.trans hbel, ho (by decide) h.qc, h.qN, h.bN, ⟨_, hmap, fun x hx => ?_, fun s hs' => ?_⟩, ?_, fun x hx => ?_, fun x hx => ?_, fun x hx y hy hxy => ?_, fun x hx y hy hxy g hg => ?_, fun x hx => ?_, fun x hx => ?_, fun j hj => ?_, by have := h.mi; omega⟩
  · rcases case x hx with rfl | hx'
    · rw [u2, u2]; simp
    · rw [u1 hx', u1 hx', if_neg (hs x hx')]; exact hf.1 x hx'
  · have e1 : s ≠ (mc i).fr := fun e => hs' m (by omega) (by rw [u2, e])
    show (if s = (mc i).fr then _ else f s) = none
    rw [if_neg e1]
    exact hf.2 s (fun x hx => by have := hs' x (by omega); rwa [u1 hx] at this)
  · rw [ptrsB_snoc]; exact hord
  · rcases case x hx with rfl | hx'
    · rw [u2, u2, v2]; exact hb0
    · rw [u1 hx', u1 hx', v1 hx']; exact ho (by decide) (h.run x hx')
  · rcases case x hx with rfl | hx'
    · rw [u2, v2, hid]; exact World.ownsRow_nil _ _ _ _
    · rw [u1 hx', v1 hx']
      refine owns_keep (h.row x hx') fun g hg => ?_
      obtain ⟨c, hc⟩ := owns_type (h.row x hx') hg
      rw [hc]; exact ho (by decide) hc
  · rcases case x hx with rfl | hx' <;> rcases case y hy with rfl | hy'
    · omega
    · rw [u2, u1 hy', u2, u1 hy']
      exact ⟨by have := hlt y hy'; omega, fun e => hs y hy' e.symm⟩
    · rw [u2, u1 hx', u2, u1 hx']
      exact ⟨by have := hlt x hx'; omega, hs x hx'⟩
    · rw [u1 hx', u1 hy', u1 hx', u1 hy']; exact h.inj x hx' y hy' hxy
  · rcases case x hx with rfl | hx' <;> rcases case y hy with rfl | hy'
    · omega
    · rw [v2] at hg; cases hg
    · rw [v2]; simp [Value.ownBlock]
    · rw [v1 hx'] at hg; rw [v1 hy']; exact h.sep x hx' y hy' hxy g hg
  · rcases case x hx with rfl | hx'
    · rw [u2]; exact hN
    · rw [u1 hx']; exact h.kN x hx'
  · rcases case x hx with rfl | hx'
    · exact ⟨i, by omega, by rw [u2]⟩
    · obtain ⟨j, hj, e⟩ := h.src x hx'
      exact ⟨j, by omega, by rw [u1 hx', e]⟩
  · by_cases e : j = i
    · subst e; exact ⟨m, by omega, u2⟩
    · obtain ⟨x, hx, e'⟩ := h.cov j (by omega)
      exact ⟨x, by omega, by rw [u1 hx, e']⟩

/-- Message i is laid behind its run's others. -/
theorem Made.push (h : Made N w q bm mc i (i + 1) m bk snd vs ov wr) {x : Nat} (hx : x < m) (hs : snd x = (mc i).fr) {w3 : World} {v' : Value} (hbel : Below N wr w3)
    (hold : ∀ c, c < wr.heap.size → c ≠ bk x → some c ≠ (vs x).ownBlock → w3.heap[c]? = wr.heap[c]?) (hb : w3.heap[bk x]? = some (runObj (snd x) v'))
    (hown : w3.ownsRow N 65 6 v' ((idsTo mc i (snd x)).length + 1) (flat mc (idsTo mc i (snd x)) ++ (mc i).cells.toList)) (hloc : v'.ownBlock = (vs x).ownBlock ∨ ∃ g, v'.ownBlock = some g ∧ wr.heap.size ≤ g) :
    Made N w q bm mc (i + 1) (i + 1) m bk snd (updV vs x v') ov w3 := by
  obtain ⟨f, hf, hf2⟩ := h.map
  obtain ⟨es, cl, hmo⟩ := hf.obj
  have hox : ∀ g, (vs x).ownBlock = some g → ∃ c, wr.heap[g]? = some (.cells c 65) := fun g hg => owns_type (h.row x hx) hg
  have ho : ∀ {c : Nat} {cc : Array Value} {e : TypeId}, e ≠ 80 → e ≠ 65 → wr.heap[c]? = some (.cells cc e) → w3.heap[c]? = some (.cells cc e) := fun {c cc e} he1 he2 hc => by
    rw [hold c (block_lt hc) (fun e' => ?_) (fun e' => ?_), hc]
    · rw [e', h.run x hx] at hc
      simp [runObj] at hc
      exact he1 hc.2.symm
    · obtain ⟨c2, h2⟩ := hox c e'.symm
      rw [h2] at hc
      simp at hc
      exact he2 hc.2.symm
  have hrun : ∀ y, y < m → y ≠ x → w3.heap[bk y]? = wr.heap[bk y]? := fun y hy hyx => hold _ (block_lt (h.run y hy)) (h.inj y hy x hx hyx).1 (fun e' => by
    obtain ⟨c2, h2⟩ := hox _ e'.symm
    have := h.run y hy
    rw [h2] at this
    simp [runObj] at this)
  have v1 : ∀ {y : Nat}, y ≠ x → updV vs x v' y = vs y := fun {y} hy => by simp [updV, hy]
  have v2 : updV vs x v' x = v' := by simp [updV]
  refine ⟨h.below.trans hbel, ho (by decide) (by decide) h.qc, h.qN, h.bN, ⟨f, hf.keep (hold _ hf.lt (fun e => ?_) (fun e => ?_)), hf2⟩, owns_keep h.order (fun g hg => ?_), fun y hy => ?_, fun y hy => ?_, h.inj, fun y hy z hz hyz g hg => ?_, h.kN, h.src, h.cov, h.mi⟩
  · have := h.run x hx
    rw [← e, hmo] at this; cases this
  · obtain ⟨c2, h2⟩ := hox _ e.symm
    rw [hmo] at h2; cases h2
  · obtain ⟨c, hc⟩ := owns_type h.order hg
    rw [hc]; exact ho (by decide) (by decide) hc
  · by_cases e : y = x
    · subst e; rw [v2]; exact hb
    · rw [v1 e, hrun y hy e]; exact h.run y hy
  · by_cases e : y = x
    · subst e
      rw [v2, idsTo_succ_eq hs.symm, flat_snoc, List.length_append]
      exact hown
    · rw [v1 e, idsTo_succ_ne (fun e' => (h.inj y hy x hx e).2 (e'.symm.trans hs.symm))]
      refine owns_keep (h.row y hy) fun g hg => hold g ((h.row y hy).lt g hg).2 (fun e' => ?_) (fun e' => h.sep y hy x hx e g hg e'.symm)
      obtain ⟨c, hc⟩ := owns_type (h.row y hy) hg
      have := h.run x hx
      rw [← e', hc] at this
      simp [runObj] at this
  · by_cases e1 : y = x
    · subst e1
      rw [v2] at hg
      rw [v1 (Ne.symm hyz)]
      rcases hloc with h1 | ⟨g', h1, h2⟩
      · exact h.sep y hy z hz hyz g (h1.symm.trans hg)
      · intro e'
        rw [h1] at hg
        cases hg
        have := ((h.row z hz).lt _ e').2
        omega
    · rw [v1 e1] at hg
      by_cases e2 : z = x
      · subst e2
        rw [v2]
        rcases hloc with h1 | ⟨g', h1, h2⟩
        · rw [h1]; exact h.sep y hy z hz hyz g hg
        · intro e'
          rw [h1] at e'
          cases e'
          have := ((h.row y hy).lt _ hg).2
          omega
      · rw [v1 e2]; exact h.sep y hy z hz hyz g hg

/-- All messages are laid in: the runs as records, the heap empty. -/
theorem Made.start {M : Nat} (h : Made N w q bm mc M M m bk snd vs ov wr) (hM : M ≤ 4096) :
    ∃ rc : Nat → Rec, QS N wr q (.map (some bm)) (.pointer none) m rc (fun _ => 0) (tsOf mc fun x => idsTo mc M (snd x)) 0 (fun _ => 0) ∧ (∀ x, x < m → (rc x).blk = bk x ∧ (rc x).snd = snd x) ∧ (∀ x, x < m → Row wr mc (rc x) (idsTo mc M (snd x))) ∧
      (∀ x, x < m → ∀ y, y < m → x ≠ y → (rc x).g ≠ (rc y).g) ∧ (∀ x, x < m → N ≤ (rc x).g) := by
  have hne : ∀ x, x < m → idsTo mc M (snd x) ≠ [] := fun x hx => by
    obtain ⟨j, hj, e⟩ := h.src x hx
    exact List.ne_nil_of_mem (mem_idsTo.2 ⟨hj, e⟩)
  have hex : ∀ x, ∃ gc : Nat × Nat, x < m → vs x = .slice (some ⟨gc.1, 0, none⟩) (idsTo mc M (snd x)).length gc.2 ∧ N ≤ gc.1 ∧ gc.2 ≤ maxLen ∧ Row wr mc ⟨bk x, snd x, gc.1, (idsTo mc M (snd x)).length, gc.2, 0⟩ (idsTo mc M (snd x)) := fun x => by
    by_cases hx : x < m
    · obtain ⟨g, cap, h1, h2, h3, h4⟩ := Row.of_owns (b := bk x) (s := snd x) (h.row x hx) (hne x hx) (by have := idsTo_len mc M (snd x); omega)
      exact ⟨(g, cap), fun _ => ⟨h1, h2, h3, h4⟩⟩
    · exact ⟨(0, 0), fun h' => absurd h' hx⟩
  obtain ⟨gf, hgf⟩ : ∃ gf : Nat → Nat × Nat, ∀ x, x < m → vs x = .slice (some ⟨(gf x).1, 0, none⟩) (idsTo mc M (snd x)).length (gf x).2 ∧ N ≤ (gf x).1 ∧ (gf x).2 ≤ maxLen ∧ Row wr mc ⟨bk x, snd x, (gf x).1, (idsTo mc M (snd x)).length, (gf x).2, 0⟩ (idsTo mc M (snd x)) :=
    ⟨fun x => (hex x).choose, fun x => (hex x).choose_spec⟩
  clear hex
  refine ⟨fun x => ⟨bk x, snd x, (gf x).1, (idsTo mc M (snd x)).length, (gf x).2, 0⟩, ⟨fun x hx => ?_, fun x hx y hy hxy => (h.inj x hx y hy hxy).1, h.kN, ⟨none, 0, h.qc, World.ownsRow_nil _ _ _ _⟩, h.qN, fun k hk => by omega, fun j hj => by omega, fun x hx => ?_, fun k hk => by omega, by omega⟩,
    fun x hx => ⟨rfl, rfl⟩, fun x hx => (hgf x hx).2.2.2, fun x hx y hy hxy e => ?_, fun x hx => (hgf x hx).2.1⟩
  · rw [h.run x hx, (hgf x hx).1]; rfl
  · obtain ⟨k, hk, _⟩ := hx; omega
  · have h1 := (hgf x hx).1
    have h2 := (hgf y hy).1
    have e' : (gf x).1 = (gf y).1 := e
    refine h.sep x hx y hy hxy (gf x).1 (by rw [h1]; rfl) ?_
    rw [h2, e']; rfl

/-- While the runs are pushed: the first k are in the heap. -/
structure Pushed (N : Nat) (wc : World) (q : Nat) (mv lv : Value) (m : Nat) (rc : Nat → Rec) (ts : Nat → Int) (ov : Value) (k : Nat) (at_ H : Nat → Nat) (wr : World) : Prop where
  qs : QS N wr q mv lv m rc at_ ts k H
  heap : PlainHeap.Heap (ltR ts rc) k H
  mem : ∀ x, (∃ j, j < k ∧ H j = x) ↔ x < k
  fr : Fr N [76, 78, 80] wc wr
  ord : ∀ z, ov.ownBlock = some z → wr.heap[z]? = wc.heap[z]? ∧ NotTop wr q mv lv z

/-- The map of the runs. -/
def QMap (w : World) (bm m : Nat) (bk snd : Nat → Nat) : Prop := ∃ n f, MapIs w bm n f ∧ (∀ x, x < m → f (snd x) = some (bk x)) ∧ ∀ s, (∀ x, x < m → snd x ≠ s) → f s = none
end

end Go.Proofs.Qxb6601345a
