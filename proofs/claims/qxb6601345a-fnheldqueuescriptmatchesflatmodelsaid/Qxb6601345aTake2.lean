import Derived.Test.Qxb6601345aTake
namespace Go.Proofs.Qxb6601345a
open Go.RowKit
set_option linter.unusedVariables false
set_option linter.unusedSimpArgs false

set_option maxHeartbeats 800000 in
theorem take_none (N : Nat) (w : World) (q : Nat) (ta : Option Addr) (tc : Nat) (mv lv : Value) (thr : Int) (hq : w.heap[q]? = some (.cells #[mv, .slice ta 0 tc, lv] 78)) (hN : N ≤ w.heap.size) :
    Calls Try.prog 40 #[.pointer (some ⟨q, 0, none⟩), .int .i64 thr] w fun e w' => e = .returned (.tuple #[.agg zeroMsg, .bool false]) ∧ (∀ c, c < w.heap.size → w'.heap[c]? = w.heap[c]?) ∧ Fr N [] w w' := by
  have cq : w.cell? ⟨q, 1, none⟩ = some (.slice ta 0 tc) := by rw [cell_of hq]; rfl
  have lq := block_lt hq
  clear hq
  go_enter Try.func40, Try.ntmps40
  go_wp2_with fail
  refine bodyPost_ret (v := .tuple #[.agg zeroMsg, .bool false]) (by simp [results, Try.results40, go_sem, zeroMsg]) rfl ⟨rfl, fun c hc => ?_, ?_⟩
  · exact Below.heap_alloc _ _ _ hc
  · exact (Fr.refl _ _ _).alloc hN _

set_option maxHeartbeats 1600000 in
theorem take_late (N : Nat) (w : World) (q T b g n cap hd ln cp a : Nat) (mv lv : Value) (pa : Option Addr) (pl pc : Nat) (thr t : Int) (s o : Nat) (ak be : Bool) (cm : Array Value)
    (hq : w.heap[q]? = some (.cells #[mv, .slice (some ⟨T, 0, none⟩) (n + 1) cap, lv] 78))
    (hT : w.cell? ⟨T, 0, none⟩ = some (.pointer (some ⟨b, 0, none⟩)))
    (lT : T < w.heap.size) (hb : w.heap[b]? = some (.cells #[.int .u16 s, .slice (some ⟨g, 0, none⟩) ln cp, .int .i64 hd, .int .i64 a] 80))
    (hg : w.heap[g]? = some (.cells cm 65))
    (hm : ∀ c, c < 6 → cm[hd * 6 + c]? = (MsgV.mk t s o ak be pa pl pc).cells[c]?)
    (hN : N ≤ w.heap.size) (h1 : hd < ln) (h2 : ln ≤ 4096) (hn : n + 1 ≤ 4096) (hnc : n + 1 ≤ cap) (ht : thr < t) :
    Calls Try.prog 40 #[.pointer (some ⟨q, 0, none⟩), .int .i64 thr] w fun e w' => e = .returned (.tuple #[.agg zeroMsg, .bool false]) ∧ (∀ c, c < w.heap.size → w'.heap[c]? = w.heap[c]?) ∧ Fr N [] w w' := by
  have cq : w.cell? ⟨q, 1, none⟩ = some (.slice (some ⟨T, 0, none⟩) (n + 1) cap) := by rw [cell_of hq]; rfl
  have b1 : w.cell? ⟨b, 1, none⟩ = some (.slice (some ⟨g, 0, none⟩) ln cp) := by rw [cell_of hb]; rfl
  have b2 : w.cell? ⟨b, 2, none⟩ = some (.int .i64 hd) := by rw [cell_of hb]; rfl
  have m0 : w.cell? ⟨g, hd * 6, none⟩ = some (.int .i64 t) := by rw [cell_of hg]; exact hm 0 (by omega)
  have m1 : w.cell? ⟨g, hd * 6 + 1, none⟩ = some (.int .u16 s) := by rw [cell_of hg]; exact hm 1 (by omega)
  have m2 : w.cell? ⟨g, hd * 6 + 2, none⟩ = some (.int .u16 o) := by rw [cell_of hg]; exact hm 2 (by omega)
  have m3 : w.cell? ⟨g, hd * 6 + 3, none⟩ = some (.bool ak) := by rw [cell_of hg]; exact hm 3 (by omega)
  have m4 : w.cell? ⟨g, hd * 6 + 4, none⟩ = some (.bool be) := by rw [cell_of hg]; exact hm 4 (by omega)
  have m5 : w.cell? ⟨g, hd * 6 + 5, none⟩ = some (.slice pa pl pc) := by rw [cell_of hg]; exact hm 5 (by omega)
  have lq := block_lt hq
  have lb := block_lt hb
  have lg := block_lt hg
  have h1' : (hd : Int) < (ln : Int) := by omega
  have e0 : ((n : Int) + 1 == 0) = false := by simp; omega
  have e1 : decide (thr < t) = true := by simpa using ht
  clear hq hb hg hm
  go_enter Try.func40, Try.ntmps40
  go_upto_region 4 with fail
  go_region
  go_wp2_with fail
  refine bodyPost_ret (v := .tuple #[.agg zeroMsg, .bool false]) (by simp [results, Try.results40, go_sem, zeroMsg]) rfl ⟨rfl, fun c hc => ?_, ?_⟩
  · exact (Below.heap_alloc _ _ _ (by rw [alloc_size]; omega)).trans (Below.heap_alloc _ _ _ hc)
  · exact (((Fr.refl _ _ _).alloc hN _).alloc (by rw [alloc_size]; omega) _).drew

theorem tsOf_eq {mc : Nat → MsgV} {ids : Nat → List Nat} {x i : Nat} {l : List Nat} (h : ids x = i :: l) : tsOf mc ids x = (mc i).ts := by simp [tsOf, h]
theorem tsOf_ne {mc : Nat → MsgV} {ids : Nat → List Nat} {x y : Nat} {l : List Nat} (h : y ≠ x) : tsOf mc (updL ids x l) y = tsOf mc ids y := by simp [tsOf, updL_ne _ _ _ h]

/-- Run x has let go of some of its messages. -/
theorem QI.build {N : Nat} {w w2 : World} {q : Nat} {mv lv : Value} {m : Nat} {bk snd : Nat → Nat} {mc : Nat → MsgV} {ids : Nat → List Nat} {rc : Nat → Rec} {at_ at' : Nat → Nat} {n n' : Nat} {H H' : Nat → Nat} {x : Nat} {l : List Nat} {r' : Rec}
    (h : QI N w q mv lv m bk snd mc ids rc at_ n H) (hsub : ∀ i, i ∈ l → i ∈ ids x) (hr : r'.blk = (rc x).blk ∧ r'.snd = (rc x).snd ∧ r'.g = (rc x).g)
    (hqs : QS N w2 q mv lv m (updR rc x r') at' (tsOf mc (updL ids x l)) n' H') (hheap : PlainHeap.Heap (ltR (tsOf mc (updL ids x l)) (updR rc x r')) n' H') (hrow : Row w2 mc r' l) (hold : ∀ y, y < m → y ≠ x → w2.heap[(rc y).g]? = w.heap[(rc y).g]?)
    (hm1 : ∀ y, y < m → y ≠ x → ((∃ k, k < n' ∧ H' k = y) ↔ ∃ k, k < n ∧ H k = y)) (hm2 : (∃ k, k < n' ∧ H' k = x) ↔ l ≠ []) :
    QI N w2 q mv lv m bk snd mc (updL ids x l) (updR rc x r') at' n' H' := by
  obtain ⟨r1, r2, r3⟩ := hr
  refine ⟨hqs, hheap, fun y hy => ?_, fun y hy => ?_, fun y hy z hz hyz => ?_, fun y hy => ?_, fun y hy => ?_, fun y hy i hi => ?_⟩
  · by_cases e : y = x
    · subst e; rw [updR_same, r1, r2]; exact h.same y hy
    · rw [updR_ne _ _ _ e]; exact h.same y hy
  · by_cases e : y = x
    · subst e; rw [updR_same, updL_same]; exact hrow
    · rw [updR_ne _ _ _ e, updL_ne _ _ _ e]; exact (h.row y hy).keep (hold y hy e)
  · have e1 : ∀ y, (updR rc x r' y).g = (rc y).g := fun y => by
      by_cases e : y = x
      · subst e; rw [updR_same, r3]
      · rw [updR_ne _ _ _ e]
    rw [e1, e1]; exact h.ginj y hy z hz hyz
  · by_cases e : y = x
    · subst e; rw [updR_same, r3]; exact h.gN y hy
    · rw [updR_ne _ _ _ e]; exact h.gN y hy
  · by_cases e : y = x
    · subst e; rw [updL_same]; exact hm2
    · rw [updL_ne _ _ _ e, hm1 y hy e]; exact h.mem y hy
  · by_cases e : y = x
    · subst e; rw [updL_same] at hi; exact h.fr y hy i (hsub i hi)
    · rw [updL_ne _ _ _ e] at hi; exact h.fr y hy i hi

theorem ltR_upd {mc : Nat → MsgV} {ids : Nat → List Nat} {rc : Nat → Rec} {x y z : Nat} {l : List Nat} {r' : Rec} (hy : y ≠ x) (hz : z ≠ x) : ltR (tsOf mc (updL ids x l)) (updR rc x r') y z = ltR (tsOf mc ids) rc y z := by
  unfold ltR
  rw [tsOf_ne hy, tsOf_ne hz, updR_ne _ _ _ hy, updR_ne _ _ _ hz]

/-- Message rows that no run leads to stay. -/
def Far65 (w w' : World) (m : Nat) (rc : Nat → Rec) : Prop := ∀ (z : Nat) (c : Array Value), w.heap[z]? = some (Obj.cells c 65) → (∀ x, x < m → (rc x).g ≠ z) → w'.heap[z]? = some (Obj.cells c 65)

/-- What take says. -/
def Taken (N : Nat) (w : World) (q : Nat) (mv lv : Value) (m : Nat) (bk snd : Nat → Nat) (mc : Nat → MsgV) (ids : Nat → List Nat) (rc : Nat → Rec) (thr : Int) (e : Ending) (w' : World) : Prop :=
  (e = .returned (.tuple #[.agg zeroMsg, .bool false]) ∧ ((∀ x, x < m → ids x = []) ∨ ∃ x i l, First m snd mc ids x i l ∧ thr < (mc i).ts) ∧ (∃ rc' at_ n H, QI N w' q mv lv m bk snd mc ids rc' at_ n H ∧ ∀ y, y < m → (rc' y).g = (rc y).g) ∧ Fr N [65, 76, 78, 80] w w' ∧ Far65 w w' m rc) ∨
  (∃ x i l, First m snd mc ids x i l ∧ (mc i).ts ≤ thr ∧ e = .returned (.tuple #[.agg (mc i).cells, .bool true]) ∧ (∃ rc' at_ n H, QI N w' q mv lv m bk snd mc (updL ids x l) rc' at_ n H ∧ ∀ y, y < m → (rc' y).g = (rc y).g) ∧ Fr N [65, 76, 78, 80] w w' ∧ Far65 w w' m rc)

theorem take_any (N : Nat) (w : World) (q : Nat) (mv lv : Value) (m : Nat) (bk snd : Nat → Nat) (mc : Nat → MsgV) (ids : Nat → List Nat) (rc : Nat → Rec) (at_ : Nat → Nat) (n : Nat) (H : Nat → Nat) (thr : Int)
    (h : QI N w q mv lv m bk snd mc ids rc at_ n H) :
    Calls Try.prog 40 #[.pointer (some ⟨q, 0, none⟩), .int .i64 thr] w (Taken N w q mv lv m bk snd mc ids rc thr) := by
  have hqN := h.qs.qN
  cases n with
  | zero =>
    obtain ⟨ta, tc, hq, _⟩ := h.qs.top
    have lq := block_lt hq
    refine Calls.mono (take_none N w q ta tc mv lv thr hq (by omega)) ?_
    rintro e w' ⟨rfl, h1, h2⟩
    exact .inl ⟨rfl, .inl h.none, ⟨rc, at_, 0, H, h.keep h1, fun _ _ => rfl⟩, h2.mono (by simp), fun z c hz _ => (h1 z (block_lt hz)).trans hz⟩
  | succ n =>
    obtain ⟨T, cap, hB⟩ := h.qs.toQB (by omega)
    have lq := block_lt hB.top
    obtain ⟨i, l, hf⟩ := h.first (by omega)
    have hx := hf.lt
    have hrow := h.row _ hx
    rw [hf.eq] at hrow
    obtain ⟨cm, hg, hcs, hcm⟩ := hrow.head
    have hT0 := hB.cellT (k := 0) (by omega)
    have lT : T < w.heap.size := by
      obtain ⟨cur, hc, _⟩ := hB.arr
      exact block_lt hc
    have hrun := hB.run _ hx
    have hlen := hrow.len
    simp only [List.length_cons] at hlen
    have hfr : (mc i).fr = (rc (H 0)).snd := by rw [(h.same _ hx).2]; exact h.fr _ hx i (by rw [hf.eq]; simp)
    by_cases ht : thr < (mc i).ts
    · refine Calls.mono (take_late N w q T (rc (H 0)).blk (rc (H 0)).g n cap (rc (H 0)).head (rc (H 0)).len (rc (H 0)).cap (at_ (H 0)) mv lv (mc i).pa (mc i).pl (mc i).pc thr (mc i).ts (rc (H 0)).snd (mc i).tt (mc i).ack (mc i).be cm
        hB.top hT0 lT hrun hg (by rw [← hfr]; exact hcm) (by omega) (by omega) hrow.max hB.nmax hB.ncap ht) ?_
      rintro e w' ⟨rfl, h1, h2⟩
      exact .inl ⟨rfl, .inr ⟨_, i, l, hf, ht⟩, ⟨rc, at_, n + 1, H, h.keep h1, fun _ _ => rfl⟩, h2.mono (by simp), fun z c hz _ => (h1 z (block_lt hz)).trans hz⟩
    · obtain ⟨x, hxe⟩ : ∃ x, x = H 0 := ⟨_, rfl⟩
      have hne : ∀ k, 0 < k → k < n + 1 → H k ≠ x := fun k h0 hk => by rw [hxe]; exact hB.hinj k hk 0 (by omega) (by omega)
      have hb0 : H 0 = x := hxe.symm
      rw [hb0] at hx hrow hg hcs hcm hrun hlen hfr hT0 hf
      clear hxe
      have hgs : ∀ y, y < m → (rc y).g < w.heap.size := fun y hy => by
        obtain ⟨c, hc, _⟩ := (h.row y hy).arr
        exact block_lt hc
      have hgb : ∀ y, y < m → (rc y).g ≠ (rc x).blk := fun y hy e => by
        obtain ⟨c, hc, _⟩ := (h.row y hy).arr
        rw [e, hrun] at hc
        simp [recObj] at hc
      have hTg : T ≠ (rc x).g := fun e => by
        obtain ⟨c, hc, _⟩ := hB.arr
        rw [e, hg] at hc; simp at hc
      have hqg : q ≠ (rc x).g := fun e => by
        have hc := hB.top
        rw [e, hg] at hc; simp at hc
      have hbg : ∀ y, y < m → (rc y).blk ≠ (rc x).g := fun y hy e => by
        have hc := hB.run y hy
        rw [e, hg] at hc; simp [recObj] at hc
      refine Calls.mono (take_walk N w q T (rc x).blk (rc x).g n cap (rc x).head (rc x).len (rc x).cap (at_ x) mv lv (mc i).pa (mc i).pl (mc i).pc thr (mc i).ts (rc x).snd (mc i).tt (mc i).ack (mc i).be cm
        hB.top hT0 lT hrun hg (by rw [← hfr]; exact hcm) (hB.own x hx) (h.gN x hx) (by omega) hrow.max hB.nmax hB.ncap ht
        (fun w0 => (∃ rc' at' n' H', QI N w0 q mv lv m bk snd mc (updL ids x l) rc' at' n' H' ∧ ∀ y, y < m → (rc' y).g = (rc y).g) ∧ Fr N [65, 76, 78, 80] w w0 ∧ Far65 w w0 m rc) ?_ ?_) ?_
      · intro e wr HM nq
        have hl : l = [] := List.eq_nil_of_length_eq_zero (by omega)
        subst hl
        have s0 : (wr.drewN nq).heap[(rc x).blk]? = some (.cells #[.int .u16 (rc x).snd, .slice (some ⟨(rc x).g, 0, none⟩) (rc x).len (rc x).cap, .int .i64 ((rc x).head + 1), .int .i64 (at_ x)] 80) := HM.rb
        have s1 := set_block (o := 1) s0 (.slice (some ⟨(rc x).g, 0, none⟩) 0 (rc x).cap)
        have s2 := set_block (o := 2) s1 (.int .i64 0)
        have f2 : Fr N [65, 76, 78, 80] w (((wr.drewN nq).setCell ⟨(rc x).blk, 1, none⟩ (.slice (some ⟨(rc x).g, 0, none⟩) 0 (rc x).cap)).setCell ⟨(rc x).blk, 2, none⟩ (.int .i64 0)) :=
          (((HM.fr.mono (T' := [65, 76, 78, 80]) (by simp)).drewN nq).set (o := 1) s0 (by simp) (hB.own x hx) _).set (o := 2) s1 (by simp) (hB.own x hx) _
        have o2 : ∀ c, c ≠ (rc x).blk → (((wr.drewN nq).setCell ⟨(rc x).blk, 1, none⟩ (.slice (some ⟨(rc x).g, 0, none⟩) 0 (rc x).cap)).setCell ⟨(rc x).blk, 2, none⟩ (.int .i64 0)).heap[c]? = wr.heap[c]? := fun c hc => by
          rw [set_other _ hc, set_other _ hc]; rfl
        generalize ((wr.drewN nq).setCell ⟨(rc x).blk, 1, none⟩ (.slice (some ⟨(rc x).g, 0, none⟩) 0 (rc x).cap)).setCell ⟨(rc x).blk, 2, none⟩ (.int .i64 0) = wP at *
        have oo : ∀ c, c < w.heap.size → c ≠ (rc x).g → c ≠ (rc x).blk → wP.heap[c]? = w.heap[c]? := fun c h1 h2 h3 => (o2 c h3).trans (HM.old c h1 h2 h3)
        obtain ⟨r', hr'⟩ : ∃ r' : Rec, r' = { rc x with len := 0, head := 0 } := ⟨_, rfl⟩
        have hP : QB N wP q mv lv m (updR rc x r') at_ T cap (n + 1) H := by
          refine hB.next (fun y hy => ?_) (fun y hy => ?_) (oo q lq hqg (hB.neq hx)) (oo T lT hTg (hB.neT hx))
          · by_cases e : y = x
            · subst e; rw [updR_same, hr']
            · rw [updR_ne _ _ _ e]
          · by_cases e : y = x
            · subst e; rw [updR_same, s2, hr']; rfl
            · rw [updR_ne _ _ _ e, oo _ (block_lt (hB.run y hy)) (hbg y hy) (hB.inj y hy x hx e)]; exact hB.run y hy
        have hk : ∀ k, k < n + 1 → k ≠ 0 → HeadIs wP (updR rc x r' (H k)) (tsOf mc (updL ids x []) (H k)) (updR rc x r' (H k)).snd := fun k hk hk0 => by
          have hnx := hne k (by omega) hk
          have hkm := hB.dom k hk
          rw [updR_ne _ _ _ hnx, tsOf_ne hnx]
          exact (h.qs.key _ ⟨k, hk, rfl⟩).keep fun c _ => oo _ (hgs _ hkm) (h.ginj _ hkm x hx hnx) (hgb _ hkm)
        refine Calls.mono (pop_any N wP q mv lv m (updR rc x r') at_ (tsOf mc (updL ids x [])) T cap n H hP hk) ?_
        rintro e' w5 ⟨rfl, at', hqs, _, hfr5⟩
        have k5 : ∀ (c : Nat) (cc : Array Value), wP.heap[c]? = some (Obj.cells cc 65) → w5.heap[c]? = some (Obj.cells cc 65) := fun c cc hc => hfr5.keep hc (by simp)
        refine ⟨rfl, ⟨⟨updR rc x r', at', n, PlainHeap.downF (ltR (tsOf mc (updL ids x [])) (updR rc x r')) n n (upd H 0 (H n)) 0, ?_, fun y hy => ?_⟩, f2.trans (hfr5.mono (by simp)), fun z c hz hgz => k5 _ _ ((oo z (block_lt hz) (Ne.symm (hgz x hx)) (fun e => by rw [e, hrun] at hz; simp [recObj] at hz)).trans hz)⟩, k5 _ _ ?_, k5 _ _ ?_⟩
        · refine h.build (l := []) (by simp) (by rw [hr']; exact ⟨rfl, rfl, rfl⟩) hqs (heap_pop (ltR_ord _ _) h.heap fun j hj0 hj k hk0 hk => ltR_upd (hne j hj0 hj) (hne k hk0 hk)) ?_ (fun y hy hyx => ?_) (fun y hy hyx => ?_) ?_
          · obtain ⟨cur', c1, c2, c3⟩ := HM.rg cm hg
            rw [hr']
            exact ⟨rfl, by show 0 ≤ 4096; omega, by show 0 ≤ _; omega, cur', k5 _ _ ((o2 _ (hgb x hx)).trans c1), by rw [c2]; exact hcs, fun k hk => by simp at hk⟩
          · obtain ⟨c, hc, _⟩ := (h.row y hy).arr
            rw [k5 _ _ ((oo _ (hgs y hy) (h.ginj y hy x hx hyx) (hgb y hy)).trans hc), hc]
          · rw [mem_pop]
            constructor
            · rintro ⟨k, _, hk, e⟩; exact ⟨k, hk, e⟩
            · rintro ⟨k, hk, e⟩
              by_cases e0 : k = 0
              · subst e0; exact absurd (e.symm.trans hb0) hyx
              · exact ⟨k, by omega, hk, e⟩
          · rw [mem_pop]
            constructor
            · rintro ⟨k, h0, hk, e⟩; exact absurd e (hne k h0 hk)
            · intro e; exact absurd rfl e
        · by_cases e : y = x
          · subst e; simp only [updR_same, hr']
          · rw [updR_ne _ _ _ e]
        · rw [o2 _ (by have := block_lt hrun; omega)]; exact HM.z
        · rw [o2 _ (by have := block_lt hrun; omega)]; exact HM.m
      · intro e wr HM nq
        have oo : ∀ c, c < w.heap.size → c ≠ (rc x).g → c ≠ (rc x).blk → (wr.drewN nq).heap[c]? = w.heap[c]? := fun c h1 h2 h3 => HM.old c h1 h2 h3
        obtain ⟨r', hr'⟩ : ∃ r' : Rec, r' = { rc x with head := (rc x).head + 1 } := ⟨_, rfl⟩
        have hP : QB N (wr.drewN nq) q mv lv m (updR rc x r') at_ T cap (n + 1) H := by
          refine hB.next (fun y hy => ?_) (fun y hy => ?_) (oo q lq hqg (hB.neq hx)) (oo T lT hTg (hB.neT hx))
          · by_cases e : y = x
            · subst e; rw [updR_same, hr']
            · rw [updR_ne _ _ _ e]
          · by_cases e : y = x
            · subst e; rw [updR_same, hr']; exact HM.rb
            · rw [updR_ne _ _ _ e, oo _ (block_lt (hB.run y hy)) (hbg y hy) (hB.inj y hy x hx e)]; exact hB.run y hy
        obtain ⟨cur', c1, c2, c3⟩ := HM.rg cm hg
        have hrow' : Row (wr.drewN nq) mc r' l := by
          rw [hr']
          refine hrow.tail (w' := wr.drewN nq) c1 fun cur hc => ?_
          rw [hg] at hc
          simp only [Option.some.injEq, Obj.cells.injEq, and_true] at hc
          subst hc
          exact ⟨c2, c3⟩
        obtain ⟨i2, l2, hl⟩ : ∃ i2 l2, l = i2 :: l2 := by
          cases l with
          | nil => simp at hlen; omega
          | cons i2 l2 => exact ⟨i2, l2, rfl⟩
        have hk : ∀ k, k < n + 1 → HeadIs (wr.drewN nq) (updR rc x r' (H k)) (tsOf mc (updL ids x l) (H k)) (updR rc x r' (H k)).snd := fun k hk => by
          by_cases hk0 : k = 0
          · subst hk0
            rw [hb0, updR_same, tsOf_eq (by rw [updL_same, hl])]
            have h2 := hrow'
            rw [hl] at h2
            have h3 := h2.headIs
            have h4 : (mc i2).fr = r'.snd := by rw [hr']; show _ = (rc x).snd; rw [(h.same _ hx).2]; exact h.fr _ hx i2 (by rw [hf.eq, hl]; simp)
            rw [h4] at h3
            exact h3
          · have hnx := hne k (by omega) hk
            have hkm := hB.dom k hk
            rw [updR_ne _ _ _ hnx, tsOf_ne hnx]
            exact (h.qs.key _ ⟨k, hk, rfl⟩).keep fun c _ => oo _ (hgs _ hkm) (h.ginj _ hkm x hx hnx) (hgb _ hkm)
        refine Calls.mono (down_any N (wr.drewN nq) m (updR rc x r') at_ (tsOf mc (updL ids x l)) T cap (n + 1) H 0 hP.TN hP.own (hP.toHS hk) (by omega) (fun k hk _ => hP.told k hk)) ?_
        rintro e' w5 ⟨rfl, at', hhs, htold, _, hfr5⟩
        have k5 : ∀ (c : Nat) (cc : Array Value), (wr.drewN nq).heap[c]? = some (Obj.cells cc 65) → w5.heap[c]? = some (Obj.cells cc 65) := fun c cc hc => hfr5.keep hc (by simp)
        refine ⟨rfl, ⟨⟨updR rc x r', at', n + 1, PlainHeap.downF (ltR (tsOf mc (updL ids x l)) (updR rc x r')) (n + 1) (n + 1 - 0) H 0, ?_, fun y hy => ?_⟩, ((HM.fr.mono (T' := [65, 76, 78, 80]) (by simp)).drewN nq).trans (hfr5.mono (by simp)), fun z c hz hgz => k5 _ _ ((oo z (block_lt hz) (Ne.symm (hgz x hx)) (fun e => by rw [e, hrun] at hz; simp [recObj] at hz)).trans hz)⟩, k5 _ _ HM.z, k5 _ _ HM.m⟩
        · have hmem := fun y => (PlainHeap.downF_same (ltR (tsOf mc (updL ids x l)) (updR rc x r')) (n + 1) (n + 1 - 0) H 0 (by omega)).1 y
          refine h.build (l := l) (fun j hj => by rw [hf.eq]; simp [hj]) (by rw [hr']; exact ⟨rfl, rfl, rfl⟩) (hhs.toQS (hfr5.keep hP.top (by simp)) hP.TN hP.qN hP.own htold)
            (heap_down0 (ltR_ord _ _) (by omega) h.heap fun j hj0 hj k hk0 hk => ltR_upd (hne j hj0 hj) (hne k hk0 hk)) ?_ (fun y hy hyx => ?_) (fun y hy hyx => hmem y) ?_
          · refine hrow'.keep ?_
            have e : r'.g = (rc x).g := by rw [hr']
            have c1' : (wr.drewN nq).heap[(rc x).g]? = some (.cells cur' 65) := c1
            rw [e, k5 _ _ c1', c1']
          · obtain ⟨c, hc, _⟩ := (h.row y hy).arr
            rw [k5 _ _ ((oo _ (hgs y hy) (h.ginj y hy x hx hyx) (hgb y hy)).trans hc), hc]
          · rw [hmem x]
            exact ⟨fun _ => by rw [hl]; simp, fun _ => ⟨0, by omega, hb0⟩⟩
        · by_cases e : y = x
          · subst e; simp only [updR_same, hr']
          · rw [updR_ne _ _ _ e]
      · rintro e w' ⟨rfl, w0, ⟨⟨rc', at', n', H', hqi, hgl⟩, hfr0, hfar⟩, hz, ho, hfr1⟩
        refine .inr ⟨x, i, l, hf, by omega, ?_, ⟨rc', at', n', H', hqi.keep1 hz (fun y hy => by rw [hgl y hy]; have := hgs y hy; omega) ho, hgl⟩, hfr0.trans (hfr1.mono (by simp)), fun z c hz' hgz => (ho z (by have := block_lt hz'; omega)).trans (hfar z c hz' hgz)⟩
        rw [← hfr]

end Go.Proofs.Qxb6601345a
