import Derived.Test.Qxb6601345aHeapDown
import Derived.Test.Qxb6601345aAppend
import Derived.Deep.RegionHeld3
namespace Go.Proofs.Qxb6601345a
open Go.RowKit
set_option linter.unusedVariables false
set_option linter.unusedSimpArgs false

theorem Try.info76 : (Try.prog.info? 76).map (fun i => (i.zero, i.size, i.bytes)) = some (some (.pointer none), 1, 8) := by kernel_rfl

/-- The pointers of the heap's row. -/
def ptrs (rc : Nat → Rec) (n : Nat) (H : Nat → Nat) : List Value := (List.range n).map fun k => ptrTo (rc (H k))

theorem ptrs_len (rc : Nat → Rec) (n : Nat) (H : Nat → Nat) : (ptrs rc n H).length = n := by simp [ptrs]
theorem ptrs_at (rc : Nat → Rec) (n : Nat) (H : Nat → Nat) (k : Nat) (hk : k < n) : (ptrs rc n H)[k]? = some (ptrTo (rc (H k))) := by simp [ptrs, hk]
theorem ptrs_snoc (rc : Nat → Rec) (n : Nat) (H : Nat → Nat) (x : Nat) : ptrs rc (n + 1) (upd H n x) = ptrs rc n H ++ [ptrTo (rc x)] := by
  unfold ptrs
  rw [List.range_succ, List.map_append]
  congr 1
  · apply List.map_congr_left
    intro k hk
    have := List.mem_range.1 hk
    simp [upd, show k ≠ n from by omega]
  · simp [upd]

/-- The queue's heap: the queue's block q holds the heap's slice; runs 0 .. m - 1; the heap has n runs, H. -/
structure QS (N : Nat) (w : World) (q : Nat) (mv lv : Value) (m : Nat) (rc : Nat → Rec) (at_ : Nat → Nat) (ts : Nat → Int) (n : Nat) (H : Nat → Nat) : Prop where
  run : ∀ x, x < m → w.heap[(rc x).blk]? = some (recObj (rc x) (at_ x))
  inj : ∀ x, x < m → ∀ y, y < m → x ≠ y → (rc x).blk ≠ (rc y).blk
  own : ∀ x, x < m → N ≤ (rc x).blk
  top : ∃ ta tc, w.heap[q]? = some (.cells #[mv, .slice ta n tc, lv] 78) ∧ w.ownsRow N 76 1 (.slice ta n tc) n (ptrs rc n H)
  qN : N ≤ q
  dom : ∀ k, k < n → H k < m
  hinj : ∀ j, j < n → ∀ k, k < n → j ≠ k → H j ≠ H k
  key : ∀ x, (∃ k, k < n ∧ H k = x) → HeadIs w (rc x) (ts x) (rc x).snd
  told : ∀ k, k < n → at_ (H k) = k
  nmax : n ≤ 4096

theorem fr_grown {N : Nat} {w w2 : World} {o : Obj} {v : Value} {e size n : Nat} {xs : List Value} (hown : w.ownsRow N e size v n xs) (hN : N ≤ w.heap.size) (hg : (w.alloc o).grownBy w2 v.ownBlock) : Fr N [e] w w2 := by
  refine ⟨((Below.refl _ _).alloc hN o).grown hg (by simp; omega) (fun k hk => (hown.lt k hk).1), fun b hb ht => ?_⟩
  rw [hg.block b (by simp; omega) (fun e' => ?_), Below.heap_alloc _ _ _ hb]
  rcases hown.2 with ⟨rfl, _⟩ | ⟨g, cap, cur, rfl, _, hc, _⟩
  · cases e'
  · simp only [Value.ownBlock, Option.some.injEq] at e'
    subst e'
    exact ht _ _ _ hc (by simp)

theorem HS.toQS {N : Nat} {w : World} {q : Nat} {mv lv : Value} {m : Nat} {rc : Nat → Rec} {at_ : Nat → Nat} {ts : Nat → Int} {T cap n : Nat} {H : Nat → Nat} (h : HS w m rc at_ ts T cap n n H)
    (hq : w.heap[q]? = some (.cells #[mv, .slice (some ⟨T, 0, none⟩) n cap, lv] 78)) (hT : N ≤ T) (hqN : N ≤ q) (hb : ∀ x, x < m → N ≤ (rc x).blk) (ht : ∀ k, k < n → at_ (H k) = k) : QS N w q mv lv m rc at_ ts n H := by
  refine ⟨h.run, h.inj, hb, ⟨_, _, hq, ?_⟩, hqN, h.dom, h.hinj, h.key, ht, h.nmax⟩
  obtain ⟨cur, hc, hcs, hca⟩ := h.arr
  refine ⟨by rw [ptrs_len]; omega, .inr ⟨T, cap, cur, rfl, hT, hc, h.ncap, h.cmax, by omega, ?_⟩⟩
  apply List.ext_getElem?
  intro k
  rw [Nat.mul_one, List.getElem?_take]
  by_cases hk : k < n
  · rw [if_pos hk, ptrs_at _ _ _ _ hk, Array.getElem?_toList]
    exact hca k hk (by omega)
  · rw [if_neg hk, List.getElem?_eq_none (by rw [ptrs_len]; omega)]

theorem QS.toHS {N : Nat} {w : World} {q : Nat} {mv lv : Value} {m : Nat} {rc : Nat → Rec} {at_ : Nat → Nat} {ts : Nat → Int} {n : Nat} {H : Nat → Nat} (h : QS N w q mv lv m rc at_ ts n H) (h0 : 0 < n) :
    ∃ T cap, w.heap[q]? = some (.cells #[mv, .slice (some ⟨T, 0, none⟩) n cap, lv] 78) ∧ N ≤ T ∧ HS w m rc at_ ts T cap n n H := by
  obtain ⟨ta, tc, hq, hown⟩ := h.top
  rcases hown.2 with ⟨e, h0'⟩ | ⟨g, cap, cur, e, hg, hc, hn, hm, hs, htk⟩
  · omega
  · simp only [Value.slice.injEq] at e
    obtain ⟨rfl, _, rfl⟩ := e
    refine ⟨g, _, hq, hg, h.run, h.inj, ⟨cur, hc, by omega, fun k hk _ => ?_⟩, h.dom, h.hinj, h.key, hn, h.nmax, hm⟩
    have e1 := ptrs_at rc n H k hk
    rw [← htk, Nat.mul_one, List.getElem?_take, if_pos hk, Array.getElem?_toList] at e1
    exact e1

/-- The row behind an append: the new run stands at its end. -/
theorem QS.grown {N : Nat} {w w2 : World} {q : Nat} {mv lv : Value} {m : Nat} {rc : Nat → Rec} {at_ : Nat → Nat} {ts : Nat → Int} {n : Nat} {H : Nat → Nat} {x : Nat} (h : QS N w q mv lv m rc at_ ts n H)
    (hx : x < m) (hnx : ∀ k, k < n → H k ≠ x) (hkx : HeadIs w (rc x) (ts x) (rc x).snd) (hn : n < 4096) {v' : Value} (hown : w2.ownsRow N 76 1 v' (n + 1) (ptrs rc n H ++ [ptrTo (rc x)])) (hfr : Fr N [76] w w2) :
    ∃ T cap, v' = .slice (some ⟨T, 0, none⟩) (n + 1) cap ∧ N ≤ T ∧ HS (w2.setCell ⟨q, 1, none⟩ v') m rc at_ ts T cap (n + 1) (n + 1) (upd H n x) ∧
      (w2.setCell ⟨q, 1, none⟩ v').heap[q]? = some (.cells #[mv, v', lv] 78) ∧ Fr N [76, 78] w (w2.setCell ⟨q, 1, none⟩ v') := by
  obtain ⟨ta, tc, hq, _⟩ := h.top
  have hq2 := hfr.keep hq (by simp)
  rcases hown.2 with ⟨_, h0'⟩ | ⟨g, cap, cur, rfl, hg, hc, hnc, hm, hs, htk⟩
  · omega
  · have hqg : q ≠ g := by intro e; rw [e, hc] at hq2; simp at hq2
    have run2 : ∀ y, y < m → w2.heap[(rc y).blk]? = some (recObj (rc y) (at_ y)) := fun y hy => hfr.keep (h.run y hy) (by simp)
    have hqr : ∀ y, y < m → (rc y).blk ≠ q := by
      intro y hy e
      have := run2 y hy
      rw [e, hq2] at this
      simp [recObj] at this
    refine ⟨g, cap, rfl, hg, ⟨fun y hy => by rw [set_other _ (hqr y hy)]; exact run2 y hy, h.inj, ⟨cur, by rw [set_other _ (fun e => hqg e.symm)]; exact hc, by omega, fun k hk _ => ?_⟩, fun k hk => ?_, ?_, fun y hy => ?_, hnc, by omega, hm⟩, ?_, ?_⟩
    · have e1 := ptrs_at rc (n + 1) (upd H n x) k hk
      rw [ptrs_snoc, ← htk, Nat.mul_one, List.getElem?_take, if_pos hk, Array.getElem?_toList] at e1
      exact e1
    · unfold upd
      split
      · exact hx
      · exact h.dom k (by omega)
    · intro j hj k hk hjk
      unfold upd
      split
      · rename_i e1
        split
        · omega
        · exact fun e => hnx k (by omega) e.symm
      · split
        · exact hnx j (by omega)
        · exact h.hinj j (by omega) k (by omega) hjk
    · have hk1 : HeadIs w (rc y) (ts y) (rc y).snd := by
        obtain ⟨k, hk, e⟩ := hy
        unfold upd at e
        split at e
        · rw [← e]; exact hkx
        · exact h.key y ⟨k, by omega, e⟩
      obtain ⟨a1, a2, c, a3, a4⟩ := hk1
      have a3' := hfr.keep a3 (by simp)
      refine ⟨a1, a2, c, ?_, a4⟩
      rw [set_other _ (fun e => ?_)]
      · exact a3'
      · rw [e, hq2] at a3'; simp at a3'
    · rw [set_block hq2]; rfl
    · exact (hfr.mono (by simp)).set hq2 (by simp) h.qN _

theorem one_cell (w : World) (x : Value) (t B : Nat) (hB : B = w.heap.size) : ∀ (j : Nat) (u : Value), [x][j]? = some u → (w.alloc (.cells #[x] t)).cell? ((⟨B, 0, none⟩ : Addr).add j) = some u := by
  intro j u hj
  rw [Addr.add_lit, World.cell?_alloc_at _ _ _ _ hB]
  match j, hj with
  | 0, hj => simpa using hj

/-- Block z is not the heap's row. -/
def NotTop (w : World) (q : Nat) (mv lv : Value) (z : Nat) : Prop := ∀ ta tc k, w.heap[q]? = some (.cells #[mv, .slice ta k tc, lv] 78) → (Value.slice ta k tc).ownBlock ≠ some z

set_option maxHeartbeats 800000 in
theorem push_far (N : Nat) (w : World) (q : Nat) (mv lv : Value) (m : Nat) (rc : Nat → Rec) (at_ : Nat → Nat) (ts : Nat → Int) (n : Nat) (H : Nat → Nat) (x : Nat) (h : QS N w q mv lv m rc at_ ts n H) (hN : N ≤ w.heap.size)
    (hx : x < m) (hnx : ∀ k, k < n → H k ≠ x) (hkx : HeadIs w (rc x) (ts x) (rc x).snd) (hn : n < 4096) :
    Calls Try.prog 39 #[.pointer (some ⟨q, 1, none⟩), .pointer (some ⟨(rc x).blk, 0, none⟩)] w fun e w' => e = .returned (.tuple #[]) ∧ ∃ at', QS N w' q mv lv m rc at' ts (n + 1) (PlainHeap.upF (ltR ts rc) n (upd H n x) n) ∧
      (∀ y, (∀ k, k < n → H k ≠ y) → y ≠ x → at' y = at_ y) ∧ Fr N [76, 78, 80] w w' ∧ (∀ z, z < w.heap.size → z ≠ q → (∀ x, x < m → z ≠ (rc x).blk) → NotTop w q mv lv z → w'.heap[z]? = w.heap[z]? ∧ NotTop w' q mv lv z) := by
  obtain ⟨i0, hi0, hz0, hz1, hz2⟩ := info_parts Try.info76
  have HI := hide (And.intro hi0 (And.intro hz0 (And.intro hz1 hz2)))
  clear hi0 hz0 hz1 hz2
  obtain ⟨ta, tc, hq, hown⟩ := h.top
  have cq : w.cell? ⟨q, 1, none⟩ = some (.slice ta n tc) := by rw [cell_of hq]; rfl
  have hql := block_lt hq
  have HH := hide h
  have HO := hide hown
  have HQ := hide hq
  have HK := hide hkx
  have HNX := hide hnx
  clear h hown hq hkx hnx
  go_enter Try.func39, Try.ntmps39
  go_wp2_with (at_builtin; refine wpList_append2 _ rfl (.tmp 7) (.tmp 9) 75 rfl N 76 i0 _ 1 8 Try.underlying75 HI.out.1 HI.out.2.1 HI.out.2.2.1 HI.out.2.2.2 rfl (by decide) _ _ _ rfl (HO.out.alloc _) ⟨w.heap.size, 0, none⟩ 1 1 [.pointer (some ⟨(rc x).blk, 0, none⟩)] rfl rfl ?c2 ?c3 ?c4 ?c5 ?c6 ?c7)
  case c2 => exact one_cell _ _ _ _ rfl
  case c3 => intro u hu; simp at hu; subst hu; rfl
  case c4 => unfold maxLen; omega
  case c5 => omega
  case c6 => simp; omega
  case c7 =>
    intro v' w2 hown hg hblk
    have hfr : Fr N [76] w w2 := fr_grown HO.out hN hg
    obtain ⟨T, cap, rfl, hT, hhs, hqb, hfr2⟩ := HH.out.grown hx HNX.out HK.out hn hown hfr
    have HZ := hide (show ∀ z, z < w.heap.size → z ≠ q → NotTop w q mv lv z → (w2.setCell ⟨q, 1, none⟩ (.slice (some ⟨T, 0, none⟩) (n + 1) cap)).heap[z]? = w.heap[z]? ∧ T ≠ z from fun z hz hzq ht => by
      have ho := ht ta tc n HQ.out
      refine ⟨?_, fun e => ?_⟩
      · rw [set_other _ hzq, hg.block z (by rw [World.size_alloc]; omega) (fun e => ho e.symm)]
        exact Below.heap_alloc _ _ _ hz
      · rcases hblk with h1 | h1
        · exact ho (h1.symm.trans (by rw [← e]; rfl))
        · simp [Value.ownBlock] at h1
          omega)
    have hq2 := hfr.keep HQ.out (by simp)
    have cq2 : w2.cell? ⟨q, 1, none⟩ = some (.slice ta n tc) := by rw [cell_of hq2]; rfl
    have fq2 : w2.frozen? ⟨q, 1, none⟩ = false := frozen_of hq2
    clear cq hown hg hblk hfr hq2
    have HS3 := hide hhs
    have HQB := hide hqb
    have HF2 := hide hfr2
    clear hhs hqb hfr2
    go_upto_region 1 with fail
    clear cq2 fq2 hql
    generalize w2.setCell ⟨q, 1, none⟩ (.slice (some ⟨T, 0, none⟩) (n + 1) cap) = w3 at *
    have cq3 : w3.cell? ⟨q, 1, none⟩ = some (.slice (some ⟨T, 0, none⟩) (n + 1) cap) := by rw [cell_of HQB.out]; rfl
    have HC := hide <| up_far N w3.drew m rc at_ ts T cap (n + 1) (upd H n x) n hT HH.out.own (HS3.out.drawn ((Drawn.refl _).drew)) (by omega) (fun k hk hkn => by
      simp only [upd, hkn, if_false]; exact HH.out.told k (by omega))
    have HQD := hide (show w3.drew.heap[q]? = some (.cells #[mv, .slice (some ⟨T, 0, none⟩) (n + 1) cap, lv] 78) from HQB.out)
    have HWR := hide (show IntKind.i64.wrap (n : Int) = (n : Int) from by rw [IntKind.wrap_i64]; omega)
    go_region_held3 (fun w' => w'.cell? ⟨q, 1, none⟩ = some (.slice (some ⟨T, 0, none⟩) (n + 1) cap)) (first | assumption | simpa using cq3)
      (first | (go_at_call 44; rw [HWR.out]; refine Calls.mono HC.out ?_; rintro e w4 ⟨rfl, at', h4, h5, h6, h7, h8⟩; have cq4 : w4.cell? ⟨q, 1, none⟩ = some (.slice (some ⟨T, 0, none⟩) (n + 1) cap) := (by rw [cell_of (h7.keep HQD.out (by simp))]; rfl)))
    go_end0
    refine ⟨rfl, at', h4.toQS (h7.keep HQD.out (by simp)) hT HH.out.qN HH.out.own h5, fun y hy hyx => h6 y (fun k hk => ?_), ((HF2.out.mono (by simp)).drew).trans (h7.mono (by simp)), fun z h1 h2 h3 ht => ?_⟩
    rotate_left
    · obtain ⟨z1, z2⟩ := HZ.out z h1 h2 ht
      refine ⟨(h8 z (Ne.symm z2) h3).trans z1, fun ta' tc' k' hqq e => ?_⟩
      rw [h7.keep HQD.out (by simp)] at hqq
      simp at hqq
      obtain ⟨⟨rfl, _⟩, _⟩ := hqq
      simp [Value.ownBlock] at e
      exact z2 e
    unfold upd
    split
    · exact fun e => hyx e.symm
    · exact hy k (by omega)

theorem push_any (N : Nat) (w : World) (q : Nat) (mv lv : Value) (m : Nat) (rc : Nat → Rec) (at_ : Nat → Nat) (ts : Nat → Int) (n : Nat) (H : Nat → Nat) (x : Nat) (h : QS N w q mv lv m rc at_ ts n H) (hN : N ≤ w.heap.size)
    (hx : x < m) (hnx : ∀ k, k < n → H k ≠ x) (hkx : HeadIs w (rc x) (ts x) (rc x).snd) (hn : n < 4096) :
    Calls Try.prog 39 #[.pointer (some ⟨q, 1, none⟩), .pointer (some ⟨(rc x).blk, 0, none⟩)] w fun e w' => e = .returned (.tuple #[]) ∧ ∃ at', QS N w' q mv lv m rc at' ts (n + 1) (PlainHeap.upF (ltR ts rc) n (upd H n x) n) ∧
      (∀ y, (∀ k, k < n → H k ≠ y) → y ≠ x → at' y = at_ y) ∧ Fr N [76, 78, 80] w w' := by
  refine Calls.mono (push_far N w q mv lv m rc at_ ts n H x h hN hx hnx hkx hn) ?_
  rintro e w' ⟨h1, at', h2, h3, h4, _⟩
  exact ⟨h1, at', h2, h3, h4⟩

end Go.Proofs.Qxb6601345a
