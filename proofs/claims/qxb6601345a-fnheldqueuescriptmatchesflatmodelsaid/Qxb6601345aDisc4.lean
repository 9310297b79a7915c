import Derived.Test.Qxb6601345aDisc3
import Derived.Test.Qxb6601345aStep
namespace Go.Proofs.Qxb6601345a
open Go.RowKit
set_option linter.unusedVariables false
set_option linter.unusedSimpArgs false

/-- What discard says. -/
def Discarded (N : Nat) (w : World) (q : Nat) (mv lv : Value) (m : Nat) (bk snd : Nat → Nat) (mc : Nat → MsgV) (ids : Nat → List Nat) (s : Nat) (above thr : Int) (w' : World) : Prop :=
  (∃ ids' rc' at_ n H, QI N w' q mv lv m bk snd mc ids' rc' at_ n H ∧ ∀ y, y < m → ids' y = if snd y = s then (ids y).filter (stays mc above thr) else ids y) ∧ Fr N [65, 76, 78, 80] w w'

theorem filter_stays_fr {mc : Nat → MsgV} {above thr : Int} {l : List Nat} {i : Nat} (h : i ∈ l.filter (stays mc above thr)) : i ∈ l := (List.mem_filter.1 h).1

theorem disc_any (N : Nat) (w : World) (q bm : Nat) (lv : Value) (m : Nat) (bk snd : Nat → Nat) (mc : Nat → MsgV) (ids : Nat → List Nat) (rc : Nat → Rec) (at_ : Nat → Nat) (n : Nat) (H : Nat → Nat) (s : Nat) (hs : s < 65536) (above thr : Int)
    (h : QI N w q (.map (some bm)) lv m bk snd mc ids rc at_ n H) (hm : QMap w bm m bk snd) :
    Calls Try.prog 38 #[.pointer (some ⟨q, 0, none⟩), .int .u16 s, .int .i64 above, .int .i64 thr] w fun e w' => e = .returned (.tuple #[]) ∧ Discarded N w q (.map (some bm)) lv m bk snd mc ids s above thr w' := by
  obtain ⟨k, f, hf1, hf2, hf3⟩ := hm
  have hlook := hf1.lookup hs
  obtain ⟨ta, tc, hq, _⟩ := h.qs.top
  by_cases hx : ∃ x, x < m ∧ snd x = s
  · obtain ⟨x, hx, hxs⟩ := hx
    have hother : ∀ y, y < m → y ≠ x → snd y ≠ s := fun y hy hyx e => by
      have h1 := hf2 y hy
      rw [e, ← hxs, hf2 x hx] at h1
      simp only [Option.some.injEq] at h1
      have := h.qs.inj y hy x hx hyx
      rw [(h.same y hy).1, (h.same x hx).1] at this
      exact this h1.symm
    have hids : ∀ (l : List Nat), l = (ids x).filter (stays mc above thr) → ∀ y, y < m → updL ids x l y = if snd y = s then (ids y).filter (stays mc above thr) else ids y := fun l hl y hy => by
      by_cases e : y = x
      · subst e; rw [updL_same, if_pos hxs, hl]
      · rw [updL_ne _ _ _ e, if_neg (hother y hy e)]
    have hbk := (h.same x hx).1
    rw [← hxs, hf2 x hx, ← hbk] at hlook
    rw [← hxs]
    have hrow := h.row x hx
    have hrun := h.qs.run x hx
    by_cases h0 : ids x = []
    · have hlen := hrow.len
      rw [h0] at hlen
      simp only [List.length_nil, Nat.add_zero] at hlen
      have hrun' : w.heap[(rc x).blk]? = some (.cells #[.int .u16 (rc x).snd, .slice (some ⟨(rc x).g, 0, none⟩) (rc x).head (rc x).cap, .int .i64 (rc x).head, .int .i64 (at_ x)] 80) := by
        rw [hrun, recObj, ← hlen]
      refine Calls.mono (disc_empty w q bm (rc x).blk (rc x).g (rc x).head (rc x).cap (at_ x) (rc x).snd _ lv (snd x) above thr hq hlook hrun' (by have := hrow.max; omega)) ?_
      rintro e w' ⟨rfl, nd, rfl⟩
      refine ⟨rfl, ⟨ids, rc, at_, n, H, h.keep fun c _ => rfl, fun y hy => ?_⟩, (Fr.refl _ _ _).drewN nd⟩
      by_cases e : y = x
      · subst e; rw [if_pos rfl, h0]; rfl
      · rw [if_neg (by rw [hxs]; exact hother y hy e)]
    · obtain ⟨i, hin, hHi⟩ := (h.mem x hx).2 h0
      have hat : at_ x = i := by rw [← hHi]; exact h.qs.told i hin
      obtain ⟨n0, rfl⟩ : ∃ n0, n = n0 + 1 := ⟨n - 1, by omega⟩
      have hlen := hrow.len
      have hl0 : 0 < (ids x).length := List.length_pos_iff.2 h0
      have hgs : ∀ y, y < m → (rc y).g < w.heap.size := fun y hy => by
        obtain ⟨c, hc, _⟩ := (h.row y hy).arr
        exact block_lt hc
      have hgb : ∀ y, y < m → (rc y).g ≠ (rc x).blk := fun y hy e => by
        obtain ⟨c, hc, _⟩ := (h.row y hy).arr
        rw [e, hrun] at hc
        simp [recObj] at hc
      obtain ⟨cm, hg, hcs, hcm⟩ := hrow.arr
      have hrun' : w.heap[(rc x).blk]? = some (.cells #[.int .u16 (rc x).snd, .slice (some ⟨(rc x).g, 0, none⟩) ((rc x).head + (ids x).length) (rc x).cap, .int .i64 (rc x).head, .int .i64 i] 80) := by
        rw [hrun, recObj, hlen, hat]
      -- run x is off the heap
      obtain ⟨R, hRdef⟩ : ∃ R : World → Prop, R = fun w2 => ∃ at' H', QS N w2 q (.map (some bm)) lv m rc at' (tsOf mc ids) n0 H' ∧ Removed (ltR (tsOf mc ids) rc) n0 i H H' ∧ at' x = i ∧ Fr N [76, 78, 80] w w2 := ⟨_, rfl⟩
      have hne : ∀ k, k < n0 + 1 → k ≠ i → H k ≠ x := fun k hk hki => by rw [← hHi]; exact h.qs.hinj k hk i hin hki
      -- what the last world must be
      have hmid : ∀ w2, R w2 → ∀ wr wf K r', DL N w2 wr (rc x).g (rc x).head (rc x).cap mc (ids x) (ids x).length K → (∀ c, c ≠ (rc x).blk → wf.heap[c]? = wr.heap[c]?) → (∀ at' : Nat → Nat, at' x = i → wf.heap[(rc x).blk]? = some (recObj r' (at' x))) →
          r'.blk = (rc x).blk → r'.snd = (rc x).snd → r'.g = (rc x).g →
          ∃ at' H', QS N wf q (.map (some bm)) lv m (updR rc x r') at' (tsOf mc (updL ids x K)) n0 H' ∧ Removed (ltR (tsOf mc ids) rc) n0 i H H' ∧ PlainHeap.Heap (ltR (tsOf mc (updL ids x K)) (updR rc x r')) n0 H' ∧ (∀ k, k < n0 → H' k ≠ x) ∧ (∀ y, y < m → y ≠ x → wf.heap[(rc y).g]? = w.heap[(rc y).g]?) := by
        intro w2 hR wr wf K r' hDL ho hb r1 r2 r3
        rw [hRdef] at hR
        obtain ⟨at', H', hqs, hrm, hat', hfr⟩ := hR
        have hnx : ∀ k, k < n0 → H' k ≠ x := fun k hk e => by
          obtain ⟨k', hk', hki, e'⟩ := (mem_remove hrm x).1 ⟨k, hk, e⟩
          exact hne k' hk' hki e'
        have hoo : ∀ c, c < w2.heap.size → c ≠ (rc x).g → c ≠ (rc x).blk → wf.heap[c]? = w2.heap[c]? := fun c h1 h2 h3 => (ho c h3).trans (hDL.old c h1 h2)
        have hg2 : ∀ y, y < m → w2.heap[(rc y).g]? = w.heap[(rc y).g]? := fun y hy => by
          obtain ⟨c, hc, _⟩ := (h.row y hy).arr
          rw [hfr.keep hc (by simp), hc]
        have hgx2 := (hg2 x hx).trans hg
        have hbx2 := hqs.run x hx
        have hgl2 : ∀ y, y < m → (rc y).g < w2.heap.size := fun y hy => Nat.lt_of_lt_of_le (hgs y hy) hfr.below.size
        refine ⟨at', H', hqs.next (rc' := updR rc x r') (fun y hy => ?_) (fun y hy => ?_) ?_ (fun T c hT => ?_) (fun k hk => ?_), hrm, heap_congr (heap_remove (ltR_ord _ _) h.heap h.qs.hinj hrm) (fun j hj k hk => ltR_upd (hnx j hj) (hnx k hk)), hnx, fun y hy hyx => ?_⟩
        · by_cases e : y = x
          · subst e; rw [updR_same, r1]
          · rw [updR_ne _ _ _ e]
        · by_cases e : y = x
          · subst e; rw [updR_same]; exact hb at' hat'
          · rw [updR_ne _ _ _ e, hoo _ (block_lt (hqs.run y hy)) (fun e' => ?_) (hqs.inj y hy x hx e)]
            · exact hqs.run y hy
            · have := hqs.run y hy
              rw [e', hgx2] at this
              simp [recObj] at this
        · obtain ⟨ta2, tc2, hq2, _⟩ := hqs.top
          refine hoo q (block_lt hq2) (fun e => ?_) (fun e => ?_)
          · rw [e, hgx2] at hq2; simp at hq2
          · rw [e, hbx2] at hq2; simp [recObj] at hq2
        · rw [hoo T (block_lt hT) (fun e => ?_) (fun e => ?_)]
          · exact hT
          · rw [e, hgx2] at hT; simp at hT
          · rw [e, hbx2] at hT; simp [recObj] at hT
        · have hkm := hqs.dom k hk
          rw [updR_ne _ _ _ (hnx k hk), tsOf_ne (hnx k hk)]
          exact (hqs.key _ ⟨k, hk, rfl⟩).keep fun c _ => hoo _ (hgl2 _ hkm) (h.ginj _ hkm x hx (hnx k hk)) (hgb _ hkm)
        · rw [hoo _ (hgl2 y hy) (h.ginj y hy x hx hyx) (hgb y hy), hg2 y hy]
      have hRb : ∀ w2, R w2 → w2.heap[(rc x).blk]? = some (.cells #[.int .u16 (rc x).snd, .slice (some ⟨(rc x).g, 0, none⟩) ((rc x).head + (ids x).length) (rc x).cap, .int .i64 (rc x).head, .int .i64 i] 80) := fun w2 hR => by
        rw [hRdef] at hR
        obtain ⟨at', H', hqs, hrm, hat', hfr⟩ := hR
        rw [hqs.run x hx, recObj, hlen, hat']
      refine disc_walk N w q bm (rc x).blk (rc x).g (rc x).head (rc x).cap i (rc x).snd _ lv (snd x) above thr mc (ids x) (ids x).length rfl R (Discarded N w q (.map (some bm)) lv m bk snd mc ids (snd x) above thr) hq hlook hrun' hl0 (by rw [hlen]; exact hrow.max) (by rw [hlen]; exact hrow.cap) (h.gN x hx) (hgb x hx) ?_ ?_ ?_ ?_
      · rintro wd ⟨nd, rfl⟩
        have h' : QI N (w.drewN nd) q (.map (some bm)) lv m bk snd mc ids rc at_ (n0 + 1) H := h.keep fun c _ => rfl
        obtain ⟨T, cap, hB⟩ := h'.qs.toQB (by omega)
        refine Calls.mono (remove_any N (w.drewN nd) q (.map (some bm)) lv m rc at_ (tsOf mc ids) T cap n0 H i hB (by omega) (fun k hk => h'.qs.key _ ⟨k, hk, rfl⟩)) ?_
        rintro e w2 ⟨rfl, at', H', h1, h2, h3, h4⟩
        refine ⟨rfl, ?_⟩
        rw [hRdef]
        exact ⟨at', H', h1, h2, by rw [h3 x hne, hat], ((Fr.refl _ _ _).drewN nd).trans h4⟩
      · intro w2 hR
        rw [hRdef] at hR
        obtain ⟨at', H', hqs, hrm, hat', hfr⟩ := hR
        refine ⟨by rw [hqs.run x hx, recObj, hlen, hat'], DL.start (hfr.keep hg (by simp)) hcs hcm, Nat.le_trans h.N_lt hfr.below.size⟩
      · rintro w2 hR wr hDL hK wd ⟨nd, rfl⟩
        have hfr2 : Fr N [76, 78, 80] w w2 := by
          rw [hRdef] at hR
          obtain ⟨at', H', hqs, hrm, hat', hfr⟩ := hR
          exact hfr
        have hb2 := (hDL.old _ (block_lt (hRb w2 hR)) (Ne.symm (hgb x hx))).trans (hRb w2 hR)
        rw [hK] at hDL
        have s1 : ((wr.setCell ⟨(rc x).blk, 1, none⟩ (.slice (some ⟨(rc x).g, 0, none⟩) (rc x).head (rc x).cap)).drewN nd).heap[(rc x).blk]? = _ := set_block (o := 1) hb2 (.slice (some ⟨(rc x).g, 0, none⟩) (rc x).head (rc x).cap)
        have s2 := set_block (o := 1) s1 (.slice (some ⟨(rc x).g, 0, none⟩) 0 (rc x).cap)
        have s3 := set_block (o := 2) s2 (.int .i64 0)
        have f1 : Fr N [65, 76, 78, 80] w wr := (hfr2.mono (by simp)).trans (hDL.fr.mono (by simp))
        have f3 := (((f1.set (o := 1) hb2 (by simp) (h.qs.own x hx) (.slice (some ⟨(rc x).g, 0, none⟩) (rc x).head (rc x).cap)).drewN nd).set (o := 1) s1 (by simp) (h.qs.own x hx) (.slice (some ⟨(rc x).g, 0, none⟩) 0 (rc x).cap)).set (o := 2) s2 (by simp) (h.qs.own x hx) (.int .i64 0)
        have o3 : ∀ c, c ≠ (rc x).blk → ((((wr.setCell ⟨(rc x).blk, 1, none⟩ (.slice (some ⟨(rc x).g, 0, none⟩) (rc x).head (rc x).cap)).drewN nd).setCell ⟨(rc x).blk, 1, none⟩ (.slice (some ⟨(rc x).g, 0, none⟩) 0 (rc x).cap)).setCell ⟨(rc x).blk, 2, none⟩ (.int .i64 0)).heap[c]? = wr.heap[c]? := fun c hc => by
          rw [set_other _ hc, set_other _ hc]
          show (wr.setCell _ _).heap[c]? = _
          rw [set_other _ hc]
        generalize (((wr.setCell ⟨(rc x).blk, 1, none⟩ (.slice (some ⟨(rc x).g, 0, none⟩) (rc x).head (rc x).cap)).drewN nd).setCell ⟨(rc x).blk, 1, none⟩ (.slice (some ⟨(rc x).g, 0, none⟩) 0 (rc x).cap)).setCell ⟨(rc x).blk, 2, none⟩ (.int .i64 0) = wf at *
        obtain ⟨r', hr'⟩ : ∃ r' : Rec, r' = { rc x with len := 0, head := 0 } := ⟨_, rfl⟩
        have hr1 : r'.blk = (rc x).blk := by rw [hr']
        have hr2 : r'.snd = (rc x).snd := by rw [hr']
        have hr3 : r'.g = (rc x).g := by rw [hr']
        obtain ⟨at', H', hqs, hrm, hheap, hnx, hold⟩ := hmid w2 hR wr wf [] r' hDL o3 (fun at' e => by rw [s3, e, hr']; rfl) hr1 hr2 hr3
        refine ⟨⟨updL ids x [], _, at', n0, H', h.build (l := []) (by simp) ⟨hr1, hr2, hr3⟩ hqs hheap ?_ hold (fun y hy hyx => ?_) ?_, fun y hy => ?_⟩, f3⟩
        · obtain ⟨cur, c1, c2, _⟩ := hDL.arr
          rw [hr']
          exact ⟨rfl, by show 0 ≤ 4096; omega, by show 0 ≤ _; omega, cur, (o3 _ (hgb x hx)).trans c1, c2, fun k hk => by simp at hk⟩
        · rw [mem_remove hrm]
          constructor
          · rintro ⟨k, hk, _, e⟩; exact ⟨k, hk, e⟩
          · rintro ⟨k, hk, e⟩
            refine ⟨k, hk, fun e' => ?_, e⟩
            rw [e', hHi] at e
            exact hyx e.symm
        · constructor
          · rintro ⟨k, hk, e⟩; exact absurd e (hnx k hk)
          · intro e; exact absurd rfl e
        · have := hids [] hK.symm y hy
          rwa [← hxs] at this
      · rintro w2 hR wr hDL hK wd ⟨nd, rfl⟩
        have hfr2 : Fr N [76, 78, 80] w w2 := by
          rw [hRdef] at hR
          obtain ⟨at', H', hqs, hrm, hat', hfr⟩ := hR
          exact hfr
        have hb2 := (hDL.old _ (block_lt (hRb w2 hR)) (Ne.symm (hgb x hx))).trans (hRb w2 hR)
        obtain ⟨K, hKd⟩ : ∃ K, K = (ids x).filter (stays mc above thr) := ⟨_, rfl⟩
        rw [← hKd] at hDL hK ⊢
        have s1 : ((wr.setCell ⟨(rc x).blk, 1, none⟩ (.slice (some ⟨(rc x).g, 0, none⟩) ((rc x).head + K.length) (rc x).cap)).drewN nd).heap[(rc x).blk]? = _ := set_block (o := 1) hb2 (.slice (some ⟨(rc x).g, 0, none⟩) ((rc x).head + K.length) (rc x).cap)
        have f1 : Fr N [65, 76, 78, 80] w wr := (hfr2.mono (by simp)).trans (hDL.fr.mono (by simp))
        have f3 := (f1.set (o := 1) hb2 (by simp) (h.qs.own x hx) (.slice (some ⟨(rc x).g, 0, none⟩) ((rc x).head + K.length) (rc x).cap)).drewN nd
        have o3 : ∀ c, c ≠ (rc x).blk → ((wr.setCell ⟨(rc x).blk, 1, none⟩ (.slice (some ⟨(rc x).g, 0, none⟩) ((rc x).head + K.length) (rc x).cap)).drewN nd).heap[c]? = wr.heap[c]? := fun c hc => by
          show (wr.setCell _ _).heap[c]? = _
          rw [set_other _ hc]
        generalize (wr.setCell ⟨(rc x).blk, 1, none⟩ (.slice (some ⟨(rc x).g, 0, none⟩) ((rc x).head + K.length) (rc x).cap)).drewN nd = wf at *
        obtain ⟨r', hr'⟩ : ∃ r' : Rec, r' = { rc x with len := (rc x).head + K.length } := ⟨_, rfl⟩
        have hr1 : r'.blk = (rc x).blk := by rw [hr']
        have hr2 : r'.snd = (rc x).snd := by rw [hr']
        have hr3 : r'.g = (rc x).g := by rw [hr']
        obtain ⟨at', H', hqs, hrm, hheap, hnx, hold⟩ := hmid w2 hR wr wf K r' hDL o3 (fun at' e => by rw [s1, e, hr']; rfl) hr1 hr2 hr3
        have hkl := hDL.klen
        have hrow' : Row wf mc r' K := by
          obtain ⟨cur, c1, c2, c3, _⟩ := hDL.arr
          have h1 := hrow.max
          have h2 := hrow.cap
          rw [hr']
          exact ⟨rfl, by show (rc x).head + K.length ≤ 4096; omega, by show (rc x).head + K.length ≤ (rc x).cap; omega, cur, (o3 _ (hgb x hx)).trans c1, c2, c3⟩
        obtain ⟨i2, l2, hK2⟩ : ∃ i2 l2, K = i2 :: l2 := by
          cases K with
          | nil => exact absurd rfl hK
          | cons i2 l2 => exact ⟨i2, l2, rfl⟩
        have hsub : ∀ j, j ∈ K → j ∈ ids x := fun j hj => by rw [hKd] at hj; exact filter_stays_fr hj
        have hkx : HeadIs wf (updR rc x r' x) (tsOf mc (updL ids x K) x) (updR rc x r' x).snd := by
          rw [updR_same, tsOf_eq (by rw [updL_same, hK2])]
          have h2 := hrow'
          rw [hK2] at h2
          have h3 := h2.headIs
          have h4 : (mc i2).fr = r'.snd := by rw [hr2, (h.same _ hx).2]; exact h.fr _ hx i2 (hsub i2 (by rw [hK2]; simp))
          rw [h4] at h3
          exact h3
        have hC := push_any N wf q (.map (some bm)) lv m (updR rc x r') at' (tsOf mc (updL ids x K)) n0 H' x hqs (Nat.le_trans h.N_lt f3.below.size) hx hnx hkx (by have := h.qs.nmax; omega)
        rw [updR_same, hr1] at hC
        refine Calls.mono hC ?_
        rintro e w' ⟨rfl, at2, hq2, _, hfrp⟩
        have k5 : ∀ (c : Nat) (cc : Array Value), wf.heap[c]? = some (Obj.cells cc 65) → w'.heap[c]? = some (Obj.cells cc 65) := fun c cc hc => hfrp.keep hc (by simp)
        refine ⟨rfl, ⟨updL ids x K, _, at2, n0 + 1, _, h.build (l := K) hsub ⟨hr1, hr2, hr3⟩ hq2 (heap_push (ltR_ord _ _) hheap) ?_ (fun y hy hyx => ?_) (fun y hy hyx => ?_) ?_, fun y hy => ?_⟩, f3.trans (hfrp.mono (by simp))⟩
        · obtain ⟨cur, c1, _⟩ := hrow'.arr
          exact hrow'.keep (by rw [k5 _ _ c1, c1])
        · obtain ⟨c, hc, _⟩ := (h.row y hy).arr
          rw [k5 _ _ ((hold y hy hyx).trans hc), hc]
        · rw [mem_push, mem_remove hrm]
          constructor
          · rintro (e | ⟨k, hk, _, e⟩)
            · exact absurd e hyx
            · exact ⟨k, hk, e⟩
          · rintro ⟨k, hk, e⟩
            refine .inr ⟨k, hk, fun e' => ?_, e⟩
            rw [e', hHi] at e
            exact hyx e.symm
        · rw [mem_push]
          exact ⟨fun _ => hK, fun _ => .inl rfl⟩
        · have := hids K hKd y hy
          rwa [← hxs] at this
  · have hfn := hf3 s (fun x hx' e => hx ⟨x, hx', e⟩)
    rw [hfn] at hlook
    refine Calls.mono (disc_nil w q bm _ lv s above thr hq hlook) ?_
    rintro e w' ⟨rfl, nd, rfl⟩
    exact ⟨rfl, ⟨ids, rc, at_, n, H, h.keep fun c _ => rfl, fun y hy => by rw [if_neg (fun e => hx ⟨y, hy, e⟩)]⟩, (Fr.refl _ _ _).drewN nd⟩

end Go.Proofs.Qxb6601345a
