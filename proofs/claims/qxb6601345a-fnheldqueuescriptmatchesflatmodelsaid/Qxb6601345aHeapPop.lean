import Derived.Test.Qxb6601345aHeapPush
namespace Go.Proofs.Qxb6601345a
open Go.RowKit
set_option linter.unusedVariables false
set_option linter.unusedSimpArgs false

/-- The queue's heap but for what its first messages are. -/
structure QB (N : Nat) (w : World) (q : Nat) (mv lv : Value) (m : Nat) (rc : Nat → Rec) (at_ : Nat → Nat) (T cap n : Nat) (H : Nat → Nat) : Prop where
  run : ∀ x, x < m → w.heap[(rc x).blk]? = some (recObj (rc x) (at_ x))
  inj : ∀ x, x < m → ∀ y, y < m → x ≠ y → (rc x).blk ≠ (rc y).blk
  own : ∀ x, x < m → N ≤ (rc x).blk
  top : w.heap[q]? = some (.cells #[mv, .slice (some ⟨T, 0, none⟩) n cap, lv] 78)
  arr : ∃ cur, w.heap[T]? = some (.cells cur 76) ∧ cur.size = cap ∧ ∀ k, k < n → cur[k]? = some (ptrTo (rc (H k)))
  TN : N ≤ T
  qN : N ≤ q
  dom : ∀ k, k < n → H k < m
  hinj : ∀ j, j < n → ∀ k, k < n → j ≠ k → H j ≠ H k
  told : ∀ k, k < n → at_ (H k) = k
  ncap : n ≤ cap
  nmax : n ≤ 4096
  cmax : cap ≤ maxLen

theorem QS.toQB {N : Nat} {w : World} {q : Nat} {mv lv : Value} {m : Nat} {rc : Nat → Rec} {at_ : Nat → Nat} {ts : Nat → Int} {n : Nat} {H : Nat → Nat} (h : QS N w q mv lv m rc at_ ts n H) (h0 : 0 < n) :
    ∃ T cap, QB N w q mv lv m rc at_ T cap n H := by
  obtain ⟨T, cap, hq, hT, hs⟩ := h.toHS h0
  obtain ⟨cur, h1, h2, h3⟩ := hs.arr
  exact ⟨T, cap, h.run, h.inj, h.own, hq, ⟨cur, h1, h2, fun k hk => h3 k hk (by omega)⟩, hT, h.qN, h.dom, h.hinj, h.told, hs.ncap, hs.nmax, hs.cmax⟩

section
variable {N : Nat} {w : World} {q : Nat} {mv lv : Value} {m : Nat} {rc : Nat → Rec} {at_ : Nat → Nat} {ts : Nat → Int} {T cap n : Nat} {H : Nat → Nat}

theorem QB.neT (h : QB N w q mv lv m rc at_ T cap n H) {x : Nat} (hx : x < m) : T ≠ (rc x).blk := by
  intro e
  obtain ⟨cur, hc, _⟩ := h.arr
  have hr := h.run x hx
  rw [← e, hc] at hr
  simp [recObj] at hr
theorem QB.neq (h : QB N w q mv lv m rc at_ T cap n H) {x : Nat} (hx : x < m) : q ≠ (rc x).blk := by
  intro e
  have hr := h.run x hx
  rw [← e, h.top] at hr
  simp [recObj] at hr
theorem QB.neqT (h : QB N w q mv lv m rc at_ T cap n H) : q ≠ T := by
  intro e
  obtain ⟨cur, hc, _⟩ := h.arr
  have := h.top
  rw [e, hc] at this
  simp at this
theorem QB.cellT (h : QB N w q mv lv m rc at_ T cap n H) {k : Nat} (hk : k < n) : w.cell? ⟨T, k, none⟩ = some (.pointer (some ⟨(rc (H k)).blk, 0, none⟩)) := by
  obtain ⟨cur, hc, _, hca⟩ := h.arr
  rw [cell_of hc]; exact hca k hk
theorem QB.frozenT (h : QB N w q mv lv m rc at_ T cap n H) (k : Nat) : w.frozen? ⟨T, k, none⟩ = false := by
  obtain ⟨cur, hc, _⟩ := h.arr
  exact frozen_of hc
theorem QB.cellq (h : QB N w q mv lv m rc at_ T cap n H) : w.cell? ⟨q, 1, none⟩ = some (.slice (some ⟨T, 0, none⟩) n cap) ∧ w.frozen? ⟨q, 1, none⟩ = false :=
  ⟨by rw [cell_of h.top]; rfl, frozen_of h.top⟩

/-- The row is shortened by its last place: its old last run stands at i (or i is that place). -/
theorem QB.shrunk (h : QB N w q mv lv m rc at_ T cap (n + 1) H) (i : Nat) (hi : i ≤ n) (hk : ∀ k, k < n + 1 → k ≠ i → HeadIs w (rc (H k)) (ts (H k)) (rc (H k)).snd) :
    HS (((w.setCell ⟨T, i, none⟩ (.pointer (some ⟨(rc (H n)).blk, 0, none⟩))).setCell ⟨T, n, none⟩ (.pointer none)).setCell ⟨q, 1, none⟩ (.slice (some ⟨T, 0, none⟩) n cap)) m rc at_ ts T cap n n (upd H i (H n)) ∧
    (((w.setCell ⟨T, i, none⟩ (.pointer (some ⟨(rc (H n)).blk, 0, none⟩))).setCell ⟨T, n, none⟩ (.pointer none)).setCell ⟨q, 1, none⟩ (.slice (some ⟨T, 0, none⟩) n cap)).heap[q]? = some (.cells #[mv, .slice (some ⟨T, 0, none⟩) n cap, lv] 78) ∧
    Fr N [76, 78] w (((w.setCell ⟨T, i, none⟩ (.pointer (some ⟨(rc (H n)).blk, 0, none⟩))).setCell ⟨T, n, none⟩ (.pointer none)).setCell ⟨q, 1, none⟩ (.slice (some ⟨T, 0, none⟩) n cap)) := by
  obtain ⟨cur, hc, hcs, hca⟩ := h.arr
  have hqT := h.neqT
  have hc1 : (w.setCell ⟨T, i, none⟩ (.pointer (some ⟨(rc (H n)).blk, 0, none⟩))).heap[T]? = some (.cells (cur.setIfInBounds i (ptrTo (rc (H n)))) 76) := set_block hc _
  have hc2 := set_block (o := n) hc1 (.pointer none)
  have oth : ∀ b, b ≠ T → b ≠ q → (((w.setCell ⟨T, i, none⟩ (.pointer (some ⟨(rc (H n)).blk, 0, none⟩))).setCell ⟨T, n, none⟩ (.pointer none)).setCell ⟨q, 1, none⟩ (.slice (some ⟨T, 0, none⟩) n cap)).heap[b]? = w.heap[b]? :=
    fun b h1 h2 => (set_other _ h2).trans ((set_other _ h1).trans (set_other _ h1))
  have hq2 : ((w.setCell ⟨T, i, none⟩ (.pointer (some ⟨(rc (H n)).blk, 0, none⟩))).setCell ⟨T, n, none⟩ (.pointer none)).heap[q]? = some (.cells #[mv, .slice (some ⟨T, 0, none⟩) (n + 1) cap, lv] 78) :=
    ((set_other _ hqT).trans (set_other _ hqT)).trans h.top
  have hnc := h.ncap
  have hnm := h.nmax
  refine ⟨⟨fun x hx => by rw [oth _ (fun e => h.neT hx e.symm) (fun e => h.neq hx e.symm)]; exact h.run x hx, h.inj, ⟨_, by rw [set_other _ (fun e => hqT e.symm)]; exact hc2, by simp [hcs], fun k hk' _ => ?_⟩, fun k hk' => ?_, ?_, fun y hy => ?_, by omega, by omega, h.cmax⟩, by rw [set_block hq2]; rfl, ?_⟩
  · rw [Array.getElem?_setIfInBounds_ne (by omega)]
    unfold upd
    by_cases e : k = i
    · subst e; rw [if_pos rfl, Array.getElem?_setIfInBounds_self_of_lt (by omega)]
    · rw [if_neg e, Array.getElem?_setIfInBounds_ne (by omega)]; exact hca k (by omega)
  · unfold upd
    split
    · exact h.dom n (by omega)
    · exact h.dom k (by omega)
  · intro a ha b hb hab
    unfold upd
    split
    · split
      · omega
      · exact h.hinj n (by omega) b (by omega) (by omega)
    · split
      · exact h.hinj a (by omega) n (by omega) (by omega)
      · exact h.hinj a (by omega) b (by omega) hab
  · have hk1 : HeadIs w (rc y) (ts y) (rc y).snd := by
      obtain ⟨k, hk', e⟩ := hy
      unfold upd at e
      split at e
      · rw [← e]; exact hk n (by omega) (by omega)
      · rename_i hne
        rw [← e]; exact hk k (by omega) hne
    refine hk1.keep fun c hg => oth _ (fun e => ?_) (fun e => ?_)
    · rw [e, hc] at hg; simp at hg
    · rw [e, h.top] at hg; simp at hg
  · exact ((((Fr.refl N _ w).set hc (by simp) h.TN _).set hc1 (by simp) h.TN _)).set hq2 (by simp) h.qN _
end

set_option maxHeartbeats 800000 in
theorem pop_any (N : Nat) (w : World) (q : Nat) (mv lv : Value) (m : Nat) (rc : Nat → Rec) (at_ : Nat → Nat) (ts : Nat → Int) (T cap n : Nat) (H : Nat → Nat) (h : QB N w q mv lv m rc at_ T cap (n + 1) H)
    (hk : ∀ k, k < n + 1 → k ≠ 0 → HeadIs w (rc (H k)) (ts (H k)) (rc (H k)).snd) :
    Calls Try.prog 45 #[.pointer (some ⟨q, 1, none⟩)] w fun e w' => e = .returned (.tuple #[]) ∧ ∃ at', QS N w' q mv lv m rc at' ts n (PlainHeap.downF (ltR ts rc) n n (upd H 0 (H n)) 0) ∧
      (∀ y, (∀ k, k < n + 1 → k ≠ 0 → H k ≠ y) → at' y = at_ y) ∧ Fr N [76, 78, 80] w w' := by
  obtain ⟨cq, fq⟩ := h.cellq
  have t0 := h.cellT (k := 0) (by omega)
  have tn := h.cellT (k := n) (by omega)
  have f0 := h.frozenT 0
  have fn := h.frozenT n
  have hqT := h.neqT
  have hnm := h.nmax
  have hnc := h.ncap
  have hcm := h.cmax
  unfold maxLen at hcm
  obtain ⟨s1, s2, s3⟩ := h.shrunk 0 (Nat.zero_le _) hk
  have HH := hide h
  have S1 := hide s1
  have S2 := hide s2
  have S3 := hide s3
  clear h hk s1 s2 s3
  by_cases hn : 0 < n
  · have hn' : (0 : Int) < (n : Int) := by omega
    have HC := hide <| down_any N _ m rc at_ ts T cap n (upd H 0 (H n)) 0 HH.out.TN HH.out.own S1.out hn (fun k hk hk0 => by
      simp only [upd, hk0, if_false]; exact HH.out.told k (by omega))
    go_enter Try.func45, Try.ntmps45
    go_wp2_with fail
    refine Calls.mono HC.out ?_
    rintro e w4 ⟨rfl, at', h4, h5, h6, h7⟩
    have H4 := hide h4
    have H5 := hide h5
    have H6 := hide h6
    have H7 := hide h7
    clear h4 h5 h6 h7
    go_wp2
    go_end0
    refine ⟨rfl, at', H4.out.toQS (H7.out.keep S2.out (by simp)) HH.out.TN HH.out.qN HH.out.own H5.out, fun y hy => H6.out y (fun k hk => ?_), (S3.out.mono (by simp)).trans (H7.out.mono (by simp))⟩
    unfold upd
    split
    · exact hy n (by omega) (by omega)
    · exact hy k (by omega) (by assumption)
  · have e : n = 0 := by omega
    subst e
    go_enter Try.func45, Try.ntmps45
    go_wp2
    go_end0
    refine ⟨rfl, at_, S1.out.toQS S2.out HH.out.TN HH.out.qN HH.out.own (fun k hk => by omega), fun y hy => rfl, S3.out.mono (by simp)⟩

/-- Run x, which is not in the heap, takes the place i of the row. -/
theorem HS.replace {w : World} {m : Nat} {rc : Nat → Rec} {at_ : Nat → Nat} {ts : Nat → Int} {T cap n : Nat} {H : Nat → Nat} (h : HS w m rc at_ ts T cap n n H) (i x : Nat) (hi : i < n) (hx : x < m) (hnx : ∀ k, k < n → H k ≠ x)
    (hkx : HeadIs w (rc x) (ts x) (rc x).snd) :
    HS ((w.setCell ⟨T, i, none⟩ (.pointer (some ⟨(rc x).blk, 0, none⟩))).setCell ⟨(rc x).blk, 3, none⟩ (.int .i64 i)) m rc (upd at_ x i) ts T cap n n (upd H i x) := by
  have hne := h.ne hx
  obtain ⟨cur, hc, hcs, hca⟩ := h.arr
  have hr := h.run x hx
  have hb1 : (w.setCell ⟨T, i, none⟩ (.pointer (some ⟨(rc x).blk, 0, none⟩))).heap[(rc x).blk]? = some (recObj (rc x) (at_ x)) := by rw [set_other _ (fun e => hne e.symm)]; exact hr
  have oth : ∀ b, b ≠ T → b ≠ (rc x).blk → ((w.setCell ⟨T, i, none⟩ (.pointer (some ⟨(rc x).blk, 0, none⟩))).setCell ⟨(rc x).blk, 3, none⟩ (.int .i64 i)).heap[b]? = w.heap[b]? :=
    fun b h1 h2 => (set_other _ h2).trans (set_other _ h1)
  refine ⟨fun y hy => ?_, h.inj, ⟨cur.setIfInBounds i (ptrTo (rc x)), ?_, by simp [hcs], fun k hk hk' => ?_⟩, fun k hk => ?_, ?_, fun y hy => ?_, h.ncap, h.nmax, h.cmax⟩
  · by_cases e : y = x
    · subst e
      rw [set_block (e := 80) (f := (0, 0)) hb1]
      simp [recObj, upd]
    · rw [oth _ (fun e' => h.ne hy e'.symm) (h.inj y hy x hx e), h.run y hy]
      simp [upd, e]
  · rw [set_other _ hne, set_block hc]; rfl
  · unfold upd
    by_cases e : k = i
    · subst e; rw [if_pos rfl, Array.getElem?_setIfInBounds_self_of_lt (by have := h.ncap; omega)]
    · rw [if_neg e, Array.getElem?_setIfInBounds_ne (by omega)]; exact hca k hk hk'
  · unfold upd
    split
    · exact hx
    · exact h.dom k hk
  · intro a ha b hb hab
    unfold upd
    split
    · split
      · omega
      · exact fun e => hnx b hb e.symm
    · split
      · exact hnx a ha
      · exact h.hinj a ha b hb hab
  · have hk1 : HeadIs w (rc y) (ts y) (rc y).snd := by
      obtain ⟨k, hk, e⟩ := hy
      unfold upd at e
      split at e
      · rw [← e]; exact hkx
      · exact h.key y ⟨k, hk, e⟩
    refine hk1.keep fun c hg => oth _ (fun e => ?_) (fun e => ?_)
    · rw [e, hc] at hg; simp at hg
    · rw [e, hr] at hg; simp [recObj] at hg

/-- The row's last place is let go. -/
theorem QB.cutoff {N : Nat} {w : World} {q : Nat} {mv lv : Value} {m : Nat} {rc : Nat → Rec} {at_ : Nat → Nat} {ts : Nat → Int} {T cap n : Nat} {H : Nat → Nat} (h : QB N w q mv lv m rc at_ T cap (n + 1) H) (hk : ∀ k, k < n → HeadIs w (rc (H k)) (ts (H k)) (rc (H k)).snd) :
    HS ((w.setCell ⟨T, n, none⟩ (.pointer none)).setCell ⟨q, 1, none⟩ (.slice (some ⟨T, 0, none⟩) n cap)) m rc at_ ts T cap n n H ∧
    ((w.setCell ⟨T, n, none⟩ (.pointer none)).setCell ⟨q, 1, none⟩ (.slice (some ⟨T, 0, none⟩) n cap)).heap[q]? = some (.cells #[mv, .slice (some ⟨T, 0, none⟩) n cap, lv] 78) ∧
    Fr N [76, 78] w ((w.setCell ⟨T, n, none⟩ (.pointer none)).setCell ⟨q, 1, none⟩ (.slice (some ⟨T, 0, none⟩) n cap)) := by
  obtain ⟨cur, hc, hcs, hca⟩ := h.arr
  have hqT := h.neqT
  have hc1 := set_block (o := n) hc (.pointer none)
  have oth : ∀ b, b ≠ T → b ≠ q → ((w.setCell ⟨T, n, none⟩ (.pointer none)).setCell ⟨q, 1, none⟩ (.slice (some ⟨T, 0, none⟩) n cap)).heap[b]? = w.heap[b]? :=
    fun b h1 h2 => (set_other _ h2).trans (set_other _ h1)
  have hq2 : (w.setCell ⟨T, n, none⟩ (.pointer none)).heap[q]? = some (.cells #[mv, .slice (some ⟨T, 0, none⟩) (n + 1) cap, lv] 78) := (set_other _ hqT).trans h.top
  have hnc := h.ncap
  have hnm := h.nmax
  refine ⟨⟨fun x hx => by rw [oth _ (fun e => h.neT hx e.symm) (fun e => h.neq hx e.symm)]; exact h.run x hx, h.inj, ⟨_, by rw [set_other _ (fun e => hqT e.symm)]; exact hc1, by simp [hcs], fun k hk' _ => ?_⟩, fun k hk' => h.dom k (by omega), fun a ha b hb => h.hinj a (by omega) b (by omega), fun y hy => ?_, by omega, by omega, h.cmax⟩, by rw [set_block hq2]; rfl, ?_⟩
  · rw [Array.getElem?_setIfInBounds_ne (by omega)]; exact hca k (by omega)
  · obtain ⟨k, hk', rfl⟩ := hy
    refine (hk k hk').keep fun c hg => oth _ (fun e => ?_) (fun e => ?_)
    · rw [e, hc] at hg; simp at hg
    · rw [e, h.top] at hg; simp at hg
  · exact ((Fr.refl N _ w).set hc (by simp) h.TN _).set hq2 (by simp) h.qN _

set_option maxHeartbeats 1600000 in
theorem remove_any (N : Nat) (w : World) (q : Nat) (mv lv : Value) (m : Nat) (rc : Nat → Rec) (at_ : Nat → Nat) (ts : Nat → Int) (T cap n : Nat) (H : Nat → Nat) (i : Nat) (h : QB N w q mv lv m rc at_ T cap (n + 1) H) (hi : i ≤ n)
    (hk : ∀ k, k < n + 1 → HeadIs w (rc (H k)) (ts (H k)) (rc (H k)).snd) :
    Calls Try.prog 43 #[.pointer (some ⟨q, 1, none⟩), .int .i64 i] w fun e w' => e = .returned (.tuple #[]) ∧ ∃ at' H', QS N w' q mv lv m rc at' ts n H' ∧
      ((i = n ∧ H' = H) ∨ (i < n ∧ ∃ j, j < n ∧ PlainHeap.downF (ltR ts rc) n (n - i) (upd H i (H n)) i j = H n ∧ H' = PlainHeap.upF (ltR ts rc) j (PlainHeap.downF (ltR ts rc) n (n - i) (upd H i (H n)) i) j)) ∧
      (∀ y, (∀ k, k < n + 1 → k ≠ i → H k ≠ y) → at' y = at_ y) ∧ Fr N [76, 78, 80] w w' := by
  obtain ⟨cq, fq⟩ := h.cellq
  have tn := h.cellT (k := n) (by omega)
  have fn := h.frozenT n
  have hqT := h.neqT
  have hnm := h.nmax
  have hnc := h.ncap
  have hcm := h.cmax
  unfold maxLen at hcm
  obtain ⟨s1, s2, s3⟩ := h.cutoff (fun k hk' => hk k (by omega))
  have hxm := h.dom n (by omega)
  have hnq := h.neq hxm
  have hnT := h.neT hxm
  have HX := hide (hk n (by omega))
  have HH := hide h
  have S1 := hide s1
  have S2 := hide s2
  have S3 := hide s3
  by_cases e : i = n
  · subst e
    clear h hk s1 s2 s3
    have hb : ((i : Int) == (i : Int)) = true := by simp
    go_enter Try.func43, Try.ntmps43
    go_wp2
    refine bodyPost_ret (results_none rfl _ _ _) rfl ?_
    exact ⟨by trivial, at_, H, S1.out.toQS S2.out HH.out.TN HH.out.qN HH.out.own (fun k hk => HH.out.told k (by omega)), .inl ⟨by trivial, rfl⟩, fun y hy => rfl, S3.out.mono (by simp)⟩
  · have hin : i < n := by omega
    have ti := h.cellT (k := i) (by omega)
    have fi := h.frozenT i
    obtain ⟨ca, fa⟩ := S1.out.cellAt hxm
    have hb : ((i : Int) == (n : Int)) = false := by simp; omega
    have hin' : (i : Int) < (n : Int) := by omega
    have hkx : HeadIs ((w.setCell ⟨T, n, none⟩ (.pointer none)).setCell ⟨q, 1, none⟩ (.slice (some ⟨T, 0, none⟩) n cap)) (rc (H n)) (ts (H n)) (rc (H n)).snd := by
      obtain ⟨a1, a2, c, a3, a4⟩ := HX.out
      exact ⟨a1, a2, c, S3.out.keep a3 (by simp), a4⟩
    have R1 := hide (S1.out.replace i (H n) hin hxm (fun k hk' => h.hinj k (by omega) n (by omega) (by omega)) hkx)
    have R2 := hide (S1.out.fr N i (H n) hxm h.TN (h.own _ hxm) (.pointer (some ⟨(rc (H n)).blk, 0, none⟩)) (.int .i64 i))
    have HC := hide <| down_any N _ m rc _ ts T cap n _ i h.TN h.own R1.out hin (fun k hk' hki => by
      have hne : H k ≠ H n := h.hinj k (by omega) n (by omega) (by omega)
      simp only [upd, hki, if_false, hne]; exact h.told k (by omega))
    clear h hk s1 s2 s3 hkx
    go_enter Try.func43, Try.ntmps43
    go_wp2_with fail
    refine Calls.mono HC.out ?_
    rintro e w4 ⟨rfl, at2, h4, h5, h6, h7⟩
    obtain ⟨j, hj, hjx⟩ := ((PlainHeap.downF_same (ltR ts rc) n (n - i) (upd H i (H n)) i hin).1 (H n)).2 ⟨i, hin, by simp [upd]⟩
    have hjat := h5 j hj
    rw [hjx] at hjat
    have ca4 := (h4.cellAt hxm).1
    rw [hjat] at ca4
    have hq4 := h7.keep (R2.out.keep S2.out (by simp)) (by simp)
    have cq4 : w4.cell? ⟨q, 1, none⟩ = some (.slice (some ⟨T, 0, none⟩) n cap) := by rw [cell_of hq4]; rfl
    have hj' : (j : Int) < (n : Int) := by omega
    have HU := hide fun wd (hd : Drawn w4 wd) => up_any N wd m rc at2 ts T cap n (PlainHeap.downF (ltR ts rc) n (n - i) (upd H i (H n)) i) j HH.out.TN HH.out.own (h4.drawn hd) hj (fun k hk _ => h5 k hk)
    have H4 := hide h4
    have H5 := hide h5
    have H6 := hide h6
    have H7 := hide ((S3.out.mono (T' := [76, 78, 80]) (by simp)).trans ((R2.out.mono (by simp)).trans (h7.mono (by simp))))
    have HQ4 := hide hq4
    have HJ := hide hjx
    clear h4 h5 h6 h7 hq4 hjx hjat HC R1 R2 S1 S2 S3 cq fq tn fn ti fi ca fa
    go_wp2_with fail
    go_region_with (first | (go_at_call 44; refine Calls.mono (HU.out _ (by repeat (first | exact Drawn.refl _ | apply Drawn.next | apply Drawn.drew))) ?_; rintro e w5 ⟨rfl, at3, k4, k5, k6, k7⟩))
    all_goals
      go_end0
      refine ⟨rfl, at3, _, k4.toQS (k7.keep (c := #[mv, .slice (some ⟨T, 0, none⟩) n cap, lv]) HQ4.out (by simp)) HH.out.TN HH.out.qN HH.out.own k5, .inr ⟨hin, j, hj, HJ.out, rfl⟩, fun y hy => ?_,
        H7.out.trans ((Fr.refl _ _ _).drawn (by repeat (first | exact Drawn.refl _ | apply Drawn.next | apply Drawn.drew)) |>.trans (k7.mono (by simp)))⟩
      have hu : ∀ k, k < n → upd H i (H n) k ≠ y := fun k hk => by
        unfold upd
        split
        · exact hy n (by omega) (by omega)
        · exact hy k (by omega) (by assumption)
      rw [k6 y (fun k hk e => by
        obtain ⟨k', hk', e'⟩ := ((PlainHeap.downF_same (ltR ts rc) n (n - i) (upd H i (H n)) i hin).1 y).1 ⟨k, hk, e⟩
        exact hu k' hk' e'), H6.out y hu]
      have := hy n (by omega) (by omega)
      unfold upd
      exact if_neg (fun e : y = H n => this e.symm)

end Go.Proofs.Qxb6601345a
