import Derived.Test.Qxb6601345aHeapW
namespace Go.Proofs.Qxb6601345a
open Go.RowKit
set_option linter.unusedVariables false
set_option linter.unusedSimpArgs false

theorem hide {p : Prop} (h : p) : Hid p := h

/-- Run x comes before run y. -/
def ltR (ts : Nat → Int) (rc : Nat → Rec) (x y : Nat) : Bool := ltK (ts x) (rc x).snd (ts y) (rc y).snd

theorem upF_fuel (lt : Nat → Nat → Bool) : ∀ f H i, i ≤ f → PlainHeap.upF lt f H i = PlainHeap.upF lt i H i := by
  intro f
  induction f using Nat.strongRecOn with
  | _ f ih =>
    intro H i hi
    cases f with
    | zero => rw [show i = 0 from by omega]
    | succ f =>
      cases i with
      | zero => simp [PlainHeap.upF]
      | succ i =>
        simp only [PlainHeap.upF]
        split
        · rw [ih f (by omega) _ _ (by omega)]
          by_cases e : i = f
          · subst e; rw [ih i (by omega) _ _ (by omega)]
          · rw [ih i (by omega) _ ((i + 1 - 1) / 2) (by omega)]
        · rfl

theorem upF_step {lt : Nat → Nat → Bool} {H : Nat → Nat} {i : Nat} (h0 : 0 < i) (h : lt (H i) (H ((i - 1) / 2)) = true) :
    PlainHeap.upF lt i H i = PlainHeap.upF lt ((i - 1) / 2) (PlainHeap.swap H i ((i - 1) / 2)) ((i - 1) / 2) := by
  obtain ⟨j, rfl⟩ : ∃ j, i = j + 1 := ⟨i - 1, by omega⟩
  rw [PlainHeap.upF, if_pos ⟨h0, h⟩]
  exact upF_fuel lt j _ _ (by omega)
theorem upF_stop {lt : Nat → Nat → Bool} {H : Nat → Nat} {i : Nat} (h : ¬ (0 < i ∧ lt (H i) (H ((i - 1) / 2)) = true)) : PlainHeap.upF lt i H i = H := by
  cases i with
  | zero => rfl
  | succ i => rw [PlainHeap.upF, if_neg h]

theorem HS.cellT {w : World} {m : Nat} {rc : Nat → Rec} {at_ : Nat → Nat} {ts : Nat → Int} {T cap n hole : Nat} {H : Nat → Nat} (h : HS w m rc at_ ts T cap n hole H) {k : Nat} (hk : k < n) (hh : k ≠ hole) :
    w.cell? ⟨T, k, none⟩ = some (.pointer (some ⟨(rc (H k)).blk, 0, none⟩)) := by
  obtain ⟨cur, hc, _, hca⟩ := h.arr
  rw [cell_of hc]; exact hca k hk hh
theorem HS.someT {w : World} {m : Nat} {rc : Nat → Rec} {at_ : Nat → Nat} {ts : Nat → Int} {T cap n hole : Nat} {H : Nat → Nat} (h : HS w m rc at_ ts T cap n hole H) {k : Nat} (hk : k < n) :
    ∃ v, w.cell? ⟨T, k, none⟩ = some v := by
  obtain ⟨cur, hc, hcs, _⟩ := h.arr
  have := h.ncap
  exact ⟨cur[k], by rw [cell_of hc]; exact Array.getElem?_eq_getElem (by omega)⟩
theorem HS.frozenT {w : World} {m : Nat} {rc : Nat → Rec} {at_ : Nat → Nat} {ts : Nat → Int} {T cap n hole : Nat} {H : Nat → Nat} (h : HS w m rc at_ ts T cap n hole H) (k : Nat) : w.frozen? ⟨T, k, none⟩ = false := by
  obtain ⟨cur, hc, _⟩ := h.arr
  exact frozen_of hc
theorem HS.cellAt {w : World} {m : Nat} {rc : Nat → Rec} {at_ : Nat → Nat} {ts : Nat → Int} {T cap n hole : Nat} {H : Nat → Nat} (h : HS w m rc at_ ts T cap n hole H) {x : Nat} (hx : x < m) :
    w.cell? ⟨(rc x).blk, 3, none⟩ = some (.int .i64 (at_ x)) ∧ w.frozen? ⟨(rc x).blk, 3, none⟩ = false :=
  ⟨by rw [cell_of (h.run x hx)]; rfl, frozen_of (h.run x hx)⟩

theorem HS.fr {w : World} {m : Nat} {rc : Nat → Rec} {at_ : Nat → Nat} {ts : Nat → Int} {T cap n hole : Nat} {H : Nat → Nat} (h : HS w m rc at_ ts T cap n hole H) (N i x : Nat) (hx : x < m) (hT : N ≤ T) (hb : N ≤ (rc x).blk) (v u : Value) :
    Fr N [76, 80] w ((w.setCell ⟨T, i, none⟩ v).setCell ⟨(rc x).blk, 3, none⟩ u) := by
  obtain ⟨cur, hc, _⟩ := h.arr
  have hr := h.run x hx
  rw [← set_other (w := w) (o := i) v (fun e => h.ne hx e.symm)] at hr
  exact ((Fr.refl N _ w).set hc (by simp) hT v).set hr (by simp) hb u

theorem HS.open {w : World} {m : Nat} {rc : Nat → Rec} {at_ : Nat → Nat} {ts : Nat → Int} {T cap n : Nat} {H : Nat → Nat} (h : HS w m rc at_ ts T cap n n H) (j : Nat) : HS w m rc at_ ts T cap n j H := by
  obtain ⟨cur, h1, h2, h3⟩ := h.arr
  exact ⟨h.run, h.inj, ⟨cur, h1, h2, fun k hk _ => h3 k hk (by omega)⟩, h.dom, h.hinj, h.key, h.ncap, h.nmax, h.cmax⟩

/-- While run r looks for its place: the hole is at j; in the virtual array H' it stands there. -/
structure Move (N : Nat) (w : World) (m : Nat) (rc : Nat → Rec) (at_ : Nat → Nat) (ts : Nat → Int) (T cap n : Nat) (H : Nat → Nat) (r j : Nat) (H' at' : Nat → Nat) (wr : World) : Prop where
  hs : HS wr m rc at' ts T cap n j H'
  lt : j < n
  here : H' j = r
  told : ∀ k, k < n → k ≠ j → at' (H' k) = k
  out : ∀ x, (∀ k, k < n → H k ≠ x) → at' x = at_ x
  same : PlainHeap.Same n H H'
  fr : Fr N [76, 80] w wr
  far : ∀ z, z ≠ T → (∀ x, x < m → z ≠ (rc x).blk) → wr.heap[z]? = w.heap[z]?

section
variable {N : Nat} {w : World} {m : Nat} {rc : Nat → Rec} {at_ : Nat → Nat} {ts : Nat → Int} {T cap n : Nat} {H : Nat → Nat} {r j : Nat} {H' at' : Nat → Nat} {wr : World}

theorem Move.drawn {w1 : World} (h : Move N w m rc at_ ts T cap n H r j H' at' wr) (hd : Drawn wr w1) : Move N w m rc at_ ts T cap n H r j H' at' w1 :=
  ⟨h.hs.drawn hd, h.lt, h.here, h.told, h.out, h.same, h.fr.drawn hd, by obtain ⟨k, rfl⟩ := hd; exact h.far⟩

theorem Move.step (h : Move N w m rc at_ ts T cap n H r j H' at' wr) (hT : N ≤ T) (hb : ∀ x, x < m → N ≤ (rc x).blk) (p : Nat) (hp : p < n) (hpj : p ≠ j) :
    Move N w m rc at_ ts T cap n H r p (PlainHeap.swap H' j p) (upd at' (H' p) j) ((wr.setCell ⟨T, j, none⟩ (.pointer (some ⟨(rc (H' p)).blk, 0, none⟩))).setCell ⟨(rc (H' p)).blk, 3, none⟩ (.int .i64 j)) := by
  have hpm := h.hs.dom p hp
  have hsw := PlainHeap.Same.swap n H' j p h.lt hp
  refine ⟨h.hs.put j (H' p) h.lt hpm p _ hsw (fun k hk hkp => ?_), hp, by rw [PlainHeap.swap_r]; exact h.here, fun k hk hkp => ?_, fun x hx => ?_, h.same.trans hsw, h.fr.trans (h.hs.fr N j _ hpm hT (hb _ hpm) _ _), fun z h1 h2 => (set_other _ (h2 _ hpm)).trans ((set_other _ h1).trans (h.far z h1 h2))⟩
  · by_cases e : k = j
    · left; subst e; exact ⟨rfl, PlainHeap.swap_l _ _ _⟩
    · right; exact ⟨e, e, PlainHeap.swap_o _ _ _ _ e hkp⟩
  · by_cases e : k = j
    · subst e; rw [PlainHeap.swap_l]; simp [upd]
    · rw [PlainHeap.swap_o _ _ _ _ e hkp]
      have hne := h.hs.hinj k hk p hp hkp
      simp only [upd, hne, if_false]
      exact h.told k hk e
  · have hne : x ≠ H' p := by
      intro e
      obtain ⟨k, hk, hk'⟩ := (h.same.1 (H' p)).1 ⟨p, hp, rfl⟩
      exact hx k hk (by rw [hk', e])
    simp only [upd, hne, if_false]
    exact h.out x hx

/-- The end: r is put into the hole. -/
theorem Move.done (h : Move N w m rc at_ ts T cap n H r j H' at' wr) (hT : N ≤ T) (hb : ∀ x, x < m → N ≤ (rc x).blk) (hrn : ∃ k, k < n ∧ H k = r) :
    HS ((wr.setCell ⟨T, j, none⟩ (.pointer (some ⟨(rc r).blk, 0, none⟩))).setCell ⟨(rc r).blk, 3, none⟩ (.int .i64 j)) m rc (upd at' r j) ts T cap n n H' ∧
    (∀ k, k < n → upd at' r j (H' k) = k) ∧ (∀ x, (∀ k, k < n → H k ≠ x) → upd at' r j x = at_ x) ∧
    Fr N [76, 80] w ((wr.setCell ⟨T, j, none⟩ (.pointer (some ⟨(rc r).blk, 0, none⟩))).setCell ⟨(rc r).blk, 3, none⟩ (.int .i64 j)) ∧
    (∀ z, z ≠ T → (∀ x, x < m → z ≠ (rc x).blk) → ((wr.setCell ⟨T, j, none⟩ (.pointer (some ⟨(rc r).blk, 0, none⟩))).setCell ⟨(rc r).blk, 3, none⟩ (.int .i64 j)).heap[z]? = w.heap[z]?) := by
  have hrm : r < m := by rw [← h.here]; exact h.hs.dom j h.lt
  refine ⟨h.hs.put j r h.lt hrm n _ (PlainHeap.Same.refl _ _) (fun k hk _ => ?_), fun k hk => ?_, fun x hx => ?_, h.fr.trans (h.hs.fr N j _ hrm hT (hb _ hrm) _ _), fun z h1 h2 => (set_other _ (h2 _ hrm)).trans ((set_other _ h1).trans (h.far z h1 h2))⟩
  · by_cases e : k = j
    · left; subst e; exact ⟨rfl, h.here⟩
    · right; exact ⟨e, e, rfl⟩
  · by_cases e : k = j
    · subst e; rw [h.here]; simp [upd]
    · have hne : H' k ≠ r := by rw [← h.here]; exact h.hs.hinj k hk j h.lt e
      simp only [upd, hne, if_false]
      exact h.told k hk e
  · obtain ⟨k, hk, hk'⟩ := hrn
    have hne : x ≠ r := fun e => hx k hk (by rw [hk', e])
    simp only [upd, hne, if_false]
    exact h.out x hx
end

set_option maxHeartbeats 800000 in
theorem up_far (N : Nat) (w : World) (m : Nat) (rc : Nat → Rec) (at_ : Nat → Nat) (ts : Nat → Int) (T cap n : Nat) (H : Nat → Nat) (i : Nat) (hT : N ≤ T) (hb : ∀ x, x < m → N ≤ (rc x).blk)
    (h : HS w m rc at_ ts T cap n n H) (hi : i < n) (hat : ∀ k, k < n → k ≠ i → at_ (H k) = k) :
    Calls Try.prog 44 #[.slice (some ⟨T, 0, none⟩) n cap, .int .i64 i] w fun e w' => e = .returned (.tuple #[]) ∧ ∃ at', HS w' m rc at' ts T cap n n (PlainHeap.upF (ltR ts rc) i H i) ∧
      (∀ k, k < n → at' (PlainHeap.upF (ltR ts rc) i H i k) = k) ∧ (∀ x, (∀ k, k < n → H k ≠ x) → at' x = at_ x) ∧ Fr N [76, 80] w w' ∧ (∀ z, z ≠ T → (∀ x, x < m → z ≠ (rc x).blk) → w'.heap[z]? = w.heap[z]?) := by
  have hn := h.nmax
  have c0 := h.cellT hi (by omega)
  have hi' : (i : Int) < (n : Int) := by omega
  have HBK : Hid _ := hb; clear hb
  obtain ⟨r, hr⟩ : ∃ r, r = H i := ⟨_, rfl⟩
  have HM : Hid _ := (⟨h.open i, hi, hr.symm, hat, fun _ _ => rfl, PlainHeap.Same.refl _ _, Fr.refl _ _ _, fun _ _ _ => rfl⟩ : Move N w m rc at_ ts T cap n H r i H at_ w)
  have HX : Hid (∃ k, k < n ∧ H k = r) := ⟨i, hi, hr.symm⟩
  clear h hat
  rw [← hr] at c0
  clear hr
  obtain ⟨rb, hrb⟩ : ∃ rb, rb = (rc r).blk := ⟨_, rfl⟩
  rw [← hrb] at c0
  have HRB : Hid _ := hrb; clear hrb
  go_enter Try.func44, Try.ntmps44
  go_upto_block 0 with fail
  clear c0
  go_cut [1] from 10 to 44 (fun vi wx => ∃ (j : Nat) (H' at' : Nat → Nat), vi = .int .i64 j ∧ Move N w m rc at_ ts T cap n H r j H' at' wx ∧ PlainHeap.upF (ltR ts rc) i H i = H')
  case first =>
    go_wp2
    go_loopg [1] i (fun g vi wx => ∃ (j : Nat) (H' at' : Nat → Nat), j = g ∧ vi = .int .i64 j ∧ Move N w m rc at_ ts T cap n H r j H' at' wx ∧ PlainHeap.upF (ltR ts rc) i H i = PlainHeap.upF (ltR ts rc) j H' j)
    case atStart => exact ⟨i, H, at_, rfl, rfl, HM.out, rfl⟩
    case round =>
      clear HM
      obtain ⟨j, H', at', rfl, rfl, hM, hE⟩ := hrel
      have HE : Hid _ := hE; clear hE
      have hjn := hM.lt
      by_cases hj : 0 < j
      · have hj' : (0 : Int) < (j : Int) := by omega
        have hp2 : (j - 1) / 2 < n := by omega
        have cp := hM.hs.cellT hp2 (by omega)
        have hpm := hM.hs.dom _ hp2
        have hjm := hM.hs.dom _ hjn
        have HC := hide <| before_any (rc (H' j)) (rc (H' ((j - 1) / 2))) _ _ _ _ _ _ wr (hM.hs.run _ hjm) (hM.hs.run _ hpm) (hM.hs.key _ ⟨j, hjn, rfl⟩) (hM.hs.key _ ⟨_, hp2, rfl⟩)
        rw [hM.here, ← HRB.out] at HC
        cases hlt : ltK (ts r) (rc r).snd (ts (H' ((j - 1) / 2))) (rc (H' ((j - 1) / 2))).snd with
        | false =>
          rw [hlt] at HC
          have HS1 : Hid _ := upF_stop (lt := ltR ts rc) (H := H') (i := j) (fun hh => by rw [hM.here] at hh; unfold ltR at hh; rw [hlt] at hh; exact absurd hh.2 (by simp))
          have HMM : Hid _ := hM
          clear hM hlt
          go_wp2_with fail
          refine Calls.mono HC.out ?_
          rintro e w1 ⟨rfl, hd⟩
          have HD : Hid _ := hd; clear hd
          go_wp2
          go_meet
          case rel => exact ⟨j, H', at', rfl, HMM.out.drawn HD.out, by rw [HE.out, HS1.out]⟩
        | true =>
          rw [hlt] at HC
          have HS1 : Hid _ := upF_step (lt := ltR ts rc) (H := H') hj (by unfold ltR; rw [hM.here]; exact hlt)
          clear hlt
          obtain ⟨v, cj⟩ := hM.hs.someT hjn
          have fj := hM.hs.frozenT j
          obtain ⟨ca, fa⟩ := hM.hs.cellAt hpm
          have hne := hM.hs.ne hpm
          have HMM : Hid (∀ w1, Drawn wr w1 → Move N w m rc at_ ts T cap n H r ((j - 1) / 2) (PlainHeap.swap H' j ((j - 1) / 2)) (upd at' (H' ((j - 1) / 2)) j) ((w1.setCell ⟨T, j, none⟩ (.pointer (some ⟨(rc (H' ((j - 1) / 2))).blk, 0, none⟩))).setCell ⟨(rc (H' ((j - 1) / 2))).blk, 3, none⟩ (.int .i64 j))) :=
            fun w1 hd => (hM.drawn hd).step hT HBK.out _ hp2 (by omega)
          clear hM
          generalize (rc (H' ((j - 1) / 2))).blk = pb at *
          go_wp2_with fail
          refine Calls.mono HC.out ?_
          rintro e w1 ⟨rfl, hd⟩
          obtain ⟨nd, rfl⟩ := hd
          go_wp2
          go_roundg ((j - 1) / 2)
          case measure => omega
          case rel => exact ⟨_, _, _, rfl, by go_num, HMM.out _ ⟨nd, rfl⟩, by rw [HE.out, HS1.out]⟩
      · have HS1 : Hid _ := upF_stop (lt := ltR ts rc) (H := H') (i := j) (fun hh => hj hh.1)
        have HMM : Hid _ := hM; clear hM
        go_wp2
        go_meet
        case rel => exact ⟨j, H', at', rfl, HMM.out, by rw [HE.out, HS1.out]⟩
  case rest =>
    clear HM
    obtain ⟨j, H', at', rfl, hM, hE⟩ := hcut
    have HE : Hid _ := hE; clear hE
    have hjn := hM.lt
    have hjn' : (j : Int) < (n : Int) := by omega
    have hrm : r < m := by rw [← hM.here]; exact hM.hs.dom j hjn
    obtain ⟨v, cj⟩ := hM.hs.someT hjn
    have fj := hM.hs.frozenT j
    obtain ⟨ca, fa⟩ := hM.hs.cellAt hrm
    have hne := hM.hs.ne hrm
    have HDN : Hid _ := hM.done hT HBK.out HX.out
    rw [← HRB.out] at ca fa hne HDN
    clear hM hrm
    go_wp2
    go_end0
    refine ⟨rfl, upd at' r j, ?_⟩
    rw [HE.out]
    exact HDN.out

theorem up_any (N : Nat) (w : World) (m : Nat) (rc : Nat → Rec) (at_ : Nat → Nat) (ts : Nat → Int) (T cap n : Nat) (H : Nat → Nat) (i : Nat) (hT : N ≤ T) (hb : ∀ x, x < m → N ≤ (rc x).blk)
    (h : HS w m rc at_ ts T cap n n H) (hi : i < n) (hat : ∀ k, k < n → k ≠ i → at_ (H k) = k) :
    Calls Try.prog 44 #[.slice (some ⟨T, 0, none⟩) n cap, .int .i64 i] w fun e w' => e = .returned (.tuple #[]) ∧ ∃ at', HS w' m rc at' ts T cap n n (PlainHeap.upF (ltR ts rc) i H i) ∧
      (∀ k, k < n → at' (PlainHeap.upF (ltR ts rc) i H i k) = k) ∧ (∀ x, (∀ k, k < n → H k ≠ x) → at' x = at_ x) ∧ Fr N [76, 80] w w' := by
  refine Calls.mono (up_far N w m rc at_ ts T cap n H i hT hb h hi hat) ?_
  rintro e w' ⟨h1, at', h2, h3, h4, h5, _⟩
  exact ⟨h1, at', h2, h3, h4, h5⟩

end Go.Proofs.Qxb6601345a
