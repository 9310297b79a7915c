import Derived.Test.Qxb6601345aHeapUp
namespace Go.Proofs.Qxb6601345a
open Go.RowKit
set_option linter.unusedVariables false
set_option linter.unusedSimpArgs false

theorem downF_fuel (lt : Nat → Nat → Bool) (n : Nat) : ∀ f f' H i, n ≤ f + i → n ≤ f' + i → PlainHeap.downF lt n f H i = PlainHeap.downF lt n f' H i := by
  intro f
  induction f with
  | zero =>
    intro f' H i h h'
    cases f' with
    | zero => rfl
    | succ f' => simp only [PlainHeap.downF]; rw [if_neg (by omega)]
  | succ f ih =>
    intro f' H i h h'
    cases f' with
    | zero => simp only [PlainHeap.downF]; rw [if_neg (by omega)]
    | succ f' =>
      simp only [PlainHeap.downF]
      split
      · have hk := PlainHeap.kid_cases lt n H i
        exact ih f' _ _ (by omega) (by omega)
      · rfl

theorem downF_step {lt : Nat → Nat → Bool} {n : Nat} {H : Nat → Nat} {i c : Nat} (hc : PlainHeap.kid lt n H i = c) (h0 : 2 * i + 1 < n) (h : lt (H c) (H i) = true) :
    PlainHeap.downF lt n (n - i) H i = PlainHeap.downF lt n (n - c) (PlainHeap.swap H i c) c := by
  have hk := PlainHeap.kid_cases lt n H i
  rw [hc] at hk
  rw [downF_fuel lt n (n - i) ((n - i - 1) + 1) H i (by omega) (by omega), PlainHeap.downF, hc, if_pos ⟨h0, h⟩]
  exact downF_fuel lt n _ _ _ _ (by omega) (by omega)
theorem downF_stop {lt : Nat → Nat → Bool} {n : Nat} {H : Nat → Nat} {i : Nat} (h : ¬ (2 * i + 1 < n ∧ lt (H (PlainHeap.kid lt n H i)) (H i) = true)) : PlainHeap.downF lt n (n - i) H i = H := by
  rw [downF_fuel lt n (n - i) ((n - i) + 1) H i (by omega) (by omega), PlainHeap.downF, if_neg h]

theorem kid_right {lt : Nat → Nat → Bool} {n : Nat} {H : Nat → Nat} {i : Nat} (h1 : 2 * i + 1 + 1 < n) (h2 : lt (H (2 * i + 1 + 1)) (H (2 * i + 1)) = true) : PlainHeap.kid lt n H i = 2 * i + 1 + 1 := by
  unfold PlainHeap.kid; rw [if_pos ⟨h1, h2⟩]
theorem kid_left {lt : Nat → Nat → Bool} {n : Nat} {H : Nat → Nat} {i : Nat} (h : ¬ (2 * i + 1 + 1 < n ∧ lt (H (2 * i + 1 + 1)) (H (2 * i + 1)) = true)) : PlainHeap.kid lt n H i = 2 * i + 1 := by
  unfold PlainHeap.kid; rw [if_neg h]

set_option maxHeartbeats 800000 in
theorem down_any (N : Nat) (w : World) (m : Nat) (rc : Nat → Rec) (at_ : Nat → Nat) (ts : Nat → Int) (T cap n : Nat) (H : Nat → Nat) (i : Nat) (hT : N ≤ T) (hb : ∀ x, x < m → N ≤ (rc x).blk)
    (h : HS w m rc at_ ts T cap n n H) (hi : i < n) (hat : ∀ k, k < n → k ≠ i → at_ (H k) = k) :
    Calls Try.prog 46 #[.slice (some ⟨T, 0, none⟩) n cap, .int .i64 i] w fun e w' => e = .returned (.tuple #[]) ∧ ∃ at', HS w' m rc at' ts T cap n n (PlainHeap.downF (ltR ts rc) n (n - i) H i) ∧
      (∀ k, k < n → at' (PlainHeap.downF (ltR ts rc) n (n - i) H i k) = k) ∧ (∀ x, (∀ k, k < n → H k ≠ x) → at' x = at_ x) ∧ Fr N [76, 80] w w' := by
  have hn := h.nmax
  have c0 := h.cellT hi (by omega)
  have hi' : (i : Int) < (n : Int) := by omega
  have HBK : Hid _ := hb; clear hb
  obtain ⟨r, hr⟩ : ∃ r, r = H i := ⟨_, rfl⟩
  have HM : Hid _ := (⟨h.open i, hi, hr.symm, hat, fun _ _ => rfl, PlainHeap.Same.refl _ _, Fr.refl _ _ _, fun _ _ _ => rfl⟩ : Move N w m rc at_ ts T cap n H r i H at_ w)
  have HX : Hid (∃ k, k < n ∧ H k = r) := ⟨i, hi, hr.symm⟩
  clear h hat
  rw [← hr] at c0
  clear hr
  obtain ⟨rb, hrb⟩ : ∃ rb, rb = (rc r).blk := ⟨_, rfl⟩
  rw [← hrb] at c0
  have HRB : Hid _ := hrb; clear hrb
  go_enter Try.func46, Try.ntmps46
  go_upto_block 0 with fail
  clear c0
  go_cut [1] from 10 to 65 (fun vi wx => ∃ (j : Nat) (H' at' : Nat → Nat), vi = .int .i64 j ∧ Move N w m rc at_ ts T cap n H r j H' at' wx ∧ PlainHeap.downF (ltR ts rc) n (n - i) H i = H')
  case first =>
    go_wp2
    go_loopg [1] (n - i) (fun g vi wx => ∃ (j : Nat) (H' at' : Nat → Nat), n - j = g ∧ vi = .int .i64 j ∧ Move N w m rc at_ ts T cap n H r j H' at' wx ∧ PlainHeap.downF (ltR ts rc) n (n - i) H i = PlainHeap.downF (ltR ts rc) n (n - j) H' j)
    case atStart => exact ⟨i, H, at_, rfl, rfl, HM.out, rfl⟩
    case round =>
      clear HM
      obtain ⟨j, H', at', rfl, rfl, hM, hE⟩ := hrel
      have HE : Hid _ := hE; clear hE
      have hjn := hM.lt
      by_cases hc : 2 * j + 1 < n
      · have hc' : 2 * (j : Int) + 1 < (n : Int) := by omega
        have HMM : Hid _ := hM
        have HKR : Hid _ := @kid_right (ltR ts rc) n H' j
        have HKL : Hid _ := @kid_left (ltR ts rc) n H' j
        go_upto_region 3 with fail
        go_cut [33] from 17 to 33 (fun s wx => ∃ b : Bool, s = .bool b ∧ (b = true → PlainHeap.kid (ltR ts rc) n H' j = 2 * j + 1 + 1) ∧ (b = true → 2 * j + 1 + 1 < n) ∧ (b = false → PlainHeap.kid (ltR ts rc) n H' j = 2 * j + 1) ∧ Drawn wr wx)
        case first =>
          by_cases hc2 : 2 * j + 1 + 1 < n
          · have hc2' : 2 * (j : Int) + 1 + 1 < (n : Int) := by omega
            have d1 := hM.hs.cellT hc (by omega)
            have d2 := hM.hs.cellT hc2 (by omega)
            have m1 := hM.hs.dom _ hc
            have m2 := hM.hs.dom _ hc2
            have HC : Hid (∀ k, Calls Try.prog 47 _ (wr.drewN k) _) := fun k => before_any (rc (H' (2 * j + 1 + 1))) (rc (H' (2 * j + 1))) _ _ _ _ _ _ (wr.drewN k) (hM.hs.run _ m2) (hM.hs.run _ m1) (hM.hs.key _ ⟨_, hc2, rfl⟩) (hM.hs.key _ ⟨_, hc, rfl⟩)
            clear hM
            go_quiet ((go_at_call 47; exact Calls.quiet_of (HC.out _)))
            go_wp2
            go_meet
            case rel => exact ⟨_, rfl, fun e => HKR.out hc2 e, fun _ => hc2, fun e => HKL.out (fun hh => by unfold ltR at hh; rw [e] at hh; exact absurd hh.2 (by simp)), by repeat (first | exact Drawn.refl _ | apply Drawn.next | apply Drawn.drew)⟩
          · have hd : decide (2 * (j : Int) + 1 + 1 < (n : Int)) = false := decide_eq_false (by omega)
            clear hM
            go_quiet (fail)
            go_wp2
            go_meet
            case rel => exact ⟨false, rfl, (fun e => by cases e), (fun e => by cases e), fun _ => HKL.out (fun hh => hc2 hh.1), by repeat (first | exact Drawn.refl _ | apply Drawn.next | apply Drawn.drew)⟩
        case rest =>
          clear hM
          obtain ⟨b, rfl, hb1, hb2, hb3, hd⟩ := hcut
          have hM := HMM.out.drawn hd
          clear HMM hd HKR HKL
          have HK : Hid (∃ c, PlainHeap.kid (ltR ts rc) n H' j = c ∧ c < n ∧ (b = true → c = 2 * j + 1 + 1) ∧ (b = false → c = 2 * j + 1)) := by
            cases b
            · exact ⟨2 * j + 1, hb3 rfl, hc, (fun e => by cases e), fun _ => rfl⟩
            · exact ⟨2 * j + 1 + 1, hb1 rfl, hb2 rfl, fun _ => rfl, (fun e => by cases e)⟩
          clear hb1 hb2 hb3
          go_upto_if 33 with fail
          go_cut [5] from 17 to 35 (fun s wx => ∃ c : Nat, s = .int .i64 c ∧ PlainHeap.kid (ltR ts rc) n H' j = c ∧ c < n ∧ wc = wx)
          case first =>
            clear hM
            obtain ⟨c, hk1, hk2, hk3, hk4⟩ := HK.out
            clear HK
            cases b
            · have e := hk4 rfl
              subst e
              have HK : Hid _ := hk1
              clear hk1 hk3 hk4
              go_wp2
              go_meet
              case rel => exact ⟨_, by go_num, HK.out, by omega, rfl⟩
            · have e := hk3 rfl
              subst e
              have HK : Hid _ := hk1
              clear hk1 hk3 hk4
              go_wp2
              go_meet
              case rel => exact ⟨_, by go_num, HK.out, by omega, rfl⟩
          case rest =>
            clear HK
            obtain ⟨c, rfl, hkc, hcn, rfl⟩ := hcut
            have hcj : c ≠ j := by have := PlainHeap.kid_cases (ltR ts rc) n H' j; omega
            have hcn' : (c : Int) < (n : Int) := by omega
            have cp := hM.hs.cellT hcn hcj
            have hcm := hM.hs.dom _ hcn
            have hjm := hM.hs.dom _ hjn
            have HC := hide <| before_any (rc (H' c)) (rc (H' j)) _ _ _ _ _ _ wc (hM.hs.run _ hcm) (hM.hs.run _ hjm) (hM.hs.key _ ⟨c, hcn, rfl⟩) (hM.hs.key _ ⟨_, hjn, rfl⟩)
            rw [hM.here, ← HRB.out] at HC
            cases hlt : ltK (ts (H' c)) (rc (H' c)).snd (ts r) (rc r).snd with
            | false =>
              rw [hlt] at HC
              have HS1 : Hid _ := downF_stop (lt := ltR ts rc) (n := n) (H := H') (i := j) (fun hh => by rw [hkc, hM.here] at hh; unfold ltR at hh; rw [hlt] at hh; exact absurd hh.2 (by simp))
              have HMM : Hid _ := hM
              clear hM hlt hkc
              go_wp2_with fail
              refine Calls.mono HC.out ?_
              rintro e w1 ⟨rfl, hd⟩
              have HD : Hid _ := hd; clear hd
              go_wp2
              go_meet
              case rel => exact ⟨j, H', at', rfl, HMM.out.drawn HD.out, by rw [HE.out, HS1.out]⟩
            | true =>
              rw [hlt] at HC
              have HS1 : Hid _ := downF_step (lt := ltR ts rc) (H := H') hkc hc (by unfold ltR; rw [hM.here]; exact hlt)
              have hjc : j < c := by have := PlainHeap.kid_cases (ltR ts rc) n H' j; omega
              clear hlt hkc
              obtain ⟨v, cj⟩ := hM.hs.someT hjn
              have fj := hM.hs.frozenT j
              obtain ⟨ca, fa⟩ := hM.hs.cellAt hcm
              have hne := hM.hs.ne hcm
              have HMM : Hid (∀ w1, Drawn wc w1 → Move N w m rc at_ ts T cap n H r c (PlainHeap.swap H' j c) (upd at' (H' c) j) ((w1.setCell ⟨T, j, none⟩ (.pointer (some ⟨(rc (H' c)).blk, 0, none⟩))).setCell ⟨(rc (H' c)).blk, 3, none⟩ (.int .i64 j))) :=
                fun w1 hd => (hM.drawn hd).step hT HBK.out _ hcn hcj
              clear hM
              generalize (rc (H' c)).blk = pb at *
              have hjn' : (j : Int) < (n : Int) := by omega
              go_wp2_with fail
              refine Calls.mono HC.out ?_
              rintro e w1 ⟨rfl, hd⟩
              obtain ⟨nd, rfl⟩ := hd
              go_wp2
              go_roundg (n - c)
              case measure => omega
              case rel => exact ⟨c, _, _, rfl, rfl, HMM.out _ ⟨nd, rfl⟩, by rw [HE.out, HS1.out]⟩
      · have HS1 : Hid _ := downF_stop (lt := ltR ts rc) (n := n) (H := H') (i := j) (fun hh => hc hh.1)
        have HMM : Hid _ := hM; clear hM
        go_wp2
        go_meet
        case rel => exact ⟨j, H', at', rfl, HMM.out, by rw [HE.out, HS1.out]⟩
  case rest =>
    clear HM
    obtain ⟨j, H', at', rfl, hM, hE⟩ := hcut
    have HE : Hid _ := hE; clear hE
    have hjn := hM.lt
    have hjn' : (j : Int) < (n : Int) := by omega
    have hrm : r < m := by rw [← hM.here]; exact hM.hs.dom j hjn
    obtain ⟨v, cj⟩ := hM.hs.someT hjn
    have fj := hM.hs.frozenT j
    obtain ⟨ca, fa⟩ := hM.hs.cellAt hrm
    have hne := hM.hs.ne hrm
    have HDN : Hid _ := hM.done hT HBK.out HX.out
    rw [← HRB.out] at ca fa hne HDN
    clear hM hrm
    go_wp2
    go_end0
    refine ⟨rfl, upd at' r j, ?_⟩
    rw [HE.out]
    exact ⟨HDN.out.1, HDN.out.2.1, HDN.out.2.2.1, HDN.out.2.2.2.1⟩

end Go.Proofs.Qxb6601345a
