import Derived.Test.Qxb6601345aRows
import Derived.Test.Qxb6601345aPlainIds
import Derived.WalkKit
import Derived.RegionTactic
import Derived.BigRegion
import Derived.Deep.QuietTactic
import Derived.BigQuiet
import Derived.Deep.CutBlock
import Derived.Deep.CutRange
namespace Go.Proofs.Qxb6601345a
open Go.RowKit
set_option linter.unusedVariables false
set_option linter.unusedSimpArgs false

/-- The world is as it was but for draws. -/
def Drawn (w w' : World) : Prop := ∃ n, w' = w.drewN n
theorem Drawn.refl (w : World) : Drawn w w := ⟨0, rfl⟩
theorem Drawn.next {w w' : World} (h : Drawn w w') {n : Nat} : Drawn w (w'.drewN n) := by
  obtain ⟨m, rfl⟩ := h
  exact ⟨m + n, by rw [World.drewN_drewN]⟩
theorem Drawn.drew {w w' : World} (h : Drawn w w') : Drawn w w'.drew := h.next (n := 1)
theorem Drawn.trans {a b c : World} (h : Drawn a b) (k : Drawn b c) : Drawn a c := by
  obtain ⟨n, rfl⟩ := k
  exact h.next

/-- The ends of run i. -/
def lo (rs : List (Nat × Nat)) (i : Nat) : Nat := (rs.getD i (0, 0)).1
def hi (rs : List (Nat × Nat)) (i : Nat) : Nat := (rs.getD i (0, 0)).2

/-- The n elements of two cells each that lie at a are the runs rs. -/
def Spans (w : World) (a : Option Addr) (n : Nat) (rs : List (Nat × Nat)) : Prop :=
  rs.length = n ∧ (∀ i, i < n → lo rs i < 65536 ∧ hi rs i < 65536) ∧
    (n = 0 ∨ ∃ b o, a = some ⟨b, o, none⟩ ∧ ∀ i, i < n → w.cell? ⟨b, o + i * 2, none⟩ = some (.int .u16 (lo rs i)) ∧ w.cell? ⟨b, o + i * 2 + 1, none⟩ = some (.int .u16 (hi rs i)))

/-- As zzSpansOK asks it. -/
def okFrom : Option Nat → List (Nat × Nat) → Bool
  | _, [] => true
  | p, (l, h) :: r => decide (l ≤ h) && (match p with | none => true | some q => decide (q + 1 < l)) && okFrom (some h) r

def prev (rs : List (Nat × Nat)) (k : Nat) : Option Nat := if k = 0 then none else some (hi rs (k - 1))

theorem drop_get (rs : List (Nat × Nat)) (k : Nat) (h : k < rs.length) : rs.drop k = (lo rs k, hi rs k) :: rs.drop (k + 1) := by
  rw [List.drop_eq_getElem_cons h]
  have e : rs.getD k (0, 0) = rs[k] := by rw [List.getD_eq_getElem?_getD, List.getElem?_eq_getElem h]; rfl
  unfold lo hi
  rw [e]

theorem okFrom_wf : ∀ (rs : List (Nat × Nat)) (p : Option Nat) (m : Nat), okFrom p rs = true → (∀ q, p = some q → m ≤ q + 2) → (p = none → m = 0) → PlainIds.wf m rs := by
  intro rs
  induction rs with
  | nil => intro p m _ _ _; trivial
  | cons x r ih =>
    obtain ⟨l, h⟩ := x
    intro p m hok hp hn
    simp only [okFrom, Bool.and_eq_true, decide_eq_true_eq] at hok
    obtain ⟨⟨h1, h2⟩, h3⟩ := hok
    refine ⟨?_, h1, ih (some h) _ h3 (fun q e => by cases e; omega) (fun e => by cases e)⟩
    cases p with
    | none => rw [hn rfl]; omega
    | some q => simp only [decide_eq_true_eq] at h2; have := hp q rfl; omega

theorem ok_bad (rs : List (Nat × Nat)) (p : Option Nat) (k : Nat) (h : k < rs.length) (hh : hi rs k < lo rs k) : okFrom p (rs.drop k) = false := by
  rw [drop_get rs k h]
  simp only [okFrom]
  rw [decide_eq_false (by omega)]; rfl
theorem ok_touch (rs : List (Nat × Nat)) (k : Nat) (h : k + 1 < rs.length) (hh : lo rs (k + 1) ≤ hi rs k + 1) : okFrom (prev rs (k + 1)) (rs.drop (k + 1)) = false := by
  rw [drop_get rs (k + 1) h]
  simp only [okFrom, prev, Nat.add_one_ne_zero, if_false, Nat.add_sub_cancel]
  rw [decide_eq_false (p := hi rs k + 1 < lo rs (k + 1)) (by omega)]; simp
theorem ok_first (rs : List (Nat × Nat)) (h : 0 < rs.length) (hh : lo rs 0 ≤ hi rs 0) : okFrom (prev rs 0) (rs.drop 0) = okFrom (prev rs (0 + 1)) (rs.drop (0 + 1)) := by
  rw [drop_get rs 0 h]
  simp only [okFrom, prev, if_true, Nat.zero_add, Nat.one_ne_zero, if_false, Nat.sub_self]
  rw [decide_eq_true (by omega)]; rfl
theorem ok_next (rs : List (Nat × Nat)) (k : Nat) (h : k + 1 < rs.length) (hh : lo rs (k + 1) ≤ hi rs (k + 1)) (h2 : hi rs k + 1 < lo rs (k + 1)) :
    okFrom (prev rs (k + 1)) (rs.drop (k + 1)) = okFrom (prev rs (k + 1 + 1)) (rs.drop (k + 1 + 1)) := by
  rw [drop_get rs (k + 1) h]
  simp only [okFrom, prev, Nat.add_one_ne_zero, if_false, Nat.add_sub_cancel]
  rw [decide_eq_true (by omega), decide_eq_true (p := hi rs k + 1 < lo rs (k + 1)) (by omega)]; rfl

theorem ret_b {x y : Bool} (h : y = x) : Ending.returned (Value.bool x) = .returned (.bool y) := by rw [h]

set_option maxHeartbeats 400000 in
theorem spansOK_pos (rs : List (Nat × Nat)) (b o n c : Nat) (hn : n ≤ 65536) (w : World) (hS : Spans w (some ⟨b, o, none⟩) n rs) (h0 : 0 < n) :
    Calls Try.prog 10 #[.slice (some ⟨b, o, none⟩) n c] w fun e w' => e = .returned (.bool (okFrom none rs)) ∧ Drawn w w' := by
  obtain ⟨hl, hb, hc⟩ := hS
  have hc' : ∀ i, i < n → w.cell? ⟨b, o + i * 2, none⟩ = some (.int .u16 (lo rs i)) ∧ w.cell? ⟨b, o + i * 2 + 1, none⟩ = some (.int .u16 (hi rs i)) := by
    rcases hc with hc | ⟨b', o', e, hc⟩
    · omega
    · cases e; exact hc
  clear hc
  have HL : Hid (rs.length = n) := hl; clear hl
  go_enter Try.func10, Try.ntmps10
  go_wp2
  go_loopg [3] n (fun g i wr => ∃ k : Nat, g = n - k ∧ k ≤ n ∧ i = .int .i64 k ∧ okFrom none rs = okFrom (prev rs k) (rs.drop k) ∧ Drawn w wr)
  case atStart => exact ⟨0, rfl, Nat.zero_le _, rfl, rfl, Drawn.refl _⟩
  case round =>
    obtain ⟨k, rfl, hk, rfl, hE, m, rfl⟩ := hrel
    have HE : Hid _ := hE; clear hE
    by_cases hlt : k < n
    · have hkl : k < rs.length := by rw [HL.out]; exact hlt
      obtain ⟨c0, c1⟩ := hc' k hlt
      obtain ⟨b0, b1⟩ := hb k hlt
      have HB : Hid _ := hb; clear hb
      have HC : Hid _ := hc'; clear hc'
      have hlt' : (k : Int) < (n : Int) := by omega
      by_cases hbad : hi rs k < lo rs k
      · have HX : Hid _ := ok_bad rs (prev rs k) k hkl hbad
        generalize lo rs k = l at *
        generalize hi rs k = h at *
        go_wp2
        go_quiet (fail)
        go_wp2
        go_ret
        exact ⟨ret_b (by rw [HE.out, HX.out]), by repeat (first | exact Drawn.refl _ | apply Drawn.next | apply Drawn.drew)⟩
      · match k, hk, hlt, hkl, c0, c1, b0, b1, hlt', hbad, HE with
        | 0, hk, hlt, hkl, c0, c1, b0, b1, hlt', hbad, HE =>
          have HX : Hid _ := ok_first rs hkl (by omega)
          generalize lo rs 0 = l at *
          generalize hi rs 0 = h at *
          simp only [Nat.zero_mul, Nat.add_zero] at c0 c1
          have hd : decide ((0 : Int) < 0) = false := by decide
          go_wp2
          go_quiet (fail)
          go_wp2
          go_quiet (fail)
          go_wp2
          go_roundg (n - (0 + 1))
          case measure => omega
          case rel => exact ⟨0 + 1, rfl, by omega, by go_num, by rw [HE.out, HX.out], by repeat (first | exact Drawn.refl _ | apply Drawn.next | apply Drawn.drew)⟩
        | j + 1, hk, hlt, hkl, c0, c1, b0, b1, hlt', hbad, HE =>
          obtain ⟨d0, d1⟩ := HC.out j (by omega)
          obtain ⟨e0, e1⟩ := HB.out j (by omega)
          clear d0
          by_cases ht : lo rs (j + 1) ≤ hi rs j + 1
          · have HX : Hid _ := ok_touch rs j hkl ht
            generalize lo rs (j + 1) = l at *
            generalize hi rs (j + 1) = h at *
            generalize hi rs j = q at *
            have hj : (0 : Int) < (j : Int) + 1 := by omega
            have hj2 : (j : Int) < (n : Int) := by omega
            go_wp2
            go_quiet (fail)
            go_wp2
            go_quiet (fail)
            go_wp2
            go_ret
            exact ⟨ret_b (by rw [HE.out, HX.out]), by repeat (first | exact Drawn.refl _ | apply Drawn.next | apply Drawn.drew)⟩
          · have HX : Hid _ := ok_next rs j hkl (by omega) (by omega)
            generalize lo rs (j + 1) = l at *
            generalize hi rs (j + 1) = h at *
            generalize hi rs j = q at *
            have hj : (0 : Int) < (j : Int) + 1 := by omega
            have hj2 : (j : Int) < (n : Int) := by omega
            have hd : decide ((l : Int) ≤ (q : Int) + 1) = false := decide_eq_false (by omega)
            go_wp2
            go_quiet (fail)
            go_wp2
            go_quiet (fail)
            go_wp2
            go_roundg (n - (j + 1 + 1))
            case measure => omega
            case rel => exact ⟨j + 1 + 1, rfl, by omega, by go_num, by rw [HE.out, HX.out], by repeat (first | exact Drawn.refl _ | apply Drawn.next | apply Drawn.drew)⟩
    · go_wp2
      go_ret
      refine ⟨ret_b ?_, by repeat (first | exact Drawn.refl _ | apply Drawn.next | apply Drawn.drew)⟩
      rw [HE.out, List.drop_of_length_le (by rw [HL.out]; omega)]; rfl

end Go.Proofs.Qxb6601345a
