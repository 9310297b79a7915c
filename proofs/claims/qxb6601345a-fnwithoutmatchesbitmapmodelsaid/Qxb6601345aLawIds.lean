import Derived.Test.Qxb6601345aBitmap
namespace Go.Proofs.Qxb6601345a
open Go.RowKit
set_option linter.unusedVariables false
set_option linter.unusedSimpArgs false

theorem cell_lt {w : World} {b o : Nat} {v : Value} (h : w.cell? ⟨b, o, none⟩ = some v) : b < w.heap.size := by
  by_cases hb : b < w.heap.size
  · exact hb
  · rw [World.cell?, Array.getElem?_eq_none (by simpa using hb)] at h; cases h

theorem Spans.within {w : World} {a : Option Addr} {n : Nat} {rs : List (Nat × Nat)} (h : Spans w a n rs) : SpansIn w a n rs := by
  obtain ⟨h1, h2, h3⟩ := h
  refine ⟨h1, h2, ?_⟩
  rcases h3 with hz | ⟨b, o, rfl, hc⟩
  · exact .inl hz
  · by_cases h0 : n = 0
    · exact .inl h0
    · exact .inr ⟨b, o, rfl, cell_lt (hc 0 (by omega)).1, hc⟩

theorem SpansIn.bare {w : World} {a : Option Addr} {n : Nat} {rs : List (Nat × Nat)} (h : SpansIn w a n rs) : Spans w a n rs := by
  obtain ⟨h1, h2, h3⟩ := h
  refine ⟨h1, h2, ?_⟩
  rcases h3 with hz | ⟨b, o, rfl, _, hc⟩
  · exact .inl hz
  · exact .inr ⟨b, o, rfl, hc⟩

theorem SpansIn.keep {w w' : World} {a : Option Addr} {n : Nat} {rs : List (Nat × Nat)} (h : SpansIn w a n rs) (hb : Below w.heap.size w w') : SpansIn w' a n rs := by
  by_cases h0 : 0 < n
  · obtain ⟨b, o, rfl, hlt, hc⟩ := h.at hb h0
    exact ⟨h.1, h.2.1, .inr ⟨b, o, rfl, Nat.lt_of_lt_of_le hlt hb.size, hc⟩⟩
  · exact ⟨h.1, h.2.1, .inl (by omega)⟩

/-- The cells of L lie at a. -/
def Lies (w : World) (a : Option Addr) (n : Nat) (L : List (Nat × Nat)) : Prop :=
  n = 0 ∨ ∃ b o, a = some ⟨b, o, none⟩ ∧ b < w.heap.size ∧ ∀ i, i < n → w.cell? ⟨b, o + i * 2, none⟩ = some (.int .u16 (lo L i)) ∧ w.cell? ⟨b, o + i * 2 + 1, none⟩ = some (.int .u16 (hi L i))

theorem Lies.keep {w w' : World} {a : Option Addr} {n : Nat} {L : List (Nat × Nat)} (h : Lies w a n L) (hb : Below w.heap.size w w') : Lies w' a n L := by
  rcases h with h | ⟨b, o, rfl, hlt, hc⟩
  · exact .inl h
  · exact .inr ⟨b, o, rfl, Nat.lt_of_lt_of_le hlt hb.size, fun i hi' => ⟨(hb.cell (p := ⟨b, o + i * 2, none⟩) hlt).trans (hc i hi').1, (hb.cell (p := ⟨b, o + i * 2 + 1, none⟩) hlt).trans (hc i hi').2⟩⟩

theorem cells_at (L : List (Nat × Nat)) : ∀ i, i < L.length → (cells L)[i * 2]? = some (.int .u16 (lo L i)) ∧ (cells L)[i * 2 + 1]? = some (.int .u16 (hi L i)) := by
  induction L with
  | nil => intro i h; simp at h
  | cons p r ih =>
    intro i h
    cases i with
    | zero => simp [cells, lo, hi]
    | succ i =>
      have := ih i (by simpa using h)
      simp only [cells, List.flatMap_cons] at this ⊢
      rw [show (i + 1) * 2 = i * 2 + 2 from by omega]
      simp only [List.cons_append, List.nil_append, List.getElem?_cons_succ]
      simp only [lo, hi, List.getD_cons_succ] at this ⊢
      exact this

theorem lies_own {w : World} {base : Nat} {v : Value} {L : List (Nat × Nat)} (h : w.ownsRow base 57 2 v L.length (cells L)) : ∃ a c, v = .slice a L.length c ∧ Lies w a L.length L := by
  rcases h.2 with ⟨hv, h0⟩ | ⟨g, cap, cur, hv, _⟩
  · exact ⟨none, 0, by rw [hv, h0], .inl h0⟩
  · refine ⟨_, _, hv, ?_⟩
    by_cases h0 : L.length = 0
    · exact .inl h0
    · subst hv
      have hlt := (h.lt g rfl).2
      refine .inr ⟨g, 0, rfl, hlt, fun i hi' => ?_⟩
      have c0 := h.cellAt (i * 2) (by omega)
      have c1 := h.cellAt (i * 2 + 1) (by omega)
      obtain ⟨e0, e1⟩ := cells_at L i hi'
      rw [e0] at c0; rw [e1] at c1
      exact ⟨by simpa using c0, by simpa using c1⟩

theorem same_lies (L : List (Nat × Nat)) (a a' : Option Addr) (n c c' : Nat) (hn : n ≤ 1048576) (w : World) (hA : Lies w a n L) (hB : Lies w a' n L) :
    Calls Try.prog 13 #[.slice a n c, .slice a' n c'] w fun e w' => e = .returned (.bool true) ∧ Drawn w w' := by
  rcases hA with hz | ⟨b, o, rfl, _, hc⟩
  · subst hz; exact same_zero a a' c c' w
  · rcases hB with hz | ⟨b', o', rfl, _, hc'⟩
    · subst hz; exact same_zero _ _ c c' w
    · exact same_pos L b o b' o' n c c' hn w hc hc'

set_option maxHeartbeats 400000 in
theorem ZZWithout_any (S T : List (Nat × Nat)) (a b : Option Addr) (n m c d : Nat) (hn : n ≤ 65536) (hm : m ≤ 65536) (w : World) (hS : SpansIn w a n S) (hT : SpansIn w b m T) (hmd : m ≤ d) :
    Calls Try.prog 11 #[.agg #[.slice a n c], .agg #[.slice b m d]] w fun e w' => ∃ x y, e = .returned (.agg #[.slice x (PlainIds.outer S T).length y]) ∧ Lies w' x (PlainIds.outer S T).length (PlainIds.outer S T) ∧ Below w.heap.size w w' := by
  go_enter Try.func11, Try.ntmps11
  go_wp2_with fail
  have hb3 : Below w.heap.size w (((w.alloc (.cells #[.slice a n c] 27)).alloc (.cells #[.slice b m d] 27)).alloc (.cells #[.slice none 0 0] 27)) :=
    (((Below.refl _ _).alloc (Nat.le_refl _) _).alloc (by simp) _).alloc (by simp; omega) _
  refine (without_any S T a b n m c d hn hm _ (hS.keep hb3) (hT.keep hb3) hmd).mono ?_
  rintro e w1 ⟨v', rfl, hown, hb⟩
  obtain ⟨x, y, rfl, hl⟩ := lies_own hown
  have hcl := hb.cell (p := ⟨w.heap.size + 1 + 1, 0, none⟩) (by simp)
  have hcf := hb.frozen (p := ⟨w.heap.size + 1 + 1, 0, none⟩) (by simp)
  rw [World.cell?_alloc_at _ _ _ _ (by simp)] at hcl
  rw [World.frozen?_alloc_at _ _ _ _ (by simp)] at hcf
  have hcl' : w1.cell? ⟨w.heap.size + 1 + 1, 0, none⟩ = some (.slice none 0 0) := hcl
  have hsz := hb.size
  simp at hsz
  have HB : Hid _ := (hb3.trans (hb.mono (by simp; omega)))
  have HL : Hid (∀ u, Lies (w1.setCell ⟨w.heap.size + 1 + 1, 0, none⟩ u) x (PlainIds.outer S T).length (PlainIds.outer S T)) := by
    intro u
    rcases hl with hl | ⟨g, o, rfl, hlt, hc⟩
    · exact .inl hl
    · by_cases h0 : (PlainIds.outer S T).length = 0
      · exact .inl h0
      · have hge : w.heap.size + 3 ≤ g := by
          have := (hown.lt g rfl).1
          simp at this
          omega
        refine .inr ⟨g, o, rfl, by simp [World.setCell]; exact hlt, fun i hi' => ?_⟩
        rw [World.cell?_setCell_other _ _ _ _ (by simp only [ne_eq, Addr.mk.injEq]; omega), World.cell?_setCell_other _ _ _ _ (by simp only [ne_eq, Addr.mk.injEq]; omega)]
        exact hc i hi'
  clear hown hb hl hcl hb3 hsz
  go_wp2
  refine bodyPost_ret (v := .agg #[.slice x (PlainIds.outer S T).length y]) (by simp [results, Try.results11, go_sem, hcl']) rfl ⟨x, y, rfl, HL.out _, HB.out.setCell (by show w.heap.size ≤ w.heap.size + 1 + 1; omega) _⟩

theorem IDsRuns_any (a : Option Addr) (n c : Nat) (w : World) :
    Calls Try.prog 14 #[.agg #[.slice a n c]] w fun e w' => e = .returned (.slice a n c) ∧ Below w.heap.size w w' := by
  go_enter Try.func14, Try.ntmps14
  go_wp2
  go_ret
  exact ⟨rfl, (Below.refl _ _).alloc (Nat.le_refl _) _⟩

theorem below_next {a b c : World} (h : Below a.heap.size a b) (k : Below b.heap.size b c) : Below a.heap.size a c := h.trans (k.mono h.size)
theorem drawn_below {a b : World} (h : Drawn a b) : Below a.heap.size a b := by
  obtain ⟨n, rfl⟩ := h
  exact ⟨rfl, rfl, rfl, Nat.le_refl _, fun _ _ => rfl⟩

theorem Came.keep {w w' : World} {a : Option Addr} {n c : Nat} {rs : List (Nat × Nat)} (h : Came w a n c rs) (hb : Below w.heap.size w w') : Came w' a n c rs := by
  obtain ⟨hS, hc, h⟩ := h
  refine ⟨(hS.within.keep hb).bare, hc, ?_⟩
  rcases h with h | ⟨x, rfl, h⟩
  · exact .inl h
  · exact .inr ⟨x, rfl, h.elim .inl (fun h => .inr (Nat.lt_of_lt_of_le h hb.size))⟩

/-- The plain law at lists that zzSpansOK lets by. -/
theorem law_lists (S T : List (Nat × Nat)) (hS : okFrom none S = true) (hT : okFrom none T = true) (hb : ∀ i, i < S.length → hi S i < 65536) :
    PlainIds.scan (PlainIds.bits S T) 65536 0 none = PlainIds.outer S T := by
  refine (PlainIds.law S T _ 65536 (okFrom_wf S none 0 hS (fun _ h => by cases h) (fun _ => rfl)) (okFrom_wf T none 0 hT (fun _ h => by cases h) (fun _ => rfl)) ?_ (fun x _ => PlainIds.bits_iff S T x)).symm
  intro r hr
  obtain ⟨i, hi', rfl⟩ := List.mem_iff_getElem.1 hr
  have := hb i hi'
  simpa [hi, List.getD_eq_getElem?_getD, List.getElem?_eq_getElem hi'] using this

theorem scan_len (f : Nat → Bool) : ∀ n x, (PlainIds.scan f n x none).length ≤ n ∧ ∀ l, (PlainIds.scan f n x (some l)).length ≤ n + 1 := by
  intro n
  induction n with
  | zero => intro x; exact ⟨by simp [PlainIds.scan], fun l => by simp [PlainIds.scan]⟩
  | succ n ih =>
    intro x
    have h := ih (x + 1)
    constructor
    · simp only [PlainIds.scan]
      split
      · exact h.2 x
      · have := h.1; omega
    · intro l
      simp only [PlainIds.scan]
      split
      · have := h.2 l; omega
      · have := h.1; simp; omega

set_option maxHeartbeats 800000 in
theorem ids_core (S T : List (Nat × Nat)) (a b : Option Addr) (n m c d : Nat) (hn : n ≤ 65536) (hm : m ≤ 65536) (w : World) (hS : Came w a n c S) (hT : Came w b m d T) :
    Calls Try.prog 3 #[.slice a n c, .slice b m d] w fun e w' => e = .returned (.bool true) ∧ Below w.heap.size w w' := by
  have HS : Hid _ := hS; clear hS
  have HT : Hid _ := hT; clear hT
  go_enter Try.func3, Try.ntmps3
  go_wp2_with (first | (go_at_call 9; go_in) | fail)
  refine (spansOK_any S a n c hn _ HS.out.1).mono ?_
  rintro e w1 ⟨rfl, hd1⟩
  have g1 := drawn_below hd1
  clear hd1
  cases hoS : okFrom none S
  · go_wp2_with fail
    go_ret
    exact ⟨rfl, g1⟩
  · go_wp2_with fail
    refine (spansOK_any T b m d hm _ (Came.keep HT.out g1).1).mono ?_
    rintro e w2 ⟨rfl, hd2⟩
    have g2 := below_next g1 (drawn_below hd2)
    clear hd2 g1
    cases hoT : okFrom none T
    · go_wp2_with fail
      go_ret
      exact ⟨rfl, g2⟩
    · have HE : Hid _ := law_lists S T hoS hoT (fun i hi' => (HS.out.1.2.1 i (by rw [← HS.out.1.1]; exact hi')).2)
      have HN : Hid ((PlainIds.outer S T).length ≤ 65536) := by
        show (PlainIds.outer S T).length ≤ 65536
        rw [← HE.out]; exact (scan_len _ 65536 0).1
      clear hoS hoT
      go_wp2_with fail
      refine (ids_any S a n c hn _ (Came.keep HS.out g2)).mono ?_
      rintro e w3 ⟨a3, c3, rfl, s3, hc3, hb3⟩
      have g3 := below_next g2 hb3
      go_wp2_with fail
      refine (ids_any T b m d hm _ (Came.keep HT.out g3)).mono ?_
      rintro e w4 ⟨a4, c4, rfl, s4, hc4, hb4⟩
      have g4 := below_next g3 hb4
      have s3' := s3.within.keep hb4
      clear g2 g3 hb3 hb4 s3
      go_wp2_with fail
      refine (ZZWithout_any S T a3 a4 n m c3 c4 hn hm _ s3' s4.within hc4).mono ?_
      rintro e w5 ⟨x, y, rfl, hl5, hb5⟩
      have g5 := below_next g4 hb5
      clear g4 hb5 s3' s4
      go_wp2_with fail
      refine (IDsRuns_any _ _ _ _).mono ?_
      rintro e w6 ⟨rfl, hb6⟩
      have b6 : Below w5.heap.size w5 w6 := ((Below.refl _ _).alloc (Nat.le_refl _) _).trans (hb6.mono (by simp))
      have g6 := below_next g5 b6
      have l6 := Lies.keep hl5 b6
      clear hb6 b6 g5 hl5
      go_wp2_with fail
      refine (bitmap_any S T a b n m c d hn hm _ (Came.keep HS.out g6).1.within (Came.keep HT.out g6).1.within).mono ?_
      rintro e w7 ⟨v7, rfl, hown7, hb7⟩
      rw [HE.out] at hown7
      obtain ⟨x7, y7, rfl, l7⟩ := lies_own hown7
      have g7 := below_next g6 hb7
      have l6' := Lies.keep l6 hb7
      clear hown7 hb7 g6 l6
      go_wp2_with fail
      refine (same_lies _ x x7 _ y y7 (by have := HN.out; omega) _ l6' l7).mono ?_
      rintro e w8 ⟨rfl, hd8⟩
      have g8 := below_next g7 (drawn_below hd8)
      clear hd8 g7 l6' l7
      go_wp2_with fail
      go_ret
      exact ⟨rfl, g8⟩

end Go.Proofs.Qxb6601345a
