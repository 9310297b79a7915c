import Derived.Test.Qxb6601345aIds3
import Derived.Test.Qxb6601345aAppend
namespace Go.Proofs.Qxb6601345a
open Go.RowKit
set_option linter.unusedVariables false
set_option linter.unusedSimpArgs false

/-- The runs rs lie at a, in memory that was there. -/
def SpansIn (w : World) (a : Option Addr) (n : Nat) (rs : List (Nat × Nat)) : Prop :=
  rs.length = n ∧ (∀ i, i < n → lo rs i < 65536 ∧ hi rs i < 65536) ∧
    (n = 0 ∨ ∃ b o, a = some ⟨b, o, none⟩ ∧ b < w.heap.size ∧ ∀ i, i < n → w.cell? ⟨b, o + i * 2, none⟩ = some (.int .u16 (lo rs i)) ∧ w.cell? ⟨b, o + i * 2 + 1, none⟩ = some (.int .u16 (hi rs i)))

/-- The cells of runs. -/
def cells (L : List (Nat × Nat)) : List Value := L.flatMap fun r => [.int .u16 r.1, .int .u16 r.2]

theorem cells_len (L : List (Nat × Nat)) : (cells L).length = L.length * 2 := by
  induction L with
  | nil => rfl
  | cons p r ih => simp only [cells, List.flatMap_cons, List.length_append, List.length_cons, List.length_nil] at ih ⊢; omega
theorem cells_snoc (L : List (Nat × Nat)) (l h : Nat) : cells (L ++ [(l, h)]) = cells L ++ [.int .u16 l, .int .u16 h] := by
  simp [cells]

/-- What the call has gathered so far (v), and the result's own variable (the third block that it laid). -/
structure Acc (w wr : World) (v : Value) (L : List (Nat × Nat)) : Prop where
  below : Below w.heap.size w wr
  own : wr.ownsRow (w.heap.size + 3) 57 2 v L.length (cells L)
  res : ∃ u, wr.cell? ⟨w.heap.size + 1 + 1, 0, none⟩ = some u
  resf : wr.frozen? ⟨w.heap.size + 1 + 1, 0, none⟩ = false
  size : w.heap.size + 3 ≤ wr.heap.size

theorem Acc.alloc {w wr : World} {v : Value} {L : List (Nat × Nat)} (h : Acc w wr v L) (c : Array Value) (t : TypeId) : Acc w (wr.alloc (.cells c t)) v L := by
  have hz := h.size
  refine ⟨h.below.alloc (by omega) _, h.own.alloc _, ?_, ?_, by simp; omega⟩
  · rw [World.cell?_alloc_past _ _ _ (by omega)]; exact h.res
  · rw [World.frozen?_alloc_past _ _ _ (by omega)]; exact h.resf

theorem Acc.push {w wr w1 : World} {v v' : Value} {L : List (Nat × Nat)} {l h : Nat} (hA : Acc w wr v L)
    (hown : w1.ownsRow (w.heap.size + 3) 57 2 v' (L.length + 1) (cells L ++ [.int .u16 l, .int .u16 h])) (hg : wr.grownBy w1 v.ownBlock) : Acc w w1 v' (L ++ [(l, h)]) := by
  have hz := hA.size
  have hlt := hA.own.lt
  have hb : w1.heap[w.heap.size + 2]? = wr.heap[w.heap.size + 2]? := hg.block _ (by omega) (fun e => by have := (hlt _ e.symm).1; omega)
  refine ⟨hA.below.grown hg (by omega) (fun k e => by have := (hlt k e).1; omega), ?_, ?_, ?_, Nat.le_trans hz hg.size⟩
  · rw [cells_snoc]; simpa using hown
  · rw [World.cell?_of_block (w := wr) (a := ⟨w.heap.size + 1 + 1, 0, none⟩) hb]; exact hA.res
  · rw [World.frozen?_of_block (w := wr) (a := ⟨w.heap.size + 1 + 1, 0, none⟩) hb]; exact hA.resf

/-- A struct variable of the call's own: block R, which no slice of the call's owns. -/
structure Box (wr : World) (v : Value) (R l h : Nat) : Prop where
  cell0 : wr.cell? ⟨R, 0, none⟩ = some (.int .u16 l)
  cell1 : wr.cell? ⟨R, 1, none⟩ = some (.int .u16 h)
  ne : v.ownBlock ≠ some R
  lt : R < wr.heap.size

theorem Box.alloc {wr : World} {v : Value} {R l h : Nat} (hB : Box wr v R l h) (o : Obj) : Box (wr.alloc o) v R l h := by
  have := hB.lt
  exact ⟨by rw [World.cell?_alloc_past _ _ _ hB.lt]; exact hB.cell0, by rw [World.cell?_alloc_past _ _ _ hB.lt]; exact hB.cell1, hB.ne, by simp; omega⟩

theorem Box.push {wr w1 : World} {v v' : Value} {R l h : Nat} (hB : Box wr v R l h) (hg : wr.grownBy w1 v.ownBlock) (hv : v'.ownBlock = v.ownBlock ∨ v'.ownBlock = some wr.heap.size) : Box w1 v' R l h := by
  have hb : w1.heap[R]? = wr.heap[R]? := hg.block _ hB.lt (fun e => hB.ne e.symm)
  have hl := hB.lt
  refine ⟨by rw [World.cell?_of_block (w := wr) (a := ⟨R, 0, none⟩) hb]; exact hB.cell0, by rw [World.cell?_of_block (w := wr) (a := ⟨R, 1, none⟩) hb]; exact hB.cell1, ?_, Nat.lt_of_lt_of_le hl hg.size⟩
  rcases hv with e | e
  · rw [e]; exact hB.ne
  · rw [e]; intro h'; simp only [Option.some.injEq] at h'; omega

theorem Box.new (wr : World) {w : World} {v : Value} {L : List (Nat × Nat)} (hA : Acc w wr v L) (l h : Nat) : Box (wr.alloc (.cells #[.int .u16 l, .int .u16 h] 57)) v wr.heap.size l h := by
  refine ⟨by rw [World.cell?_alloc_at _ _ _ _ rfl]; rfl, by rw [World.cell?_alloc_at _ _ _ _ rfl]; rfl, fun e => ?_, by simp⟩
  have := (hA.own.lt _ e).2
  omega

theorem SpansIn.at {w wr : World} {a : Option Addr} {n : Nat} {rs : List (Nat × Nat)} (h : SpansIn w a n rs) (hb : Below w.heap.size w wr) (h0 : 0 < n) :
    ∃ b o, a = some ⟨b, o, none⟩ ∧ b < w.heap.size ∧ ∀ i, i < n → wr.cell? ⟨b, o + i * 2, none⟩ = some (.int .u16 (lo rs i)) ∧ wr.cell? ⟨b, o + i * 2 + 1, none⟩ = some (.int .u16 (hi rs i)) := by
  rcases h.2.2 with hz | ⟨b, o, rfl, hlt, hc⟩
  · omega
  · exact ⟨b, o, rfl, hlt, fun i hi' => ⟨(hb.cell (p := ⟨b, o + i * 2, none⟩) hlt).trans (hc i hi').1, (hb.cell (p := ⟨b, o + i * 2 + 1, none⟩) hlt).trans (hc i hi').2⟩⟩

theorem SpansIn.tail {w : World} {b o n : Nat} {rs : List (Nat × Nat)} (h : SpansIn w (some ⟨b, o, none⟩) n rs) (h0 : 0 < n) {x : Option Addr} (hx : x = some ⟨b, o + 2, none⟩ ∨ n = 1) : SpansIn w x (n - 1) (rs.drop 1) := by
  obtain ⟨h1, h2, h3⟩ := h
  have el : ∀ i, lo (rs.drop 1) i = lo rs (i + 1) := fun i => by simp [lo, List.getD_eq_getElem?_getD, Nat.add_comm]
  have eh : ∀ i, hi (rs.drop 1) i = hi rs (i + 1) := fun i => by simp [hi, List.getD_eq_getElem?_getD, Nat.add_comm]
  refine ⟨by rw [List.length_drop, h1], fun i hi' => by rw [el, eh]; exact h2 (i + 1) (by omega), ?_⟩
  rcases hx with rfl | rfl
  · rcases h3 with hz | ⟨b', o', e, hlt, hc⟩
    · omega
    · cases e
      refine .inr ⟨b, o + 2, rfl, hlt, fun i hi' => ?_⟩
      obtain ⟨q0, q1⟩ := hc (i + 1) (by omega)
      rw [el, eh, show o + 2 + i * 2 = o + (i + 1) * 2 from by omega]
      exact ⟨q0, q1⟩
  · exact .inl rfl

theorem skip_yes (rs : List (Nat × Nat)) (l : Nat) (h0 : 0 < rs.length) (h : hi rs 0 < l) : PlainIds.skip l rs = PlainIds.skip l (rs.drop 1) := by
  have e := drop_get rs 0 h0
  rw [List.drop_zero] at e
  rw [e]
  simp only [PlainIds.skip]
  rw [if_pos h]; rfl
theorem skip_no (rs : List (Nat × Nat)) (l : Nat) (h0 : 0 < rs.length) (h : ¬ hi rs 0 < l) : PlainIds.skip l rs = rs := by
  have e := drop_get rs 0 h0
  rw [List.drop_zero] at e
  rw [e]
  simp only [PlainIds.skip]
  rw [if_neg h]

theorem Acc.start (w : World) (c0 c1 c2 : Array Value) (h : 0 < c2.size) : Acc w (((w.alloc (.cells c0 27)).alloc (.cells c1 27)).alloc (.cells c2 27)) (.slice none 0 0) [] := by
  refine ⟨(((Below.refl _ _).alloc (Nat.le_refl _) _).alloc (by simp) _).alloc (by simp; omega) _, World.ownsRow_nil _ _ _ _, ⟨c2[0], ?_⟩, ?_, by simp⟩
  · rw [World.cell?_alloc_at _ _ _ _ (by simp)]; exact Array.getElem?_eq_getElem h
  · rw [World.frozen?_alloc_at _ _ _ _ (by simp)]

theorem two_cells (w : World) (x y : Value) (B : Nat) (hB : B = w.heap.size) : ∀ (j : Nat) (u : Value), [x, y][j]? = some u → (w.alloc (.cells #[x, y] 57)).cell? ((⟨B, 0, none⟩ : Addr).add j) = some u := by
  intro j u hj
  rw [Addr.add_lit, World.cell?_alloc_at _ _ _ _ hB]
  match j, hj with
  | 0, hj => simpa using hj
  | 1, hj => simpa using hj
theorem two_one (l h : Int) : ∀ u ∈ [Value.int .u16 l, Value.int .u16 h], u.oneCell' = true := by
  intro u hu
  simp at hu
  rcases hu with rfl | rfl <;> rfl
theorem own_slice {w : World} {base e size n : Nat} {v : Value} {xs : List Value} (h : w.ownsRow base e size v n xs) : ∃ a n' c, v = .slice a n' c := by
  rcases h.2 with ⟨rfl, _⟩ | ⟨g, cap, cur, rfl, _⟩
  · exact ⟨_, _, _, rfl⟩
  · exact ⟨_, _, _, rfl⟩

theorem cut_break {h l low l1 h1 : Nat} {sk X L L' : List (Nat × Nat)} {j : Nat} (hd : sk.drop j = (l1, h1) :: X) (hbr : h < l1)
    (e1 : L ++ (PlainIds.cut h l sk).1 = L' ++ (PlainIds.cut h low (sk.drop j)).1) (e2 : (PlainIds.cut h l sk).2 = (PlainIds.cut h low (sk.drop j)).2) :
    L ++ (PlainIds.cut h l sk).1 = L' ∧ (PlainIds.cut h l sk).2 = low := by
  have e : PlainIds.cut h low (sk.drop j) = ([], low) := by rw [hd]; simp only [PlainIds.cut]; rw [if_pos hbr]
  rw [e] at e1 e2
  exact ⟨by simpa using e1, e2⟩
theorem cut_end {h l low : Nat} {sk L L' : List (Nat × Nat)} {j : Nat} (hd : sk.drop j = [])
    (e1 : L ++ (PlainIds.cut h l sk).1 = L' ++ (PlainIds.cut h low (sk.drop j)).1) (e2 : (PlainIds.cut h l sk).2 = (PlainIds.cut h low (sk.drop j)).2) :
    L ++ (PlainIds.cut h l sk).1 = L' ∧ (PlainIds.cut h l sk).2 = low := by
  have e : PlainIds.cut h low (sk.drop j) = ([], low) := by rw [hd]; rfl
  rw [e] at e1 e2
  exact ⟨by simpa using e1, e2⟩
theorem cut_app {h l low l1 h1 : Nat} {sk L L' : List (Nat × Nat)} {j : Nat} (hd : sk.drop j = (l1, h1) :: sk.drop (j + 1)) (hbr : ¬ h < l1) (hap : low < l1)
    (e1 : L ++ (PlainIds.cut h l sk).1 = L' ++ (PlainIds.cut h low (sk.drop j)).1) (e2 : (PlainIds.cut h l sk).2 = (PlainIds.cut h low (sk.drop j)).2) :
    L ++ (PlainIds.cut h l sk).1 = (L' ++ [(low, l1 - 1)]) ++ (PlainIds.cut h (h1 + 1) (sk.drop (j + 1))).1 ∧ (PlainIds.cut h l sk).2 = (PlainIds.cut h (h1 + 1) (sk.drop (j + 1))).2 := by
  have f1 : (PlainIds.cut h low (sk.drop j)).1 = [(low, l1 - 1)] ++ (PlainIds.cut h (h1 + 1) (sk.drop (j + 1))).1 := by rw [hd]; simp only [PlainIds.cut]; rw [if_neg hbr, if_pos hap]
  have f2 : (PlainIds.cut h low (sk.drop j)).2 = (PlainIds.cut h (h1 + 1) (sk.drop (j + 1))).2 := by rw [hd]; simp only [PlainIds.cut]; rw [if_neg hbr]
  rw [e1, e2, f1, f2, List.append_assoc]
  exact ⟨rfl, rfl⟩
theorem cut_no {h l low l1 h1 : Nat} {sk L L' : List (Nat × Nat)} {j : Nat} (hd : sk.drop j = (l1, h1) :: sk.drop (j + 1)) (hbr : ¬ h < l1) (hap : ¬ low < l1)
    (e1 : L ++ (PlainIds.cut h l sk).1 = L' ++ (PlainIds.cut h low (sk.drop j)).1) (e2 : (PlainIds.cut h l sk).2 = (PlainIds.cut h low (sk.drop j)).2) :
    L ++ (PlainIds.cut h l sk).1 = L' ++ (PlainIds.cut h (h1 + 1) (sk.drop (j + 1))).1 ∧ (PlainIds.cut h l sk).2 = (PlainIds.cut h (h1 + 1) (sk.drop (j + 1))).2 := by
  have f1 : (PlainIds.cut h low (sk.drop j)).1 = (PlainIds.cut h (h1 + 1) (sk.drop (j + 1))).1 := by rw [hd]; simp only [PlainIds.cut]; rw [if_neg hbr, if_neg hap]; rfl
  have f2 : (PlainIds.cut h low (sk.drop j)).2 = (PlainIds.cut h (h1 + 1) (sk.drop (j + 1))).2 := by rw [hd]; simp only [PlainIds.cut]; rw [if_neg hbr]
  rw [e1, e2, f1, f2]
  exact ⟨rfl, rfl⟩
theorem outer_step (S T bs sk L L' : List (Nat × Nat)) (k l h low : Nat) (hk : k < S.length) (hl : l = lo S k) (hh : h = hi S k) (hsk : sk = PlainIds.skip l bs) (hE : PlainIds.outer S T = L ++ PlainIds.outer (S.drop k) bs)
    (e1 : L ++ (PlainIds.cut h l sk).1 = L') (e2 : (PlainIds.cut h l sk).2 = low) : PlainIds.outer S T = (L' ++ PlainIds.last h low) ++ PlainIds.outer (S.drop (k + 1)) sk := by
  rw [hE, drop_get S k hk, ← hl, ← hh]
  simp only [PlainIds.outer]
  rw [← hsk, e2, ← e1]
  simp only [List.append_assoc]

set_option maxHeartbeats 2000000 in
set_option maxRecDepth 100000 in
theorem without_any (S T : List (Nat × Nat)) (a b : Option Addr) (n m c d : Nat) (hn : n ≤ 65536) (hm : m ≤ 65536) (w : World) (hS : SpansIn w a n S) (hT : SpansIn w b m T) (hmd : m ≤ d) :
    Calls Try.prog 30 #[.agg #[.slice a n c], .agg #[.slice b m d]] w fun e w' => ∃ v' : Value, e = .returned (.agg #[v']) ∧ w'.ownsRow (w.heap.size + 3) 57 2 v' (PlainIds.outer S T).length (cells (PlainIds.outer S T)) ∧ Below w.heap.size w w' := by
  obtain ⟨i0, hi0, hz0, hz1, hz2⟩ := info_parts Try.info57
  have HI : Hid _ := And.intro hi0 (And.intro hz0 (And.intro hz1 hz2))
  clear hi0 hz0 hz1 hz2
  go_enter Try.func30, Try.ntmps30
  go_wp2
  go_loopg [5, 6, 17] n (fun g v vb vi wr => ∃ (k : Nat) (L bs : List (Nat × Nat)) (ab : Option Addr) (nb cb : Nat) (av : Option Addr) (nv cv : Nat), g = n - k ∧ k ≤ n ∧ vi = .int .i64 k ∧ vb = .slice ab nb cb ∧ nb ≤ cb ∧ nb ≤ 65536 ∧ SpansIn w ab nb bs ∧
    L.length ≤ k * 65537 ∧ v = .slice av nv cv ∧ Acc w wr (.slice av nv cv) L ∧ PlainIds.outer S T = L ++ PlainIds.outer (S.drop k) bs)
  case atStart => exact ⟨0, [], T, b, m, d, none, 0, 0, rfl, Nat.zero_le _, rfl, rfl, hmd, hm, hT, Nat.zero_le _, rfl, Acc.start w _ _ _ (by simp), rfl⟩
  case round =>
    obtain ⟨k, L, bs, ab, nb, cb, av, nv, cv, rfl, hk, rfl, rfl, hnb, hnb2, hbs, hL, rfl, hA, hE⟩ := hrel
    have HE : Hid _ := hE; clear hE
    have HLL : Hid _ := hL; clear hL
    by_cases hlt : k < n
    · obtain ⟨sb, so, rfl, hsb, hcell⟩ := hS.at hA.below (by omega)
      obtain ⟨c0, c1⟩ := hcell k hlt
      obtain ⟨l0, h0⟩ := hS.2.1 k hlt
      have hlt' : (k : Int) < (n : Int) := by omega
      clear hcell
      obtain ⟨l, hl⟩ : ∃ l, l = lo S k := ⟨_, rfl⟩
      obtain ⟨h, hh⟩ : ∃ h, h = hi S k := ⟨_, rfl⟩
      rw [← hl] at c0 l0; rw [← hh] at c1 h0
      have HL : Hid _ := hl; clear hl
      have HH : Hid _ := hh; clear hh
      have HA : Hid _ := hA; clear hA
      go_upto_block 2 with fail
      go_cut [6] from 24 to 37 (fun vb wx => ∃ (ab : Option Addr) (nb cb : Nat), vb = .slice ab nb cb ∧ nb ≤ cb ∧ nb ≤ 65536 ∧ SpansIn w ab nb (PlainIds.skip l bs) ∧ wx = wr.alloc (.cells #[.int .u16 l, .int .u16 h] 57))
      case first =>
        have hbel := HA.out.below
        go_wp2
        go_loopg [6] nb (fun g vb wx => ∃ (bs' : List (Nat × Nat)) (ab' : Option Addr) (nb' cb' : Nat), nb' = g ∧ vb = .slice ab' nb' cb' ∧ nb' ≤ cb' ∧ nb' ≤ 65536 ∧ SpansIn w ab' nb' bs' ∧ PlainIds.skip l bs = PlainIds.skip l bs' ∧ wr.alloc (.cells #[.int .u16 l, .int .u16 h] 57) = wx)
        case atStart => exact ⟨bs, ab, nb, cb, rfl, rfl, hnb, hnb2, hbs, rfl, rfl⟩
        case round =>
          obtain ⟨bs', ab', nb', cb', rfl, rfl, hnb', hnb2', hbs', hsk, rfl⟩ := hrel
          have HS : Hid _ := hsk; clear hsk
          by_cases hz : nb' = 0
          · subst hz
            go_wp2
            go_meet
            case rel =>
              have e : bs' = [] := List.length_eq_zero_iff.1 hbs'.1
              exact ⟨_, _, _, rfl, by omega, by omega, by rw [HS.out]; subst e; exact hbs', rfl⟩
          · obtain ⟨b1, o1, rfl, hb1, hcell⟩ := hbs'.at hbel (by omega)
            obtain ⟨q0, q1⟩ := hcell 0 (by omega)
            obtain ⟨p0, p1⟩ := hbs'.2.1 0 (by omega)
            simp only [Nat.zero_mul, Nat.add_zero] at q0 q1
            clear hcell
            have hb1' : b1 < wr.heap.size := by have := hbel.size; omega
            have hlen := hbs'.1
            have hpos : (0 : Int) < (nb' : Int) := by omega
            by_cases hlow : hi bs' 0 < l
            · have HX : Hid _ := skip_yes bs' l (by omega) hlow
              have HT1 : Hid (∀ x : Option Addr, (x = some ⟨b1, o1 + 2, none⟩ ∨ nb' = 1) → SpansIn w x (nb' - 1) (bs'.drop 1)) := fun x hx => hbs'.tail (by omega) hx
              generalize hi bs' 0 = hh at *
              generalize lo bs' 0 = ll at *
              clear hlen hbs'
              by_cases hc1 : cb' = 1
              · have e1 : nb' = 1 := by omega
                subst hc1
                subst e1
                go_wp2
                all_goals
                  go_roundg 0
                  case measure => omega
                  case rel => exact ⟨_, _, _, _, rfl, rfl, by omega, by omega, HT1.out _ (by simp), by rw [HS.out, HX.out], rfl⟩
              · go_wp2
                all_goals
                  go_roundg (nb' - 1)
                  case measure => omega
                  case rel => exact ⟨_, _, _, _, rfl, rfl, by omega, by omega, HT1.out _ (Or.inl rfl), by rw [HS.out, HX.out], rfl⟩
            · have HX : Hid _ := skip_no bs' l (by omega) hlow
              have HB : Hid _ := hbs'; clear hbs'
              generalize hi bs' 0 = hh at *
              generalize lo bs' 0 = ll at *
              clear hlen
              have hd : decide ((hh : Int) < (l : Int)) = false := decide_eq_false (by omega)
              go_wp2
              go_meet
              case rel => exact ⟨_, _, _, rfl, by omega, by omega, by rw [HS.out, HX.out]; exact HB.out, rfl⟩
      case rest =>
        clear hbs hnb hnb2
        obtain ⟨ab, nb, cb, rfl, hnb, hnb2, hbs, rfl⟩ := hcut
        have hA := HA.out.alloc #[.int .u16 l, .int .u16 h] 57
        have hB := Box.new wr HA.out l h
        clear HA c0 c1
        generalize wr.heap.size = R at *
        generalize wr.alloc (.cells #[.int .u16 l, .int .u16 h] 57) = w1 at *
        obtain ⟨sk, hsk⟩ : ∃ sk, sk = PlainIds.skip l bs := ⟨_, rfl⟩
        rw [← hsk] at hbs
        have HSK : Hid _ := hsk; clear hsk
        have HA : Hid _ := hA; clear hA
        have HB : Hid _ := hB; clear hB
        go_upto_block 4 with fail
        go_cut [5, 9] from 40 to 67 (fun v vl wx => ∃ (L' : List (Nat × Nat)) (av : Option Addr) (nv cv low : Nat), v = .slice av nv cv ∧ vl = .int .i64 low ∧ low ≤ 65536 ∧ Acc w wx (.slice av nv cv) L' ∧ Box wx (.slice av nv cv) R l h ∧
          L ++ (PlainIds.cut h l sk).1 = L' ∧ (PlainIds.cut h l sk).2 = low ∧ L'.length ≤ L.length + 65536)
        case first =>
          go_wp2
          go_loopg [5, 9, 40] nb (fun g v vl vj wx => ∃ (j : Nat) (L' : List (Nat × Nat)) (av : Option Addr) (nv cv low : Nat), nb - j = g ∧ j ≤ nb ∧ vj = .int .i64 j ∧ v = .slice av nv cv ∧ vl = .int .i64 low ∧ low ≤ 65536 ∧ Acc w wx (.slice av nv cv) L' ∧ Box wx (.slice av nv cv) R l h ∧
            L ++ (PlainIds.cut h l sk).1 = L' ++ (PlainIds.cut h low (sk.drop j)).1 ∧ (PlainIds.cut h l sk).2 = (PlainIds.cut h low (sk.drop j)).2 ∧ L'.length ≤ L.length + j)
          case atStart => exact ⟨0, L, av, nv, cv, l, rfl, Nat.zero_le _, rfl, rfl, rfl, by omega, HA.out, HB.out, rfl, rfl, Nat.le_refl _⟩
          case round =>
            clear HA HB
            obtain ⟨j, L', av', nv', cv', low, rfl, hj, rfl, rfl, rfl, hlow, hA, hB, hE1, hE2, hL'⟩ := hrel
            have HE1 : Hid _ := hE1; clear hE1
            have HE2 : Hid _ := hE2; clear hE2
            by_cases hjn : j < nb
            · obtain ⟨b2, o2, rfl, hb2, hcell⟩ := hbs.at hA.below (by omega)
              obtain ⟨q0, q1⟩ := hcell j hjn
              obtain ⟨p0, p1⟩ := hbs.2.1 j hjn
              have hjl : j < sk.length := by rw [hbs.1]; exact hjn
              clear hcell
              have HD : Hid _ := drop_get sk j hjl
              clear hjl
              have hjn' : (j : Int) < (nb : Int) := by omega
              have x0 := hB.cell0
              have x1 := hB.cell1
              have x2 := hB.lt
              have hb2' : b2 < wr.heap.size := by have := hA.below.size; omega
              have HA : Hid _ := hA; clear hA
              have HB : Hid _ := hB; clear hB
              generalize lo sk j = l1 at *
              generalize hi sk j = h1 at *
              by_cases hbr : h < l1
              · go_wp2
                go_meet
                case rel => exact ⟨L', _, _, _, low, rfl, rfl, hlow, HA.out.alloc _ _, HB.out.alloc _, (cut_break HD.out hbr HE1.out HE2.out).1, (cut_break HD.out hbr HE1.out HE2.out).2, by omega⟩
              · by_cases hap : low < l1
                · have el : ((l1 : Int) - 1) = ((l1 - 1 : Nat) : Int) := by omega
                  have HEL : Hid _ := el; clear el
                  have HLB : Hid _ := HLL.out
                  have hLb : L'.length ≤ 65536 * 65537 + 65536 := by have := HLL.out; omega
                  have hz := HA.out.size
                  go_wp2_with (at_builtin; refine wpList_append2 _ rfl (.tmp 54) (.tmp 61) 25 rfl (w.heap.size + 3) 57 i0 _ 2 4 Try.underlying25 HI.out.1 HI.out.2.1 HI.out.2.2.1 HI.out.2.2.2 rfl (by decide) _ _ _ rfl ((HA.out.own.alloc _).alloc _) ⟨wr.heap.size + 1, 0, none⟩ 1 1 [.int .u16 low, .int .u16 ((l1 : Int) - 1)] rfl rfl ?c2 ?c3 ?c4 ?c5 ?c6 ?c7)
                  case c2 => exact two_cells _ _ _ _ (by simp)
                  case c3 => exact two_one _ _
                  case c4 => unfold maxLen; omega
                  case c5 => omega
                  case c6 => simp; omega
                  case c7 =>
                    intro v' w2 hown hgrow hblk
                    rw [HEL.out] at hown
                    obtain ⟨av2, nv2, cv2, hv2⟩ := own_slice hown
                    have hA2 := ((HA.out.alloc #[.int .u16 l1, .int .u16 h1] 57).alloc _ 57).push hown hgrow
                    have hB2 := ((HB.out.alloc _).alloc _).push hgrow (by simpa using hblk)
                    have hO2 := ((Box.new wr HA.out l1 h1).alloc _).push hgrow (by simpa using hblk)
                    rw [hv2] at hA2 hB2 hO2 ⊢
                    have y0 := hO2.cell0
                    have y1 := hO2.cell1
                    have HA2 : Hid _ := hA2
                    have HB2 : Hid _ := hB2
                    clear hown hgrow hblk hv2 hA2 hB2 hO2
                    go_wp2
                    go_roundg (nb - (j + 1))
                    case measure => omega
                    case rel => exact ⟨j + 1, _, _, _, _, h1 + 1, rfl, by omega, by go_num, rfl, by go_num, by omega, HA2.out, HB2.out, (cut_app HD.out hbr hap HE1.out HE2.out).1, (cut_app HD.out hbr hap HE1.out HE2.out).2, by simp; omega⟩
                · go_wp2
                  go_roundg (nb - (j + 1))
                  case measure => omega
                  case rel => exact ⟨j + 1, L', _, _, _, h1 + 1, rfl, by omega, by go_num, rfl, by go_num, by omega, HA.out.alloc _ _, HB.out.alloc _, (cut_no HD.out hbr hap HE1.out HE2.out).1, (cut_no HD.out hbr hap HE1.out HE2.out).2, by omega⟩
            · go_wp2
              go_meet
              case rel =>
                have e : sk.drop j = [] := List.drop_of_length_le (by rw [hbs.1]; omega)
                exact ⟨L', _, _, _, low, rfl, rfl, hlow, hA, hB, (cut_end e HE1.out HE2.out).1, (cut_end e HE1.out HE2.out).2, by omega⟩
        case rest =>
          clear HA HB
          obtain ⟨L', av', nv', cv', low, rfl, rfl, hlow, hA, hB, hE1, hE2, hL'⟩ := hcut
          have x0 := hB.cell0
          have x1 := hB.cell1
          have x2 := hB.lt
          have HO : Hid _ := outer_step S T bs sk L L' k l h low (by rw [hS.1]; exact hlt) HL.out HH.out HSK.out HE.out hE1 hE2
          have HA : Hid _ := hA; clear hA
          clear hB hE1 hE2
          by_cases hap : low ≤ h
          · have hLb : L'.length ≤ 65536 * 65537 + 65536 := by have := HLL.out; omega
            have hz := HA.out.size
            go_wp2_with (at_builtin; refine wpList_append2 _ rfl (.tmp 73) (.tmp 79) 25 rfl (w.heap.size + 3) 57 i0 _ 2 4 Try.underlying25 HI.out.1 HI.out.2.1 HI.out.2.2.1 HI.out.2.2.2 rfl (by decide) _ _ _ rfl (HA.out.own.alloc _) ⟨wc.heap.size, 0, none⟩ 1 1 [.int .u16 low, .int .u16 h] rfl rfl ?c2 ?c3 ?c4 ?c5 ?c6 ?c7)
            case c2 => exact two_cells _ _ _ _ rfl
            case c3 => exact two_one _ _
            case c4 => unfold maxLen; omega
            case c5 => omega
            case c6 => simp; omega
            case c7 =>
              intro v' w2 hown hgrow hblk
              obtain ⟨av2, nv2, cv2, hv2⟩ := own_slice hown
              have hA2 := (HA.out.alloc _ 57).push hown hgrow
              rw [hv2] at hA2 ⊢
              have HA2 : Hid _ := hA2
              clear hown hgrow hblk hv2 hA2
              go_wp2
              go_roundg (n - (k + 1))
              case measure => omega
              case rel =>
                have hl9 := HLL.out
                exact ⟨k + 1, _, sk, ab, nb, cb, _, _, _, rfl, by omega, by go_num, rfl, hnb, hnb2, hbs, by simp; omega, rfl, HA2.out, by rw [HO.out, PlainIds.last_pos hap]⟩
          · go_wp2
            go_roundg (n - (k + 1))
            case measure => omega
            case rel =>
              have hl9 := HLL.out
              exact ⟨k + 1, L', sk, ab, nb, cb, _, _, _, rfl, by omega, by go_num, rfl, hnb, hnb2, hbs, by omega, rfl, HA.out, by rw [HO.out, PlainIds.last_neg hap, List.append_nil]⟩
    · obtain ⟨u, r0⟩ := hA.res
      have r1 := hA.resf
      have hzz := hA.size
      have HA : Hid _ := hA; clear hA
      have hEE : PlainIds.outer S T = L := by
        have e := HE.out
        rw [List.drop_of_length_le (by rw [hS.1]; omega)] at e
        simpa [PlainIds.outer] using e
      have HEE : Hid _ := hEE
      clear hEE
      go_wp2
      refine bodyPost_ret (v := .agg #[.slice av nv cv]) (by simp [results, Try.results30, go_sem, r0]) rfl ⟨_, rfl, ?_, ?_⟩
      · rw [HEE.out]
        exact ownsRow_setCell_below HA.out.own (by show w.heap.size + 1 + 1 < _; omega) _
      · exact HA.out.below.setCell (by show w.heap.size ≤ w.heap.size + 1 + 1; omega) _

end Go.Proofs.Qxb6601345a
