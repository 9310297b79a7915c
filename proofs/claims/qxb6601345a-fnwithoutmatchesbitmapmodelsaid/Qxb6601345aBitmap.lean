import Derived.Test.Qxb6601345aWithout
import Derived.Test.Qxb6601345aPlainBits
namespace Go.Proofs.Qxb6601345a
open Go.RowKit
set_option linter.unusedVariables false
set_option linter.unusedSimpArgs false

theorem Try.info4 : (Try.prog.info? 4).map (fun i => (i.zero, i.size, i.bytes)) = some (some (.bool false), 1, 1) := by kernel_rfl

def zeroB : Array Value := madeCells #[.bool false] 65536

theorem madeB_at (n j : Nat) (h : j < n) : (madeCells #[.bool false] n)[j]? = some (.bool false) := by
  unfold madeCells
  rw [Array.getElem?_map, Array.getElem?_range, if_pos h]
  simp [Nat.mod_one]

theorem zeroB_at (j : Nat) (h : j < 65536) : zeroB[j]? = some (.bool false) := madeB_at 65536 j h

theorem make_bools (n : Nat) (hn : n ≤ 65536) (w : World) :
    (Instr.makeSlice 41 (.int .i64 (n : Int)) (.int .i64 (n : Int))).run Try.prog w = .ok (.slice (some ⟨w.heap.size, 0, none⟩) n n) (w.alloc (.cells (madeCells #[.bool false] n) 4)) := by
  obtain ⟨i, hi, hz0, hz1, hz2⟩ := info_parts Try.info4
  have h := run_make (P := Try.prog) w 41 4 i _ Try.underlying41 hi hz0 .i64 .i64 n n (by omega) (Int.le_refl _) (by rw [hz2]; omega) (by omega)
  simp only [Int.toNat_natCast, hz1, Nat.mul_one] at h
  exact h

theorem make_bits (w : World) :
    (Instr.makeSlice 41 (.int .i64 65536) (.int .i64 65536)).run Try.prog w = .ok (.slice (some ⟨w.heap.size, 0, none⟩) 65536 65536) (w.alloc (.cells zeroB 4)) :=
  make_bools 65536 (Nat.le_refl _) w

/-- The bitmap: block B holds the marks F; all old memory is as it was. -/
structure Bits (w wr : World) (F : Nat → Bool) : Prop where
  below : Below w.heap.size w wr
  cell : ∀ j, j < 65536 → wr.cell? ⟨w.heap.size, j, none⟩ = some (.bool (F j))
  frozen : ∀ j, wr.frozen? ⟨w.heap.size, j, none⟩ = false
  lt : w.heap.size < wr.heap.size

theorem Bits.start (w : World) : Bits w (w.alloc (.cells zeroB 4)) (fun _ => false) := by
  refine ⟨(Below.refl _ _).alloc (Nat.le_refl _) _, fun j hj => ?_, fun j => ?_, by simp⟩
  · rw [World.cell?_alloc_at _ _ _ _ rfl, zeroB_at j hj]
  · rw [World.frozen?_alloc_at _ _ _ _ rfl]

theorem Bits.put {w wr : World} {F : Nat → Bool} (h : Bits w wr F) (x : Nat) (v : Bool) (hx : x < 65536) (G : Nat → Bool) (hG : ∀ j, G j = if j = x then v else F j) : Bits w (wr.setCell ⟨w.heap.size, x, none⟩ (.bool v)) G := by
  refine ⟨h.below.setCell (Nat.le_refl _) _, fun j hj => ?_, fun j => ?_, by simp [World.setCell]; exact h.lt⟩
  · rw [hG j]
    by_cases e : j = x
    · subst e; rw [if_pos rfl, World.cell?_setCell_same _ _ _ (h.cell j hj)]
    · rw [if_neg e, World.cell?_setCell_other _ _ _ _ (by simp only [ne_eq, Addr.mk.injEq]; omega)]; exact h.cell j hj
  · rw [World.frozen?_setCell]; exact h.frozen j

theorem Bits.congr {w wr : World} {F G : Nat → Bool} (h : Bits w wr F) (e : F = G) : Bits w wr G := e ▸ h

theorem take_get (rs : List (Nat × Nat)) (k : Nat) (h : k < rs.length) : rs.take (k + 1) = rs.take k ++ [(lo rs k, hi rs k)] := by
  rw [List.take_succ_eq_append_getElem h]
  have e : rs.getD k (0, 0) = rs[k] := by rw [List.getD_eq_getElem?_getD, List.getElem?_eq_getElem h]; rfl
  unfold lo hi
  rw [e]

theorem SpansIn.cells {w : World} {a : Option Addr} {n : Nat} {rs : List (Nat × Nat)} (h : SpansIn w a n rs) (h0 : 0 < n) :
    ∃ b o, a = some ⟨b, o, none⟩ ∧ b < w.heap.size ∧ ∀ i, i < n → (∀ wr, Below w.heap.size w wr → wr.cell? ⟨b, o + i * 2, none⟩ = some (.int .u16 (lo rs i))) ∧ (∀ wr, Below w.heap.size w wr → wr.cell? ⟨b, o + i * 2 + 1, none⟩ = some (.int .u16 (hi rs i))) := by
  rcases h.2.2 with hz | ⟨b, o, rfl, hlt, hc⟩
  · omega
  · exact ⟨b, o, rfl, hlt, fun i hi' => ⟨fun wr hb => (hb.cell (p := ⟨b, o + i * 2, none⟩) hlt).trans (hc i hi').1, fun wr hb => (hb.cell (p := ⟨b, o + i * 2 + 1, none⟩) hlt).trans (hc i hi').2⟩⟩

/-- The bitmap and what has been gathered. -/
structure Scan (w wr : World) (F : Nat → Bool) (v : Value) (L : List (Nat × Nat)) : Prop where
  bits : Bits w wr F
  own : wr.ownsRow (w.heap.size + 1) 57 2 v L.length (cells L)

theorem Scan.push {w wr w1 : World} {F : Nat → Bool} {v v' : Value} {L : List (Nat × Nat)} {l h : Nat} {c : Array Value} (hA : Scan w wr F v L)
    (hown : w1.ownsRow (w.heap.size + 1) 57 2 v' (L.length + 1) (Qxb6601345a.cells L ++ [.int .u16 l, .int .u16 h])) (hg : (wr.alloc (.cells c 57)).grownBy w1 v.ownBlock) : Scan w w1 F v' (L ++ [(l, h)]) := by
  have hz := hA.bits.lt
  have hlt := (hA.own.alloc (.cells c 57)).lt
  have hb : w1.heap[w.heap.size]? = wr.heap[w.heap.size]? := by
    rw [hg.block _ (by simp; omega) (fun e => by have := (hlt _ e.symm).1; omega)]
    exact Below.heap_alloc _ _ _ hz
  have hs := hg.size
  simp at hs
  refine ⟨⟨(hA.bits.below.alloc (by omega) _).grown hg (by simp; omega) (fun k e => by have := (hlt k e).1; omega), fun j hj => ?_, fun j => ?_, by omega⟩, ?_⟩
  · rw [World.cell?_of_block (w := wr) (a := ⟨w.heap.size, j, none⟩) hb]; exact hA.bits.cell j hj
  · rw [World.frozen?_of_block (w := wr) (a := ⟨w.heap.size, j, none⟩) hb]; exact hA.bits.frozen j
  · rw [cells_snoc]; simpa using hown

set_option maxHeartbeats 2000000 in
set_option maxRecDepth 100000 in
theorem bitmap_core (S T R : List (Nat × Nat)) (f : Nat → Bool) (HF : Hid (f = PlainIds.bits S T)) (HR : Hid (R = PlainIds.scan f 65536 0 none)) (a b : Option Addr) (n m c d : Nat) (hn : n ≤ 65536) (hm : m ≤ 65536) (w : World) (hS : SpansIn w a n S) (hT : SpansIn w b m T) :
    Calls Try.prog 15 #[.slice a n c, .slice b m d] w fun e w' => ∃ v' : Value, e = .returned v' ∧ w'.ownsRow (w.heap.size + 1) 57 2 v' R.length (cells R) ∧ Below w.heap.size w w' := by
  obtain ⟨i0, hi0, hz0, hz1, hz2⟩ := info_parts Try.info57
  have HI : Hid _ := And.intro hi0 (And.intro hz0 (And.intro hz1 hz2))
  clear hi0 hz0 hz1 hz2
  have hmk := make_bits
  go_enter Try.func15, Try.ntmps15
  go_upto_block 0 with fail
  clear hmk
  go_cut [] from 14 to 38 (fun wx => Bits w wx (PlainIds.markAll true (fun _ => false) S))
  case first =>
    go_wp2
    go_loopg [6] n (fun g vi wr => ∃ k : Nat, n - k = g ∧ k ≤ n ∧ vi = .int .i64 k ∧ Bits w wr (PlainIds.markAll true (fun _ => false) (S.take k)))
    case atStart => exact ⟨0, rfl, Nat.zero_le _, rfl, Bits.start w⟩
    case round =>
      obtain ⟨k, rfl, hk, rfl, hB⟩ := hrel
      by_cases hlt : k < n
      · obtain ⟨sb, so, rfl, hsb, hcell⟩ := hS.cells (by omega)
        obtain ⟨l0, h0⟩ := hS.2.1 k hlt
        have HC : Hid _ := (hcell k hlt).2
        have c0 := (hcell k hlt).1 _ hB.below
        have HT : Hid _ := take_get S k (by rw [hS.1]; exact hlt)
        clear hcell
        have hlt' : (k : Int) < (n : Int) := by omega
        have HB : Hid _ := hB; clear hB
        generalize lo S k = l at *
        generalize hi S k = h at *
        go_wp2
        go_loopg [7] (h + 1 - l) (fun g vx wx => ∃ x : Nat, h + 1 - x = g ∧ l ≤ x ∧ (x ≤ h + 1 ∨ x = l) ∧ vx = .int .i64 x ∧ Bits w wx (PlainIds.setR true (PlainIds.markAll true (fun _ => false) (S.take k)) l x))
        case atStart => exact ⟨l, rfl, Nat.le_refl _, Or.inr rfl, rfl, HB.out.congr (PlainIds.setR_start _ _ _).symm⟩
        case round =>
          clear c0 HB
          obtain ⟨x, rfl, hx1, hx2, rfl, hB⟩ := hrel
          have c1 := HC.out _ hB.below
          by_cases hxh : x ≤ h
          · have d0 := hB.cell x (by omega)
            have d1 := hB.frozen x
            have HP : Hid _ := hB.put x true (by omega) _ (fun j => PlainIds.setR_next true _ l x j hx1)
            clear hB
            generalize PlainIds.setR true (PlainIds.markAll true (fun _ => false) (S.take k)) l x x = bit at *
            go_wp2
            go_roundg (h + 1 - (x + 1))
            case measure => omega
            case rel => exact ⟨x + 1, rfl, by omega, by omega, by go_num, HP.out⟩
          · have HB : Hid _ := hB; clear hB
            go_wp2
            go_roundg (n - (k + 1))
            case measure => omega
            case rel => exact ⟨k + 1, rfl, by omega, by go_num, HB.out.congr (by rw [HT.out, PlainIds.markAll_snoc, PlainIds.setR_end _ _ _ _ h hxh hx2])⟩
      · go_wp2
        go_meet
        case rel =>
          have e : k = n := by omega
          rw [e, List.take_of_length_le (by rw [hS.1]; omega)] at hB
          exact hB
  case rest =>
    have HB0 : Hid _ := hcut; clear hcut
    go_upto_block 4 with fail
    go_cut [] from 39 to 63 (fun wx => Bits w wx f)
    case first =>
      go_wp2
      go_loopg [8] m (fun g vi wr => ∃ k : Nat, m - k = g ∧ k ≤ m ∧ vi = .int .i64 k ∧ Bits w wr (PlainIds.markAll false (PlainIds.markAll true (fun _ => false) S) (T.take k)))
      case atStart => exact ⟨0, rfl, Nat.zero_le _, rfl, HB0.out⟩
      case round =>
        clear HB0
        obtain ⟨k, rfl, hk, rfl, hB⟩ := hrel
        by_cases hlt : k < m
        · obtain ⟨sb, so, rfl, hsb, hcell⟩ := hT.cells (by omega)
          obtain ⟨l0, h0⟩ := hT.2.1 k hlt
          have HC : Hid _ := (hcell k hlt).2
          have c0 := (hcell k hlt).1 _ hB.below
          have HT : Hid _ := take_get T k (by rw [hT.1]; exact hlt)
          clear hcell
          have hlt' : (k : Int) < (m : Int) := by omega
          have HB : Hid _ := hB; clear hB
          generalize lo T k = l at *
          generalize hi T k = h at *
          go_wp2
          go_loopg [9] (h + 1 - l) (fun g vx wx => ∃ x : Nat, h + 1 - x = g ∧ l ≤ x ∧ (x ≤ h + 1 ∨ x = l) ∧ vx = .int .i64 x ∧ Bits w wx (PlainIds.setR false (PlainIds.markAll false (PlainIds.markAll true (fun _ => false) S) (T.take k)) l x))
          case atStart => exact ⟨l, rfl, Nat.le_refl _, Or.inr rfl, rfl, HB.out.congr (PlainIds.setR_start _ _ _).symm⟩
          case round =>
            clear c0 HB
            obtain ⟨x, rfl, hx1, hx2, rfl, hB⟩ := hrel
            have c1 := HC.out _ hB.below
            by_cases hxh : x ≤ h
            · have d0 := hB.cell x (by omega)
              have d1 := hB.frozen x
              have HP : Hid _ := hB.put x false (by omega) _ (fun j => PlainIds.setR_next false _ l x j hx1)
              clear hB
              generalize PlainIds.setR false (PlainIds.markAll false (PlainIds.markAll true (fun _ => false) S) (T.take k)) l x x = bit at *
              go_wp2
              go_roundg (h + 1 - (x + 1))
              case measure => omega
              case rel => exact ⟨x + 1, rfl, by omega, by omega, by go_num, HP.out⟩
            · have HB : Hid _ := hB; clear hB
              go_wp2
              go_roundg (m - (k + 1))
              case measure => omega
              case rel => exact ⟨k + 1, rfl, by omega, by go_num, HB.out.congr (by rw [HT.out, PlainIds.markAll_snoc, PlainIds.setR_end _ _ _ _ h hxh hx2])⟩
        · go_wp2
          go_meet
          case rel =>
            have e : k = m := by omega
            rw [e, List.take_of_length_le (by rw [hT.1]; omega)] at hB
            exact hB.congr HF.out.symm
    case rest =>
      clear HB0
      have HB0 : Hid _ := hcut; clear hcut
      clear HF hS hT
      go_wp2
      go_loopg [10, 11] 65536 (fun g vo vx wr => ∃ (x : Nat) (L : List (Nat × Nat)) (av : Option Addr) (nv cv : Nat), 65536 - x = g ∧ x ≤ 65536 ∧ vx = .int .i64 x ∧ vo = .slice av nv cv ∧ Scan w wr f (.slice av nv cv) L ∧ L.length ≤ x ∧ R = L ++ PlainIds.scan f (65536 - x) x none)
      case atStart => exact ⟨0, [], none, 0, 0, rfl, Nat.zero_le _, rfl, rfl, ⟨HB0.out, World.ownsRow_nil _ _ _ _⟩, Nat.le_refl _, HR.out⟩
      case round =>
        clear HB0 HR
        obtain ⟨x, L, av, nv, cv, rfl, hx, rfl, rfl, hC, hL, hE⟩ := hrel
        have HE : Hid _ := hE; clear hE
        by_cases hlt : x < 65536
        · have d0 := hC.bits.cell x hlt
          have d9 := hC.bits.lt
          have hx' : (x : Int) < 65536 := by omega
          cases hfx : f x with
          | false =>
            rw [hfx] at d0
            have HX : Hid _ := PlainIds.scan_skip f 65536 x hlt hfx
            have HC : Hid _ := hC; clear hC hfx
            go_wp2
            go_roundg (65536 - (x + 1))
            case measure => omega
            case rel => exact ⟨x + 1, L, _, _, _, rfl, by omega, by go_num, rfl, HC.out, by omega, by rw [HE.out, HX.out]⟩
          | true =>
            rw [hfx] at d0
            have HX : Hid _ := hfx; clear hfx
            have HC : Hid _ := hC; clear hC
            go_upto_block 10 with fail
            go_cut [11] from 74 to 83 (fun vx wx => ∃ y : Nat, vx = .int .i64 y ∧ x < y ∧ y ≤ 65536 ∧ (∀ z, x ≤ z → z < y → f z = true) ∧ (y = 65536 ∨ f y = false) ∧ wr = wx)
            case first =>
              clear d0
              go_wp2
              go_loopg [11] (65536 - x) (fun g vx wx => ∃ y : Nat, 65536 - y = g ∧ x ≤ y ∧ y ≤ 65536 ∧ vx = .int .i64 y ∧ (∀ z, x ≤ z → z < y → f z = true) ∧ wr = wx)
              case atStart => exact ⟨x, rfl, Nat.le_refl _, hx, rfl, fun z h1 h2 => by omega, rfl⟩
              case round =>
                obtain ⟨y, rfl, hy1, hy2, rfl, hz, rfl⟩ := hrel
                have HZ : Hid _ := hz; clear hz
                by_cases hy : y < 65536
                · have d0 := HC.out.bits.cell y hy
                  have hy' : (y : Int) < 65536 := by omega
                  cases hfy : f y with
                  | false =>
                    rw [hfy] at d0
                    have HY : Hid _ := hfy; clear hfy
                    go_wp2
                    go_meet
                    case rel =>
                      have hne : y ≠ x := fun e => by have h1 := HY.out; have h2 := HX.out; rw [e, h2] at h1; cases h1
                      exact ⟨y, rfl, by omega, by omega, HZ.out, Or.inr HY.out, rfl⟩
                  | true =>
                    rw [hfy] at d0
                    have HY : Hid _ := hfy; clear hfy
                    go_wp2
                    go_roundg (65536 - (y + 1))
                    case measure => omega
                    case rel =>
                      refine ⟨y + 1, rfl, by omega, by omega, by go_num, fun z h1 h2 => ?_, rfl⟩
                      by_cases e : z = y
                      · rw [e]; exact HY.out
                      · exact HZ.out z h1 (by omega)
                · have HQ : Hid (y = 65536) := by show y = 65536; omega
                  have HQ2 : Hid (x < y) := by show x < y; omega
                  have hd : decide ((y : Int) < 65536) = false := decide_eq_false (by omega)
                  clear hy hy1 hy2 hx hlt hx'
                  go_wp2
                  go_meet
                  case rel => exact ⟨y, rfl, HQ2.out, by rw [HQ.out]; exact Nat.le_refl _, HZ.out, Or.inl HQ.out, rfl⟩
            case rest =>
              clear d0
              obtain ⟨y, rfl, hy1, hy2, hz, hy3, rfl⟩ := hcut
              have HO : Hid _ := PlainIds.scan_open f 65536 x y hlt hy1 hy2 hz hy3
              clear hz hy3
              have ey : ((y : Int) - 1) = ((y - 1 : Nat) : Int) := by omega
              have HEY : Hid _ := ey; clear ey
              go_wp2_with (at_builtin; refine wpList_append2 _ rfl (.tmp 84) (.tmp 91) 25 rfl (w.heap.size + 1) 57 i0 _ 2 4 Try.underlying25 HI.out.1 HI.out.2.1 HI.out.2.2.1 HI.out.2.2.2 rfl (by decide) _ _ _ rfl (HC.out.own.alloc _) ⟨wr.heap.size, 0, none⟩ 1 1 [.int .u16 x, .int .u16 ((y : Int) - 1)] rfl rfl ?c2 ?c3 ?c4 ?c5 ?c6 ?c7)
              case c2 => exact two_cells _ _ _ _ rfl
              case c3 => exact two_one _ _
              case c4 => unfold maxLen; omega
              case c5 => omega
              case c6 => simp; omega
              case c7 =>
                intro v' w2 hown hgrow hblk
                rw [HEY.out] at hown
                obtain ⟨av2, nv2, cv2, hv2⟩ := own_slice hown
                have hA2 := HC.out.push hown hgrow
                rw [hv2] at hA2 ⊢
                have HA2 : Hid _ := hA2
                clear hown hgrow hblk hv2 hA2
                go_wp2
                go_roundg (65536 - y)
                case measure => omega
                case rel => exact ⟨y, _, _, _, _, rfl, by omega, rfl, rfl, HA2.out, by simp; omega, by rw [HE.out, HO.out, List.append_assoc]; rfl⟩
        · have HC : Hid _ := hC; clear hC
          have HQ : Hid (x = 65536) := by show x = 65536; omega
          have hd : decide ((x : Int) < 65536) = false := decide_eq_false (by omega)
          clear hlt hx
          go_wp2
          go_ret
          have e : x = 65536 := HQ.out
          have eR : R = L := by
            rw [HE.out, e]
            show L ++ [] = L
            simp
          refine ⟨_, rfl, ?_, HC.out.bits.below⟩
          rw [eR]
          exact HC.out.own

theorem bitmap_any (S T : List (Nat × Nat)) (a b : Option Addr) (n m c d : Nat) (hn : n ≤ 65536) (hm : m ≤ 65536) (w : World) (hS : SpansIn w a n S) (hT : SpansIn w b m T) :
    Calls Try.prog 15 #[.slice a n c, .slice b m d] w fun e w' => ∃ v' : Value, e = .returned v' ∧ w'.ownsRow (w.heap.size + 1) 57 2 v' (PlainIds.scan (PlainIds.bits S T) 65536 0 none).length (cells (PlainIds.scan (PlainIds.bits S T) 65536 0 none)) ∧ Below w.heap.size w w' :=
  bitmap_core S T _ _ rfl rfl a b n m c d hn hm w hS hT

end Go.Proofs.Qxb6601345a
