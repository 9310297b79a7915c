import Derived.Test.Qxb6601345aClone
namespace Go.Proofs.Qxb6601345a
open Go.RowKit Go.Maps
set_option linter.unusedVariables false
set_option linter.unusedSimpArgs false

theorem make_msgs (n : Nat) (hn : n ≤ 4096) (w : World) :
    ∃ cur, cur.size = n * 6 ∧ (Instr.makeSlice 63 (.int .i64 (n : Int)) (.int .i64 (n : Int))).run Try.prog w = .ok (.slice (some ⟨w.heap.size, 0, none⟩) n n) (w.alloc (.cells cur 65)) := by
  obtain ⟨i, hi, hz0, hz1, hz2⟩ := info_parts Try.info65
  have h := run_make (P := Try.prog) w 63 65 i _ Try.underlying63 hi hz0 .i64 .i64 n n (by omega) (Int.le_refl _) (by rw [hz2]; omega) (by omega)
  simp only [Int.toNat_natCast, hz1] at h
  exact ⟨_, by simp [madeCells], h⟩

/-- Message v is a copy of message u, but for where the payload lies. -/
structure CopyOf (v u : MsgV) : Prop where
  ts : v.ts = u.ts
  fr : v.fr = u.fr
  tt : v.tt = u.tt
  ack : v.ack = u.ack
  be : v.be = u.be
  pl : v.pl = u.pl
  nil : v.pa = none ↔ u.pa = none

/-- While the copies are laid. -/
structure Laid (w : World) (n i : Nat) (mg mc : Nat → MsgV) (pb : Nat → Nat → Nat) (wr : World) : Prop where
  below : Below w.heap.size w wr
  arr : ∃ cur, wr.heap[w.heap.size]? = some (.cells cur 65) ∧ cur.size = n * 6 ∧ ∀ j, j < i → ∀ c, c < 6 → cur[j * 6 + c]? = (mc j).cells[c]?
  cop : ∀ j, j < i → CopyOf (mc j) (mg j) ∧ BytesTo (w.heap.size + 1) wr.heap.size wr (mc j).pa (mc j).pl (pb j)

theorem Laid.grow {w : World} {n i : Nat} {mg mc : Nat → MsgV} {pb : Nat → Nat → Nat} {wr w1 : World} (h : Laid w n i mg mc pb wr) (hb : Below wr.heap.size wr w1) : Laid w n i mg mc pb w1 := by
  obtain ⟨cur, h1, h2⟩ := h.arr
  refine ⟨h.below.trans (hb.mono h.below.size), ⟨cur, (hb.block _ (block_lt h1)).trans h1, h2⟩, fun j hj => ⟨(h.cop j hj).1, ((h.cop j hj).2.below hb (Nat.le_refl _)).mono (Nat.le_refl _) hb.size⟩⟩

theorem Laid.put {w : World} {n i : Nat} {mg mc : Nat → MsgV} {pb : Nat → Nat → Nat} {wr : World} (h : Laid w n i mg mc pb wr) (hi : i < n) (v : MsgV) (hv : CopyOf v (mg i)) (hp : BytesTo (w.heap.size + 1) wr.heap.size wr v.pa v.pl (pb i)) :
    Laid w n (i + 1) mg (fun j => if j = i then v else mc j) pb ((((((wr.setCell ⟨w.heap.size, i * 6, none⟩ (.int .i64 v.ts)).setCell ⟨w.heap.size, i * 6 + 1, none⟩ (.int .u16 v.fr)).setCell ⟨w.heap.size, i * 6 + 2, none⟩ (.int .u16 v.tt)).setCell
      ⟨w.heap.size, i * 6 + 3, none⟩ (.bool v.ack)).setCell ⟨w.heap.size, i * 6 + 4, none⟩ (.bool v.be)).setCell ⟨w.heap.size, i * 6 + 5, none⟩ (.slice v.pa v.pl v.pc)) := by
  obtain ⟨cur, h1, h2, h3⟩ := h.arr
  have s0 := set_block (o := i * 6) h1 (.int .i64 v.ts)
  have s1 := set_block (o := i * 6 + 1) s0 (.int .u16 v.fr)
  have s2 := set_block (o := i * 6 + 2) s1 (.int .u16 v.tt)
  have s3 := set_block (o := i * 6 + 3) s2 (.bool v.ack)
  have s4 := set_block (o := i * 6 + 4) s3 (.bool v.be)
  have s5 := set_block (o := i * 6 + 5) s4 (.slice v.pa v.pl v.pc)
  refine ⟨(((((h.below.setCell (Nat.le_refl _) _).setCell (Nat.le_refl _) _).setCell (Nat.le_refl _) _).setCell (Nat.le_refl _) _).setCell (Nat.le_refl _) _).setCell (Nat.le_refl _) _, ⟨_, s5, by simp [h2], fun j hj c hc => ?_⟩, fun j hj => ?_⟩
  · by_cases e : j = i
    · subst e
      simp only [if_true]
      have hs : ∀ (a : Array Value) (k : Nat) (u : Value), (a.setIfInBounds k u).size = a.size := fun a k u => by simp
      rcases (show c = 0 ∨ c = 1 ∨ c = 2 ∨ c = 3 ∨ c = 4 ∨ c = 5 by omega) with rfl | rfl | rfl | rfl | rfl | rfl
      · show (((((((cur.setIfInBounds (j * 6) _).setIfInBounds _ _).setIfInBounds _ _).setIfInBounds _ _).setIfInBounds _ _).setIfInBounds _ _)[j * 6]?) = _
        rw [Array.getElem?_setIfInBounds_ne (by omega), Array.getElem?_setIfInBounds_ne (by omega), Array.getElem?_setIfInBounds_ne (by omega), Array.getElem?_setIfInBounds_ne (by omega), Array.getElem?_setIfInBounds_ne (by omega), Array.getElem?_setIfInBounds_self_of_lt (by omega)]; rfl
      · rw [Array.getElem?_setIfInBounds_ne (by omega), Array.getElem?_setIfInBounds_ne (by omega), Array.getElem?_setIfInBounds_ne (by omega), Array.getElem?_setIfInBounds_ne (by omega), Array.getElem?_setIfInBounds_self_of_lt (by simp only [hs]; omega)]; rfl
      · rw [Array.getElem?_setIfInBounds_ne (by omega), Array.getElem?_setIfInBounds_ne (by omega), Array.getElem?_setIfInBounds_ne (by omega), Array.getElem?_setIfInBounds_self_of_lt (by simp only [hs]; omega)]; rfl
      · rw [Array.getElem?_setIfInBounds_ne (by omega), Array.getElem?_setIfInBounds_ne (by omega), Array.getElem?_setIfInBounds_self_of_lt (by simp only [hs]; omega)]; rfl
      · rw [Array.getElem?_setIfInBounds_ne (by omega), Array.getElem?_setIfInBounds_self_of_lt (by simp only [hs]; omega)]; rfl
      · rw [Array.getElem?_setIfInBounds_self_of_lt (by simp only [hs]; omega)]; rfl
    · rw [Array.getElem?_setIfInBounds_ne (by omega), Array.getElem?_setIfInBounds_ne (by omega), Array.getElem?_setIfInBounds_ne (by omega), Array.getElem?_setIfInBounds_ne (by omega), Array.getElem?_setIfInBounds_ne (by omega), Array.getElem?_setIfInBounds_ne (by omega)]
      simp only [e, if_false]
      exact h3 j (by omega) c hc
  · have hL : w.heap.size < w.heap.size + 1 := by omega
    simp only [set_size]
    by_cases e : j = i
    · subst e
      simp only [if_true]
      exact ⟨hv, (((((hp.set hL _).set hL _).set hL _).set hL _).set hL _).set hL _⟩
    · simp only [e, if_false]
      obtain ⟨g1, g2⟩ := h.cop j (by omega)
      exact ⟨g1, (((((g2.set hL _).set hL _).set hL _).set hL _).set hL _).set hL _⟩

theorem six_at {w : World} {S k : Nat} {cur : Array Value} {e : TypeId} (h : w.heap[S]? = some (.cells cur e)) (hk : k + 6 ≤ cur.size) :
    ∃ v0 v1 v2 v3 v4 v5, w.cell? ⟨S, k, none⟩ = some v0 ∧ w.cell? ⟨S, k + 1, none⟩ = some v1 ∧ w.cell? ⟨S, k + 2, none⟩ = some v2 ∧ w.cell? ⟨S, k + 3, none⟩ = some v3 ∧ w.cell? ⟨S, k + 4, none⟩ = some v4 ∧ w.cell? ⟨S, k + 5, none⟩ = some v5 ∧ ∀ o, w.frozen? ⟨S, o, none⟩ = false := by
  refine ⟨cur[k], cur[k + 1], cur[k + 2], cur[k + 3], cur[k + 4], cur[k + 5], ?_, ?_, ?_, ?_, ?_, ?_, fun o => frozen_of h⟩ <;> (rw [cell_of h]; exact Array.getElem?_eq_getElem (by omega))

def Queued (w : World) (n : Nat) (mg : Nat → MsgV) (pb : Nat → Nat → Nat) (e : Ending) (w' : World) : Prop :=
  ∃ N q bm m bk snd mc, e = .returned (.pointer (some ⟨q, 0, none⟩)) ∧ w.heap.size ≤ N ∧ (∃ rc at_ k H, QI N w' q (.map (some bm)) (.pointer none) m bk snd mc (fun x => idsTo mc n (snd x)) rc at_ k H) ∧ QMap w' bm m bk snd ∧
    (∀ x, x < m → ∀ y, y < m → x ≠ y → snd x ≠ snd y) ∧ (∀ j, j < n → ∃ x, x < m ∧ snd x = (mc j).fr) ∧ (∀ j, j < n → CopyOf (mc j) (mg j) ∧ BytesTo w.heap.size N w' (mc j).pa (mc j).pl (pb j)) ∧ Below w.heap.size w w'

set_option maxHeartbeats 1000000 in
theorem queue_any (w : World) (a : Option Addr) (n c : Nat) (mg : Nat → MsgV) (pb : Nat → Nat → Nat) (h : MsgsIn w a n mg pb) (hn : n ≤ 4096) (hp : ∀ i, i < n → (mg i).pl ≤ 524288) :
    Calls Try.prog 22 #[.slice a n c] w (Queued w n mg pb) := by
  obtain ⟨cur0, hcs0, hmk⟩ := make_msgs n hn w
  have HH := hide h
  have HP := hide hp
  clear h hp
  go_enter Try.func22, Try.ntmps22
  go_upto_block 0 with fail
  clear hmk
  go_cut [4] from 8 to 48 (fun v4 wx => ∃ mc, Laid w n n mg mc pb wx)
  case first =>
    go_wp2
    go_loopg [4] n (fun g v4 wx => ∃ (i : Nat) (mc : Nat → MsgV), n - i = g ∧ i ≤ n ∧ v4 = .int .i64 i ∧ Laid w n i mg mc pb wx)
    case atStart => exact ⟨0, mg, rfl, by omega, rfl, (Below.refl _ _).alloc (Nat.le_refl _) _, ⟨cur0, alloc_new _ _, hcs0, fun j hj => by omega⟩, fun j hj => by omega⟩
    case round =>
      obtain ⟨i, mc, rfl, hi, rfl, hL⟩ := hrel
      by_cases hlt : i < n
      · have hlt' : (i : Int) < (n : Int) := by omega
        obtain ⟨b, o, rfl, hb, hc⟩ := HH.out.at hlt
        have HIN := hide (HH.out.below hL.below)
        have sc := fun c (hc' : c < 6) => (Below.cellOf (o := o + i * 6 + c) hL.below hb).trans (hc i hlt c hc')
        have s0 : wr.cell? ⟨b, o + i * 6, none⟩ = some (.int .i64 (mg i).ts) := sc 0 (by omega)
        have s1 : wr.cell? ⟨b, o + i * 6 + 1, none⟩ = some (.int .u16 (mg i).fr) := sc 1 (by omega)
        have s2 : wr.cell? ⟨b, o + i * 6 + 2, none⟩ = some (.int .u16 (mg i).tt) := sc 2 (by omega)
        have s3 : wr.cell? ⟨b, o + i * 6 + 3, none⟩ = some (.bool (mg i).ack) := sc 3 (by omega)
        have s4 : wr.cell? ⟨b, o + i * 6 + 4, none⟩ = some (.bool (mg i).be) := sc 4 (by omega)
        have s5 : wr.cell? ⟨b, o + i * 6 + 5, none⟩ = some (.slice (mg i).pa (mg i).pl (mg i).pc) := sc 5 (by omega)
        obtain ⟨cur, hcur, hcs, _⟩ := hL.arr
        have hbr : b < wr.heap.size := Nat.lt_of_lt_of_le hb hL.below.size
        have HB := hide hb
        have HCUR := hide (And.intro hcur hcs)
        have lS := block_lt hcur
        have HL := hide hL
        have hpi := HP.out i hlt
        have HC := hide (clone_any wr.drew (mg i).pa (mg i).pl (mg i).pc (pb i) (HIN.out.pays i hlt) (HIN.out.dom i hlt).2.2.2 hpi)
        have HKP := hide (show ∀ w' : World, w'.heap[b]? = wr.heap[b]? → w'.cell? ⟨b, o + i * 6, none⟩ = some (.int .i64 (mg i).ts) ∧ w'.cell? ⟨b, o + i * 6 + 1, none⟩ = some (.int .u16 (mg i).fr) ∧ w'.cell? ⟨b, o + i * 6 + 2, none⟩ = some (.int .u16 (mg i).tt) ∧ w'.cell? ⟨b, o + i * 6 + 3, none⟩ = some (.bool (mg i).ack) ∧ w'.cell? ⟨b, o + i * 6 + 4, none⟩ = some (.bool (mg i).be) ∧ w'.cell? ⟨b, o + i * 6 + 5, none⟩ = some (.slice (mg i).pa (mg i).pl (mg i).pc) from fun w' h2 =>
          ⟨(World.cell?_of_block h2).trans s0, (World.cell?_of_block h2).trans s1, (World.cell?_of_block h2).trans s2, (World.cell?_of_block h2).trans s3, (World.cell?_of_block h2).trans s4, (World.cell?_of_block h2).trans s5⟩)
        have hbS : b ≠ w.heap.size := by omega
        have K00 := HKP.out wr rfl
        have K0 := HKP.out wr.drew rfl
        have KS := hide (show ∀ (w1 : World) (pa' : Option Addr) (pc' : Nat), w1.heap[b]? = wr.heap[b]? → ((((((w1.setCell ⟨w.heap.size, i * 6, none⟩ (.int .i64 (mg i).ts)).setCell ⟨w.heap.size, i * 6 + 1, none⟩ (.int .u16 (mg i).fr)).setCell ⟨w.heap.size, i * 6 + 2, none⟩ (.int .u16 (mg i).tt)).setCell
          ⟨w.heap.size, i * 6 + 3, none⟩ (.bool (mg i).ack)).setCell ⟨w.heap.size, i * 6 + 4, none⟩ (.bool (mg i).be)).setCell ⟨w.heap.size, i * 6 + 5, none⟩ (.slice pa' (mg i).pl pc')).heap[b]? = wr.heap[b]? from fun w1 pa' pc' h1 =>
          (set_other _ hbS).trans ((set_other _ hbS).trans ((set_other _ hbS).trans ((set_other _ hbS).trans ((set_other _ hbS).trans ((set_other _ hbS).trans h1))))))
        clear sc hc hcur hcs hL
        go_upto_region 5 with fail
        go_region_held3 (fun w' => w'.cell? ⟨b, o + i * 6, none⟩ = some (.int .i64 (mg i).ts) ∧ w'.cell? ⟨b, o + i * 6 + 1, none⟩ = some (.int .u16 (mg i).fr) ∧ w'.cell? ⟨b, o + i * 6 + 2, none⟩ = some (.int .u16 (mg i).tt) ∧ w'.cell? ⟨b, o + i * 6 + 3, none⟩ = some (.bool (mg i).ack) ∧ w'.cell? ⟨b, o + i * 6 + 4, none⟩ = some (.bool (mg i).be) ∧ w'.cell? ⟨b, o + i * 6 + 5, none⟩ = some (.slice (mg i).pa (mg i).pl (mg i).pc))
          (with_reducible assumption)
          (first | (go_at_call 32; refine Calls.mono HC.out ?_; rintro e w1 ⟨pa', pc', rfl, hnil, hbt, hbel⟩; have K1 := HKP.out w1 (hbel.block _ hbr); have K2 := HKP.out _ (KS.out w1 pa' pc' (hbel.block _ hbr)); obtain ⟨x0, x1, x2, x3, x4, x5, k0, k1, k2, k3, k4, k5, kf⟩ := six_at (k := i * 6) ((hbel.block _ lS).trans HCUR.out.1) (by rw [HCUR.out.2]; omega)))
        have HB2 := hide (And.intro hnil (And.intro hbt hbel))
        clear hnil hbt hbel K00 K0 K1 K2 k0 k1 k2 k3 k4 k5 kf s0 s1 s2 s3 s4 s5
        go_wp2
        go_roundg (n - (i + 1))
        case measure => omega
        case rel =>
          obtain ⟨g1, g2, g3⟩ := HB2.out
          exact ⟨i + 1, _, rfl, by omega, by go_num, (HL.out.grow ((Below.toDrew (Below.refl wr.heap.size wr)).trans g3)).put hlt ⟨(mg i).ts, (mg i).fr, (mg i).tt, (mg i).ack, (mg i).be, pa', (mg i).pl, pc'⟩ ⟨rfl, rfl, rfl, rfl, rfl, rfl, g1⟩ (g2.mono (by show w.heap.size + 1 ≤ wr.heap.size; omega) (Nat.le_refl _))⟩
      · have e : i = n := by omega
        subst e
        have HL := hide hL
        clear hL
        go_wp2
        go_meet
        case rel => exact ⟨mc, HL.out⟩
  case rest =>
    obtain ⟨mc, hL⟩ := hcut
    obtain ⟨cur, hcur, hcs, hcc⟩ := hL.arr
    have HC := hide (make_any wc w.heap.size n n mc ⟨block_lt hcur, fun i hi c hc => by rw [cell_of hcur]; exact hcc i hi c hc⟩ hn (fun i hi => by rw [(hL.cop i hi).1.fr]; exact (HH.out.dom i hi).1))
    have HL := hide hL
    clear hL hcur hcs hcc
    go_wp2_with fail
    refine Calls.mono HC.out ?_
    rintro e w5 ⟨m, bk, snd, rfl, h1, h2, h3, h4, h5⟩
    have HQ := hide (And.intro h1 (And.intro h2 (And.intro h3 (And.intro h4 h5))))
    clear h1 h2 h3 h4 h5
    go_wp2
    go_ret
    obtain ⟨h1, h2, h3, h4, h5⟩ := HQ.out
    exact ⟨wc.heap.size, wc.heap.size + 1, wc.heap.size, m, bk, snd, mc, rfl, HL.out.below.size, h1, h2, h3, h4, fun j hj => ⟨(HL.out.cop j hj).1, (((HL.out.cop j hj).2).below h5 (Nat.le_refl _)).mono (by omega) (Nat.le_refl _)⟩, HL.out.below.trans (h5.mono HL.out.below.size)⟩

end Go.Proofs.Qxb6601345a
