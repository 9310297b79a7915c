import Derived.Test.Qxb6601345aStep
namespace Go.Proofs.Qxb6601345a
open Go.RowKit Go.Maps
set_option linter.unusedVariables false
set_option linter.unusedSimpArgs false

/-- A row of marks has changed, or new blocks were made. -/
theorem QI.keep4 {N : Nat} {w w' : World} {q : Nat} {mv lv : Value} {m : Nat} {bk snd : Nat → Nat} {mc : Nat → MsgV} {ids : Nat → List Nat} {rc : Nat → Rec} {at_ : Nat → Nat} {n : Nat} {H : Nat → Nat} (h : QI N w q mv lv m bk snd mc ids rc at_ n H) {z : Nat} {cz : Array Value} (hz : w.heap[z]? = some (.cells cz 4))
    (hk : ∀ c, c < w.heap.size → c ≠ z → w'.heap[c]? = w.heap[c]?) : QI N w' q mv lv m bk snd mc ids rc at_ n H := by
  have hk' : ∀ {b : Nat} {c : Array Value} {e : TypeId}, e ≠ 4 → w.heap[b]? = some (.cells c e) → w'.heap[b]? = some (.cells c e) := fun {b c e} he h1 => by
    rw [hk b (block_lt h1) (fun e' => ?_), h1]
    rw [e', hz] at h1
    simp at h1
    exact he h1.2.symm
  refine ⟨h.qs.next (fun _ _ => rfl) (fun y hy => hk' (by decide) (h.qs.run y hy)) ?_ (fun T c e => hk' (by decide) e) (fun k hk2 => ?_), h.heap, h.same, fun x hx => (h.row x hx).keep ?_, h.ginj, h.gN, h.mem, h.fr⟩
  · obtain ⟨_, _, e, _⟩ := h.qs.top
    rw [e]; exact hk' (by decide) e
  · exact (h.qs.key _ ⟨k, hk2, rfl⟩).keep fun c e => by rw [e]; exact hk' (by decide) e
  · obtain ⟨c, hc, _⟩ := (h.row x hx).arr
    rw [hc]; exact hk' (by decide) hc

/-- The queue and the flat model side by side. w0: the world that the law began in. -/
structure St (w0 : World) (a : Option Addr) (n : Nat) (mg : Nat → MsgV) (pb : Nat → Nat → Nat) (N q bm m B : Nat) (bk snd : Nat → Nat) (mc : Nat → MsgV) (ids : Nat → List Nat) (al : Nat → Bool) (w : World) : Prop where
  below : Below w0.heap.size w0 w
  N0 : w0.heap.size ≤ N
  msgs : MsgsIn w0 a n mg pb
  pls : ∀ i, i < n → (mg i).pl ≤ 524288
  nmax : n ≤ 4096
  sorted : Sorted mg n
  qi : ∃ rc at_ k H, QI N w q (.map (some bm)) (.pointer none) m bk snd mc ids rc at_ k H
  map : QMap w bm m bk snd
  cop : ∀ j, j < n → CopyOf (mc j) (mg j) ∧ BytesTo w0.heap.size N w (mc j).pa (mc j).pl (pb j)
  alive : AliveIn w B n al
  BN : N ≤ B
  flat : Flat n m snd mg ids al

theorem St.keep {w0 : World} {a : Option Addr} {n : Nat} {mg : Nat → MsgV} {pb : Nat → Nat → Nat} {N q bm m B : Nat} {bk snd : Nat → Nat} {mc : Nat → MsgV} {ids : Nat → List Nat} {al : Nat → Bool} {w w' : World}
    (h : St w0 a n mg pb N q bm m B bk snd mc ids al w) {T : List Nat} (hf : Fr N T w w') {ids' : Nat → List Nat} {al' : Nat → Bool} (hq : ∃ rc at_ k H, QI N w' q (.map (some bm)) (.pointer none) m bk snd mc ids' rc at_ k H) (hA : AliveIn w' B n al') (hF : Flat n m snd mg ids' al') :
    St w0 a n mg pb N q bm m B bk snd mc ids' al' w' := by
  refine ⟨h.below.trans (hf.below.mono h.N0), h.N0, h.msgs, h.pls, h.nmax, h.sorted, hq, ?_, fun j hj => ⟨(h.cop j hj).1, (h.cop j hj).2.below hf.below (Nat.le_refl _)⟩, hA, h.BN, hF⟩
  obtain ⟨k, f, hf1, hf2⟩ := h.map
  obtain ⟨es, cl, hmo⟩ := hf1.obj
  exact ⟨k, f, hf1.keep (hf.other _ hf1.lt (fun c e f hc => by rw [hmo] at hc; cases hc)), hf2⟩

theorem Fr.of_below {N : Nat} {T : List Nat} {w w' : World} (hN : N ≤ w.heap.size) (hb : Below w.heap.size w w') : Fr N T w w' := ⟨hb.mono hN, fun b hb' _ => hb.block b hb'⟩

theorem St.done {w0 : World} {a : Option Addr} {n : Nat} {mg : Nat → MsgV} {pb : Nat → Nat → Nat} {N q bm m B : Nat} {bk snd : Nat → Nat} {mc : Nat → MsgV} {ids : Nat → List Nat} {al : Nat → Bool} {w w1 w' : World}
    (h : St w0 a n mg pb N q bm m B bk snd mc ids al w) (hN : N ≤ w.heap.size) (hf : Fr N [65, 76, 78, 80] w w1) (hq : ∃ rc at_ k H, QI N w1 q (.map (some bm)) (.pointer none) m bk snd mc ids rc at_ k H) (hb : Below w1.heap.size w1 w') : St w0 a n mg pb N q bm m B bk snd mc ids al w' := by
  obtain ⟨cur, hc, h2⟩ := h.alive
  have hB1 := hf.keep hc (by simp)
  obtain ⟨rc, at_, k, H, hq⟩ := hq
  exact h.keep (hf.trans (Fr.of_below (Nat.le_trans hN hf.below.size) hb)) ⟨rc, at_, k, H, hq.keep fun c hc => hb.block c hc⟩ ⟨cur, (hb.block _ (block_lt hB1)).trans hB1, h2⟩ h.flat

set_option maxHeartbeats 1600000 in
theorem step_any (w0 : World) (a : Option Addr) (n c : Nat) (mg : Nat → MsgV) (pb : Nat → Nat → Nat) (N q bm m B : Nat) (bk snd : Nat → Nat) (mc : Nat → MsgV) (ids : Nat → List Nat) (al : Nat → Bool) (w : World) (thr : Int)
    (h : St w0 a n mg pb N q bm m B bk snd mc ids al w) :
    Calls Try.prog 24 #[.pointer (some ⟨q, 0, none⟩), .slice a n c, .slice (some ⟨B, 0, none⟩) n n, .int .i64 thr] w fun e w' => e = .returned (.bool true) ∧ ∃ ids' al', St w0 a n mg pb N q bm m B bk snd mc ids' al' w' := by
  obtain ⟨rc, at_, k, H, hqi⟩ := h.qi
  have HC := hide (ztake_any N w q (.map (some bm)) (.pointer none) m bk snd mc ids rc at_ k H thr hqi)
  have HS := hide h
  have HN := hide hqi.N_lt
  have HQI := hide hqi
  clear h hqi
  go_enter Try.func24, Try.ntmps24
  go_wp2_with fail
  refine Calls.mono HC.out ?_
  rintro e w1 (⟨rfl, hwhy, ⟨rc', at', n', H', hq', hg'⟩, hfr, hfar⟩ | ⟨x, i, l, hf, hle, rfl, ⟨rc', at', n', H', hq', hg'⟩, hfr, hfar⟩)
  · have HX := hide (And.intro hfr hq')
    have hb1 : Below w0.heap.size w0 w1 := HS.out.below.trans (hfr.below.mono HS.out.N0)
    have hA1 : AliveIn w1 B n al := by
      obtain ⟨cur, hc, h2⟩ := HS.out.alive
      exact ⟨cur, hfr.keep hc (by simp), h2⟩
    have hA1' := hA1
    have HF := hide fun (o : Obj) => first_any (w1.alloc o) a n c mg pb B al (HS.out.msgs.below (hb1.alloc hb1.size o)) HS.out.nmax (hA1.keep (Below.heap_alloc _ _ _ (by obtain ⟨cur, hc, _⟩ := hA1'; exact block_lt hc)))
    have HZ := hide zero_any
    simp only [zeroMsg] at HZ
    have HB1 := hide hb1
    rcases hwhy with hwhy | ⟨x, i, l, hf, hlt⟩
    · have hbt := HS.out.flat.none hwhy
      rw [hbt] at HF
      simp only [bestInt] at HF
      clear hfr hfar hq' hg' hwhy hbt hb1 hA1 hA1' HC
      simp only [zeroMsg]
      go_wp2_with fail
      refine Calls.mono (HF.out _) ?_
      rintro e w3 ⟨rfl, hb3⟩
      obtain ⟨z0, z1, z2, z3, z4, z5, fz⟩ := six_cells ((hb3.block w1.heap.size (by simp)).trans (alloc_new _ _))
      have HB3 := hide hb3
      clear hb3
      go_wp2_with fail
      refine Calls.mono (HZ.out _) ?_
      rintro e w4 ⟨rfl, hb4⟩
      have HB4 := hide hb4
      clear hb4 z0 z1 z2 z3 z4 z5 fz
      go_wp2
      go_ret
      have hb : Below w1.heap.size w1 w4 := (((Below.refl _ _).alloc (Nat.le_refl _) _).trans (HB3.out.mono (by simp))).trans (HB4.out.mono (by have := HB3.out.size; simp at this; omega))
      exact ⟨rfl, ids, al, HS.out.done HN.out HX.out.1 ⟨rc', at', n', H', HX.out.2⟩ hb⟩
    · have hin := HS.out.flat.lt x hf.lt i (by rw [hf.eq]; simp)
      have hbt := HS.out.flat.first HS.out.sorted (fun j hj => (HS.out.cop j hj).1.ts) hf
      rw [hbt] at HF
      simp only [bestInt] at HF
      have hi := hin.1
      have hi' : (i : Int) < (n : Int) := by omega
      have hi0 : decide ((i : Int) < 0) = false := by simp
      rw [(HS.out.cop i hi).1.ts] at hlt
      have hlt' : decide (thr < (mg i).ts) = true := by simpa using hlt
      obtain ⟨b, o, rfl, hb, hc⟩ := HS.out.msgs.at hi
      have c0 := (hc i hi 0 (by omega))
      have hnm := HS.out.nmax
      clear hfr hfar hq' hg' hbt hb1 hA1 hA1' HC hc hf hlt hin
      simp only [zeroMsg]
      go_wp2_with fail
      refine Calls.mono (HF.out _) ?_
      rintro e w3 ⟨rfl, hb3⟩
      obtain ⟨z0, z1, z2, z3, z4, z5, fz⟩ := six_cells ((hb3.block w1.heap.size (by simp)).trans (alloc_new _ _))
      have c1 : w3.cell? ⟨b, o + i * 6, none⟩ = some (.int .i64 (mg i).ts) := by
        have e1 := Below.cellOf (o := o + i * 6) ((HB1.out.alloc HB1.out.size _).trans (hb3.mono (by simp; have := HB1.out.size; omega))) hb
        rw [e1]; exact c0
      have HB3 := hide hb3
      clear hb3 c0
      go_wp2_with fail
      refine Calls.mono (HZ.out _) ?_
      rintro e w4 ⟨rfl, hb4⟩
      have HB4 := hide hb4
      clear hb4 z0 z1 z2 z3 z4 z5 fz c1
      go_wp2
      go_ret
      have hb : Below w1.heap.size w1 w4 := (((Below.refl _ _).alloc (Nat.le_refl _) _).trans (HB3.out.mono (by simp))).trans (HB4.out.mono (by have := HB3.out.size; simp at this; omega))
      exact ⟨rfl, ids, al, HS.out.done HN.out HX.out.1 ⟨rc', at', n', H', HX.out.2⟩ hb⟩
  · have HX := hide (And.intro hfr hq')
    have hb1 : Below w0.heap.size w0 w1 := HS.out.below.trans (hfr.below.mono HS.out.N0)
    have hA1 : AliveIn w1 B n al := by
      obtain ⟨cur, hc, h2⟩ := HS.out.alive
      exact ⟨cur, hfr.keep hc (by simp), h2⟩
    have hB1 : B < w1.heap.size := by obtain ⟨cur, hc, _⟩ := hA1; exact block_lt hc
    have HF := hide fun (o : Obj) => first_any (w1.alloc o) a n c mg pb B al (HS.out.msgs.below (hb1.alloc hb1.size o)) HS.out.nmax (hA1.keep (Below.heap_alloc _ _ _ hB1))
    have HB1 := hide hb1
    have hin := HS.out.flat.lt x hf.lt i (by rw [hf.eq]; simp)
    have hbt := HS.out.flat.first HS.out.sorted (fun j hj => (HS.out.cop j hj).1.ts) hf
    rw [hbt] at HF
    simp only [bestInt] at HF
    have hi := hin.1
    have hi' : (i : Int) < (n : Int) := by omega
    have hi0 : decide ((i : Int) < 0) = false := by simp
    rw [(HS.out.cop i hi).1.ts] at hle
    have hle' : decide (thr < (mg i).ts) = false := by simp; omega
    obtain ⟨b, o, rfl, hb, hc⟩ := HS.out.msgs.at hi
    have hnm := HS.out.nmax
    have HFI := hide hf
    have HA1 := hide hA1
    have HCC := hide hc
    clear hfr hfar hq' hg' hbt hb1 hA1 HC hf hle hin hc
    simp only [MsgV.cells]
    go_wp2_with fail
    refine Calls.mono (HF.out _) ?_
    rintro e w3 ⟨rfl, hb3⟩
    have hc := HCC.out
    obtain ⟨z0, z1, z2, z3, z4, z5, fz⟩ := six_cells ((hb3.block w1.heap.size (by simp)).trans (alloc_new _ _))
    have hb13 : Below w1.heap.size w1 w3 := ((Below.refl _ _).alloc (Nat.le_refl _) _).trans (hb3.mono (by simp))
    have hb03 : Below w0.heap.size w0 w3 := HB1.out.trans (hb13.mono HB1.out.size)
    have t0 : w3.cell? ⟨b, o + i * 6, none⟩ = some (.int .i64 (mg i).ts) := (Below.cellOf (o := o + i * 6 + 0) hb03 hb).trans (hc i hi 0 (by omega))
    have t1 : w3.cell? ⟨b, o + i * 6 + 1, none⟩ = some (.int .u16 (mg i).fr) := (Below.cellOf (o := o + i * 6 + 1) hb03 hb).trans (hc i hi 1 (by omega))
    have t2 : w3.cell? ⟨b, o + i * 6 + 2, none⟩ = some (.int .u16 (mg i).tt) := (Below.cellOf (o := o + i * 6 + 2) hb03 hb).trans (hc i hi 2 (by omega))
    have t3 : w3.cell? ⟨b, o + i * 6 + 3, none⟩ = some (.bool (mg i).ack) := (Below.cellOf (o := o + i * 6 + 3) hb03 hb).trans (hc i hi 3 (by omega))
    have t4 : w3.cell? ⟨b, o + i * 6 + 4, none⟩ = some (.bool (mg i).be) := (Below.cellOf (o := o + i * 6 + 4) hb03 hb).trans (hc i hi 4 (by omega))
    have t5 : w3.cell? ⟨b, o + i * 6 + 5, none⟩ = some (.slice (mg i).pa (mg i).pl (mg i).pc) := (Below.cellOf (o := o + i * 6 + 5) hb03 hb).trans (hc i hi 5 (by omega))
    have hbr : b < w3.heap.size := Nat.lt_of_lt_of_le hb hb03.size
    have hs9 : w1.heap.size < w3.heap.size := by have := hb3.size; simp at this; omega
    have HKP := hide (show ∀ w' : World, w'.heap[w1.heap.size]? = w3.heap[w1.heap.size]? → w'.heap[b]? = w3.heap[b]? → w'.cell? ⟨w1.heap.size, 0, none⟩ = some (.int .i64 (mc i).ts) ∧ w'.cell? ⟨w1.heap.size, 1, none⟩ = some (.int .u16 (mc i).fr) ∧ w'.cell? ⟨w1.heap.size, 2, none⟩ = some (.int .u16 (mc i).tt) ∧ w'.cell? ⟨w1.heap.size, 3, none⟩ = some (.bool (mc i).ack) ∧ w'.cell? ⟨w1.heap.size, 4, none⟩ = some (.bool (mc i).be) ∧ w'.cell? ⟨w1.heap.size, 5, none⟩ = some (.slice (mc i).pa (mc i).pl (mc i).pc) ∧ w'.cell? ⟨b, o + i * 6, none⟩ = some (.int .i64 (mg i).ts) ∧ w'.cell? ⟨b, o + i * 6 + 1, none⟩ = some (.int .u16 (mg i).fr) ∧ w'.cell? ⟨b, o + i * 6 + 2, none⟩ = some (.int .u16 (mg i).tt) ∧ w'.cell? ⟨b, o + i * 6 + 3, none⟩ = some (.bool (mg i).ack) ∧ w'.cell? ⟨b, o + i * 6 + 4, none⟩ = some (.bool (mg i).be) ∧ w'.cell? ⟨b, o + i * 6 + 5, none⟩ = some (.slice (mg i).pa (mg i).pl (mg i).pc) from fun w' h1 h2 => ⟨(World.cell?_of_block h1).trans z0, (World.cell?_of_block h1).trans z1, (World.cell?_of_block h1).trans z2, (World.cell?_of_block h1).trans z3, (World.cell?_of_block h1).trans z4, (World.cell?_of_block h1).trans z5, (World.cell?_of_block h2).trans t0, (World.cell?_of_block h2).trans t1, (World.cell?_of_block h2).trans t2, (World.cell?_of_block h2).trans t3, (World.cell?_of_block h2).trans t4, (World.cell?_of_block h2).trans t5⟩)
    have K00 := HKP.out w3 rfl rfl
    have K0 := HKP.out w3.drew rfl rfl
    have HCS := hide (sameMsg_any w3.drew w0.heap.size N (mc i) (mg i) (pb i) (HS.out.cop i hi).1
      ((((HS.out.cop i hi).2.below HX.out.1.below (Nat.le_refl _)).below (M := N) (Below.toDrew (hb13.mono (Nat.le_trans HN.out HX.out.1.below.size))) (Nat.le_refl _)))
      (Nat.le_trans HN.out (Nat.le_trans HX.out.1.below.size hb13.size)) ((HS.out.msgs.pays i hi).below (Below.toDrew hb03)) (fun e => ((HS.out.msgs.dom i hi).2.2.2 e).1) (HS.out.pls i hi))
    simp only [MsgV.cells] at HCS
    obtain ⟨ca, fa⟩ := (HA1.out.keep (w' := w3) (hb13.block _ hB1)).cell hi
    have HB3 := hide hb13
    clear hb3 hb13 hb03 hc
    go_upto_region 5 with fail
    go_region_held3 (fun w' => w'.cell? ⟨w1.heap.size, 0, none⟩ = some (.int .i64 (mc i).ts) ∧ w'.cell? ⟨w1.heap.size, 1, none⟩ = some (.int .u16 (mc i).fr) ∧ w'.cell? ⟨w1.heap.size, 2, none⟩ = some (.int .u16 (mc i).tt) ∧ w'.cell? ⟨w1.heap.size, 3, none⟩ = some (.bool (mc i).ack) ∧ w'.cell? ⟨w1.heap.size, 4, none⟩ = some (.bool (mc i).be) ∧ w'.cell? ⟨w1.heap.size, 5, none⟩ = some (.slice (mc i).pa (mc i).pl (mc i).pc) ∧ w'.cell? ⟨b, o + i * 6, none⟩ = some (.int .i64 (mg i).ts) ∧ w'.cell? ⟨b, o + i * 6 + 1, none⟩ = some (.int .u16 (mg i).fr) ∧ w'.cell? ⟨b, o + i * 6 + 2, none⟩ = some (.int .u16 (mg i).tt) ∧ w'.cell? ⟨b, o + i * 6 + 3, none⟩ = some (.bool (mg i).ack) ∧ w'.cell? ⟨b, o + i * 6 + 4, none⟩ = some (.bool (mg i).be) ∧ w'.cell? ⟨b, o + i * 6 + 5, none⟩ = some (.slice (mg i).pa (mg i).pl (mg i).pc))
      (with_reducible assumption)
      (first | (go_at_call 37; refine Calls.mono HCS.out ?_; rintro e w4 ⟨rfl, hb4⟩; have K1 := HKP.out w4 (hb4.block _ hs9) (hb4.block _ hbr)))
    have hb14 : Below w1.heap.size w1 w4 := (Below.toDrew HB3.out).trans (hb4.mono HB3.out.size)
    have hA4 := HA1.out.keep (w' := w4) (hb14.block _ hB1)
    obtain ⟨ca4, fa4⟩ := hA4.cell hi
    have HB4 := hide hb14
    have HA4 := hide hA4
    clear hb4 hb14 hA4 K00 K0 K1 z0 z1 z2 z3 z4 z5 fz t0 t1 t2 t3 t4 t5 ca fa HKP HCS
    go_wp2
    go_ret
    obtain ⟨cur4, hc4, _⟩ := HA4.out
    obtain ⟨cur1, hc1, _⟩ := HA1.out
    have f1 : Fr N [4, 65, 76, 78, 80] w w1 := HX.out.1.mono (by simp)
    refine ⟨rfl, updL ids x l, fun j => if j = i then false else al j, HS.out.keep (T := [4, 65, 76, 78, 80]) ((f1.trans (Fr.of_below (Nat.le_trans HN.out HX.out.1.below.size) HB4.out)).set (o := i) hc4 (by simp) HS.out.BN _)
      ⟨rc', at', n', H', HX.out.2.keep4 hc1 fun c hc hne => (set_other _ hne).trans (HB4.out.block c hc)⟩ (HA4.out.put hi false) (HS.out.flat.take HFI.out.lt HFI.out.eq)⟩

end Go.Proofs.Qxb6601345a
