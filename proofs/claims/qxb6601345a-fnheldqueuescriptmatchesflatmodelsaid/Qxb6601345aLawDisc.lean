import Derived.Test.Qxb6601345aModel
namespace Go.Proofs.Qxb6601345a
open Go.RowKit Go.Maps
set_option linter.unusedVariables false
set_option linter.unusedSimpArgs false

theorem QMap.keep {w w' : World} {bm m : Nat} {bk snd : Nat → Nat} (h : QMap w bm m bk snd) (hk : (∀ c e f, w.heap[bm]? ≠ some (.cells c e f)) → bm < w.heap.size → w'.heap[bm]? = w.heap[bm]?) : QMap w' bm m bk snd := by
  obtain ⟨k, f, h1, h2⟩ := h
  obtain ⟨es, cl, ho⟩ := h1.obj
  exact ⟨k, f, h1.keep (hk (fun c e f hc => by rw [ho] at hc; cases hc) h1.lt), h2⟩

/-- Behind discard and its model the two stand side by side. -/
theorem St.discarded {w0 : World} {a : Option Addr} {n : Nat} {mg : Nat → MsgV} {pb : Nat → Nat → Nat} {N q bm m B : Nat} {bk snd : Nat → Nat} {mc : Nat → MsgV} {ids : Nat → List Nat} {al : Nat → Bool} {w w1 w' : World} {s : Nat} {above thr : Int}
    (h : St w0 a n mg pb N q bm m B bk snd mc ids al w) (hD : Discarded N w q (.map (some bm)) (.pointer none) m bk snd mc ids s above thr w1) (hA : AliveIn w' B n (goneTo mg al s above thr n)) (hO : ∀ x, x ≠ B → w'.heap[x]? = w1.heap[x]?) (hF : Fr N [4] w1 w') :
    ∃ ids', St w0 a n mg pb N q bm m B bk snd mc ids' (goneTo mg al s above thr n) w' := by
  obtain ⟨⟨ids', rc', at', n', H', hq, he⟩, hf⟩ := hD
  obtain ⟨cur, hc, _⟩ := h.alive
  have hc1 := hf.keep hc (by simp)
  exact ⟨ids', h.keep (T := [4, 65, 76, 78, 80]) ((hf.mono (by simp)).trans (hF.mono (by simp))) ⟨rc', at', n', H', hq.keep4 hc1 fun c _ hne => hO c hne⟩ hA (h.flat.discard (fun j hj => (h.cop j hj).1.ts) he)⟩

set_option maxHeartbeats 1600000 in
theorem law_disc (w : World) (a : Option Addr) (n c : Nat) (mg : Nat → MsgV) (pb : Nat → Nat → Nat) (s : Nat) (above thr : Int) (h : MsgsIn w a n mg pb) (hts : ∀ i, i < n → (Lit.int .i64 (mg i).ts).wf = true) (hs : s < 65536) (hn : n ≤ maxLen) :
    Calls Try.prog 7 #[.slice a n c, .int .u16 s, .int .i64 above, .int .i64 thr] w fun e w' => e = .returned (.bool true) ∧ Below w.heap.size w w' := by
  have HB := hide (bytes_disc w a n c mg pb s above thr h hn)
  unfold Answers at HB
  have HH := hide h
  have HT := hide hts
  clear h hts
  unfold maxLen at hn
  by_cases p0 : n ≤ 4096
  · have HFT := hide (fits_any w a n c mg pb HH.out p0)
    have HRO := hide (runsOK_any w a n c mg pb HH.out p0 HT.out)
    go_enter Try.func7, Try.ntmps7
    go_wp2_with fail
    refine Calls.mono HB.out ?_
    rintro e w' ⟨⟨b, rfl⟩, rfl⟩
    cases b with
    | false =>
      go_wp2
      go_ret
      exact ⟨rfl, Below.refl _ _⟩
    | true =>
      go_wp2_with fail
      refine Calls.mono HFT.out ?_
      rintro e w2 ⟨⟨b, rfl, hfit⟩, rfl⟩
      cases b with
      | false =>
        go_wp2
        go_ret
        exact ⟨rfl, Below.refl _ _⟩
      | true =>
        have HPL := hide (hfit rfl)
        clear hfit
        go_wp2_with fail
        refine Calls.mono HRO.out ?_
        rintro e w2 ⟨⟨b, rfl, hso⟩, hb2⟩
        have HB2 := hide hb2
        clear hb2
        cases b with
        | false =>
          go_wp2
          go_ret
          exact ⟨rfl, HB2.out⟩
        | true =>
          have HSO := hide (hso rfl)
          clear hso
          have HQ := hide (queue_any w2 a n c mg pb (HH.out.below HB2.out) p0 HPL.out)
          go_wp2_with fail
          refine Calls.mono HQ.out ?_
          rintro e w3 ⟨N, q, bm, m, bk, snd, mc, rfl, hN, ⟨rc, at_, k, H, hqi⟩, hmap, hinj, hcov, hcop, hb3⟩
          have HZ := hide (zdisc_any N w3 q bm (.pointer none) m bk snd mc (fun x => idsTo mc n (snd x)) rc at_ k H s hs above thr hqi hmap)
          have HX := hide (And.intro hN (And.intro hqi (And.intro hmap (And.intro hinj (And.intro hcov (And.intro hcop hb3))))))
          clear hN hqi hmap hinj hcov hcop hb3
          go_wp2_with fail
          refine Calls.mono HZ.out ?_
          rintro e w4 ⟨rfl, hD⟩
          have HD := hide hD
          clear hD
          have HAL := hide (alive_any w4 n p0)
          go_wp2_with fail
          refine Calls.mono HAL.out ?_
          rintro e w5 ⟨rfl, hal, hb5⟩
          have HY := hide (And.intro hal hb5)
          have H5 := hide (show Below w2.heap.size w2 w5 ∧ w2.heap.size ≤ w4.heap.size ∧ N ≤ w4.heap.size from by
            obtain ⟨hN, hqi, hmap, hinj, hcov, hcop, hb3⟩ := HX.out
            have hN3 := hqi.N_lt
            obtain ⟨_, hf⟩ := HD.out
            have hb4 : Below w2.heap.size w2 w4 := hb3.trans (hf.below.mono hN)
            exact ⟨hb4.trans (hb5.mono hb4.size), hb4.size, Nat.le_trans hN3 hf.below.size⟩)
          have HM := hide (mdisc_any N w2 w5 a n c mg pb w4.heap.size (fun _ => true) s above thr (HH.out.below HB2.out) H5.out.1 H5.out.2.1 H5.out.2.2 p0 hal)
          clear hal hb5
          go_wp2_with fail
          refine Calls.mono HM.out ?_
          rintro e w6 ⟨rfl, hA6, hO6, hF6⟩
          have HST := hide (show ∃ ids', St w2 a n mg pb N q bm m w4.heap.size bk snd mc ids' (goneTo mg (fun _ => true) s above thr n) w6 by
            obtain ⟨hN, hqi, hmap, hinj, hcov, hcop, hb3⟩ := HX.out
            have hN3 := hqi.N_lt
            obtain ⟨hal, hb5⟩ := HY.out
            obtain ⟨⟨ids', rc', at', n', H', hq, he⟩, hf⟩ := HD.out
            have hb4 : Below w2.heap.size w2 w4 := hb3.trans (hf.below.mono hN)
            obtain ⟨cur, hc, _⟩ := hal
            have hmap4 : QMap w4 bm m bk snd := hmap.keep fun h1 h2 => hf.other bm h2 (fun c e f hc => absurd hc (h1 c e f))
            have hmap5 : QMap w5 bm m bk snd := hmap4.keep fun _ h2 => hb5.block bm h2
            have hmap6 : QMap w6 bm m bk snd := hmap5.keep fun h1 _ => hO6 bm (fun e => h1 _ _ _ (e ▸ hc))
            refine ⟨ids', ⟨H5.out.1.trans (hF6.below.mono hN), hN, HH.out.below HB2.out, HPL.out, p0, HSO.out, ⟨rc', at', n', H', (hq.keep fun c hc => hb5.block c hc).keep4 hc fun c _ hne => hO6 c hne⟩, hmap6, fun j hj => ⟨(hcop j hj).1, (((hcop j hj).2.below hf.below (Nat.le_refl _)).below hb5 (Nat.le_trans hN3 hf.below.size)).below hF6.below (Nat.le_refl _)⟩, hA6, H5.out.2.2, (Flat.start (fun i hi => (hcop i hi).1.fr) hcov hinj).discard (fun j hj => (hcop j hj).1.ts) he⟩⟩)
          obtain ⟨ids6, hS6⟩ := HST.out
          have HC := hide (drain_any w2 a n c mg pb N q bm m w4.heap.size bk snd mc ids6 _ w6 hS6)
          clear hS6 HST hA6 hO6 hF6 HY HM HX HD HZ HQ HAL HFT HRO HB
          go_wp2_with fail
          refine Calls.mono HC.out ?_
          rintro e w7 ⟨rfl, ids2, al2, hS⟩
          have HS2 := hide hS
          clear hS
          go_wp2
          go_ret
          exact ⟨rfl, HB2.out.trans (HS2.out.below.mono HB2.out.size)⟩
  · go_enter Try.func7, Try.ntmps7
    go_wp2_with fail
    refine Calls.mono HB.out ?_
    rintro e w' ⟨⟨b, rfl⟩, rfl⟩
    cases b with
    | false =>
      go_wp2
      go_ret
      exact ⟨rfl, Below.refl _ _⟩
    | true =>
      go_wp2
      go_ret
      exact ⟨rfl, Below.refl _ _⟩

end Go.Proofs.Qxb6601345a
