import Derived.Test.Qxb6601345aStep2
namespace Go.Proofs.Qxb6601345a
open Go.RowKit Go.Maps
set_option linter.unusedVariables false
set_option linter.unusedSimpArgs false

set_option maxHeartbeats 800000 in
theorem drain_any (w0 : World) (a : Option Addr) (n c : Nat) (mg : Nat → MsgV) (pb : Nat → Nat → Nat) (N q bm m B : Nat) (bk snd : Nat → Nat) (mc : Nat → MsgV) (ids : Nat → List Nat) (al : Nat → Bool) (w : World)
    (h : St w0 a n mg pb N q bm m B bk snd mc ids al w) :
    Calls Try.prog 25 #[.pointer (some ⟨q, 0, none⟩), .slice a n c, .slice (some ⟨B, 0, none⟩) n n] w fun e w' => e = .returned (.bool true) ∧ ∃ ids' al', St w0 a n mg pb N q bm m B bk snd mc ids' al' w' := by
  have hnm := h.nmax
  have HS := hide h
  clear h
  go_enter Try.func25, Try.ntmps25
  go_upto_block 0 with fail
  go_wp2
  go_loopg [7] (n + 1) (fun g v7 wx => ∃ (k : Nat) (ids' : Nat → List Nat) (al' : Nat → Bool), n + 1 - k = g ∧ k ≤ n + 1 ∧ v7 = .int .i64 k ∧ St w0 a n mg pb N q bm m B bk snd mc ids' al' wx)
  case atStart => exact ⟨0, ids, al, rfl, by omega, rfl, HS.out⟩
  case round =>
    obtain ⟨k, ids', al', rfl, hk, rfl, hS⟩ := hrel
    by_cases hlt : k ≤ n
    · have hlt' : (k : Int) ≤ (n : Int) := by omega
      have HC := hide (step_any w0 a n c mg pb N q bm m B bk snd mc ids' al' wr 9223372036854775807 hS)
      clear hS
      go_wp2_with fail
      refine Calls.mono HC.out ?_
      rintro e w1 ⟨rfl, ids2, al2, hS⟩
      have HS2 := hide hS
      clear hS
      go_wp2
      go_roundg (n + 1 - (k + 1))
      case measure => omega
      case rel => exact ⟨k + 1, ids2, al2, rfl, by omega, by go_num, HS2.out⟩
    · have hgt : ¬ (k : Int) ≤ (n : Int) := by omega
      have HS2 := hide hS
      clear hS
      go_wp2
      go_ret
      exact ⟨rfl, ids', al', HS2.out⟩

/-- The stamps that came in. -/
def IntsIn (w : World) (a : Option Addr) (n : Nat) (zs : Nat → Int) : Prop := n = 0 ∨ ∃ b o, a = some ⟨b, o, none⟩ ∧ b < w.heap.size ∧ ∀ j, j < n → w.cell? ⟨b, o + j, none⟩ = some (.int .i64 (zs j))

set_option maxHeartbeats 1600000 in
theorem law_take (w : World) (a : Option Addr) (n c : Nat) (mg : Nat → MsgV) (pb : Nat → Nat → Nat) (a1 : Option Addr) (n1 c1 : Nat) (zs : Nat → Int) (h : MsgsIn w a n mg pb) (hts : ∀ i, i < n → (Lit.int .i64 (mg i).ts).wf = true) (h1 : IntsIn w a1 n1 zs) (hn : n ≤ maxLen) (hn1 : n1 ≤ maxLen) :
    Calls Try.prog 6 #[.slice a n c, .slice a1 n1 c1] w fun e w' => e = .returned (.bool true) ∧ Below w.heap.size w w' := by
  have HB := hide (bytes_take w a n c mg pb a1 n1 c1 h hn hn1)
  unfold Answers at HB
  have HH := hide h
  have HT := hide hts
  have H1 := hide h1
  clear h hts h1
  unfold maxLen at hn hn1
  by_cases p0 : n ≤ 4096
  · by_cases p1 : n1 ≤ 4096
    · have HFT := hide (fits_any w a n c mg pb HH.out p0)
      have HRO := hide (runsOK_any w a n c mg pb HH.out p0 HT.out)
      go_enter Try.func6, Try.ntmps6
      go_wp2_with fail
      refine Calls.mono HB.out ?_
      rintro e w' ⟨⟨b, rfl⟩, rfl⟩
      cases b with
      | false =>
        go_wp2
        go_ret
        exact ⟨rfl, Below.refl _ _⟩
      | true =>
        go_wp2_with fail
        refine Calls.mono HFT.out ?_
        rintro e w2 ⟨⟨b, rfl, hfit⟩, rfl⟩
        cases b with
        | false =>
          go_wp2
          go_ret
          exact ⟨rfl, Below.refl _ _⟩
        | true =>
          have HPL := hide (hfit rfl)
          clear hfit
          go_wp2_with fail
          refine Calls.mono HRO.out ?_
          rintro e w2 ⟨⟨b, rfl, hso⟩, hb2⟩
          have HB2 := hide hb2
          clear hb2
          cases b with
          | false =>
            go_wp2
            go_ret
            exact ⟨rfl, HB2.out⟩
          | true =>
            have HSO := hide (hso rfl)
            clear hso
            have HQ := hide (queue_any w2 a n c mg pb (HH.out.below HB2.out) p0 HPL.out)
            go_wp2_with fail
            refine Calls.mono HQ.out ?_
            rintro e w3 ⟨N, q, bm, m, bk, snd, mc, rfl, hN, hqi, hmap, hinj, hcov, hcop, hb3⟩
            have HAL := hide (alive_any w3 n p0)
            have HX := hide (And.intro hN (And.intro hqi (And.intro hmap (And.intro hinj (And.intro hcov (And.intro hcop hb3))))))
            clear hN hqi hmap hinj hcov hcop hb3
            go_wp2_with fail
            refine Calls.mono HAL.out ?_
            rintro e w4 ⟨rfl, hal, hb4⟩
            have HST := hide (show St w2 a n mg pb N q bm m w3.heap.size bk snd mc (fun x => idsTo mc n (snd x)) (fun _ => true) w4 by
              obtain ⟨hN, ⟨rc, at_, k, H, hqi⟩, hmap, hinj, hcov, hcop, hb3⟩ := HX.out
              have hN3 := hqi.N_lt
              refine ⟨hb3.trans (hb4.mono hb3.size), hN, HH.out.below HB2.out, HPL.out, p0, HSO.out, ⟨rc, at_, k, H, hqi.keep fun c hc => hb4.block c hc⟩, ?_, fun j hj => ⟨(hcop j hj).1, (hcop j hj).2.below hb4 hN3⟩, hal, hN3, Flat.start (fun i hi => (hcop i hi).1.fr) hcov hinj⟩
              obtain ⟨k, f, hf1, hf2⟩ := hmap
              exact ⟨k, f, hf1.keep (hb4.block _ hf1.lt), hf2⟩)
            clear hal hb4 HX HQ HAL HFT HRO HB
            have H12 := hide (show ∀ j, j < n1 → ∃ b o, a1 = some ⟨b, o, none⟩ ∧ b < w2.heap.size ∧ ∀ j, j < n1 → w2.cell? ⟨b, o + j, none⟩ = some (.int .i64 (zs j)) from fun j hj => by
              rcases H1.out with h' | ⟨b, o, h1, h2, h3⟩
              · omega
              · exact ⟨b, o, h1, Nat.lt_of_lt_of_le h2 HB2.out.size, fun j hj => by rw [Below.cellOf HB2.out h2]; exact h3 j hj⟩)
            go_upto_block 0 with fail
            go_wp2
            go_loopg [7] n1 (fun g v7 wx => ∃ (k : Nat) (ids' : Nat → List Nat) (al' : Nat → Bool), n1 - k = g ∧ k ≤ n1 ∧ v7 = .int .i64 k ∧ St w2 a n mg pb N q bm m w3.heap.size bk snd mc ids' al' wx)
            case atStart => exact ⟨0, _, _, rfl, by omega, rfl, HST.out⟩
            case round =>
              obtain ⟨k, ids', al', rfl, hk, rfl, hS⟩ := hrel
              by_cases hlt : k < n1
              · have hlt' : (k : Int) < (n1 : Int) := by omega
                obtain ⟨b, o, rfl, hb, hc⟩ := H12.out k hlt
                have ck : wr.cell? ⟨b, o + k, none⟩ = some (.int .i64 (zs k)) := by rw [Below.cellOf hS.below hb]; exact hc k hlt
                have HC := hide (step_any w2 a n c mg pb N q bm m w3.heap.size bk snd mc ids' al' wr (zs k) hS)
                clear hS hc
                go_wp2_with fail
                refine Calls.mono HC.out ?_
                rintro e w5 ⟨rfl, ids2, al2, hS⟩
                have HS2 := hide hS
                clear hS
                go_wp2
                go_roundg (n1 - (k + 1))
                case measure => omega
                case rel => exact ⟨k + 1, ids2, al2, rfl, by omega, by go_num, HS2.out⟩
              · have e : k = n1 := by omega
                subst e
                have HC := hide (drain_any w2 a n c mg pb N q bm m w3.heap.size bk snd mc ids' al' wr hS)
                clear hS
                go_wp2_with fail
                refine Calls.mono HC.out ?_
                rintro e w5 ⟨rfl, ids2, al2, hS⟩
                have HS2 := hide hS
                clear hS
                go_wp2
                go_ret
                exact ⟨rfl, HB2.out.trans (HS2.out.below.mono HB2.out.size)⟩
    · go_enter Try.func6, Try.ntmps6
      go_wp2_with fail
      refine Calls.mono HB.out ?_
      rintro e w' ⟨⟨b, rfl⟩, rfl⟩
      cases b with
      | false =>
        go_wp2
        go_ret
        exact ⟨rfl, Below.refl _ _⟩
      | true =>
        go_wp2
        go_ret
        exact ⟨rfl, Below.refl _ _⟩
  · go_enter Try.func6, Try.ntmps6
    go_wp2_with fail
    refine Calls.mono HB.out ?_
    rintro e w' ⟨⟨b, rfl⟩, rfl⟩
    cases b with
    | false =>
      go_wp2
      go_ret
      exact ⟨rfl, Below.refl _ _⟩
    | true =>
      go_wp2
      go_ret
      exact ⟨rfl, Below.refl _ _⟩

end Go.Proofs.Qxb6601345a
