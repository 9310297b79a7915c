import Derived.Test.Qxb6601345aLawDisc
namespace Go.Proofs.Qxb6601345a
open Go.RowKit Go.Maps
set_option linter.unusedVariables false
set_option linter.unusedSimpArgs false

/-- One step of a script. -/
structure OpV where
  tk : Bool
  fr : Nat
  ab : Int
  th : Int

def OpAt (w : World) (b o : Nat) (p : OpV) : Prop :=
  w.cell? ⟨b, o, none⟩ = some (.bool p.tk) ∧ w.cell? ⟨b, o + 1, none⟩ = some (.int .u16 p.fr) ∧ w.cell? ⟨b, o + 2, none⟩ = some (.int .i64 p.ab) ∧ w.cell? ⟨b, o + 3, none⟩ = some (.int .i64 p.th) ∧ p.fr < 65536

theorem OpAt.below {w w' : World} {b o : Nat} {p : OpV} (h : OpAt w b o p) (hb : Below w.heap.size w w') (hl : b < w.heap.size) : OpAt w' b o p := by
  unfold OpAt
  rw [Below.cellOf hb hl, Below.cellOf hb hl, Below.cellOf hb hl, Below.cellOf hb hl]
  exact h

/-- The script that came in. -/
def OpsIn (w : World) (a : Option Addr) (n : Nat) (ops : Nat → OpV) : Prop := n = 0 ∨ ∃ b o, a = some ⟨b, o, none⟩ ∧ b < w.heap.size ∧ ∀ j, j < n → OpAt w b (o + j * 4) (ops j)

theorem St.alloc {w0 : World} {a : Option Addr} {n : Nat} {mg : Nat → MsgV} {pb : Nat → Nat → Nat} {N q bm m B : Nat} {bk snd : Nat → Nat} {mc : Nat → MsgV} {ids : Nat → List Nat} {al : Nat → Bool} {w : World}
    (h : St w0 a n mg pb N q bm m B bk snd mc ids al w) (o : Obj) : St w0 a n mg pb N q bm m B bk snd mc ids al (w.alloc o) := by
  obtain ⟨rc, at_, k, H, hq⟩ := h.qi
  obtain ⟨cur, hc, h2⟩ := h.alive
  exact h.keep (T := []) ((Fr.refl _ _ _).alloc hq.N_lt o) ⟨rc, at_, k, H, hq.keep fun c hc => Below.heap_alloc _ _ _ hc⟩ ⟨cur, (Below.heap_alloc _ _ _ (block_lt hc)).trans hc, h2⟩ h.flat

set_option maxHeartbeats 1600000 in
theorem law_script (w : World) (a : Option Addr) (n c : Nat) (mg : Nat → MsgV) (pb : Nat → Nat → Nat) (a1 : Option Addr) (n1 c1 : Nat) (ops : Nat → OpV) (h : MsgsIn w a n mg pb) (hts : ∀ i, i < n → (Lit.int .i64 (mg i).ts).wf = true) (h1 : OpsIn w a1 n1 ops) (hn : n ≤ maxLen) (hn1 : n1 ≤ maxLen) :
    Calls Try.prog 8 #[.slice a n c, .slice a1 n1 c1] w fun e w' => e = .returned (.bool true) ∧ Below w.heap.size w w' := by
  have HB := hide (bytes_script w a n c mg pb a1 n1 c1 h hn hn1)
  unfold Answers at HB
  have HH := hide h
  have HT := hide hts
  have H1 := hide h1
  clear h hts h1
  unfold maxLen at hn hn1
  by_cases p0 : n ≤ 4096
  · by_cases p1 : n1 ≤ 4096
    · have HFT := hide (fits_any w a n c mg pb HH.out p0)
      have HRO := hide (runsOK_any w a n c mg pb HH.out p0 HT.out)
      go_enter Try.func8, Try.ntmps8
      go_wp2_with fail
      refine Calls.mono HB.out ?_
      rintro e w' ⟨⟨b, rfl⟩, rfl⟩
      cases b with
      | false =>
        go_wp2
        go_ret
        exact ⟨rfl, Below.refl _ _⟩
      | true =>
        go_wp2_with fail
        refine Calls.mono HFT.out ?_
        rintro e w2 ⟨⟨b, rfl, hfit⟩, rfl⟩
        cases b with
        | false =>
          go_wp2
          go_ret
          exact ⟨rfl, Below.refl _ _⟩
        | true =>
          have HPL := hide (hfit rfl)
          clear hfit
          go_wp2_with fail
          refine Calls.mono HRO.out ?_
          rintro e w2 ⟨⟨b, rfl, hso⟩, hb2⟩
          have HB2 := hide hb2
          clear hb2
          cases b with
          | false =>
            go_wp2
            go_ret
            exact ⟨rfl, HB2.out⟩
          | true =>
            have HSO := hide (hso rfl)
            clear hso
            have HQ := hide (queue_any w2 a n c mg pb (HH.out.below HB2.out) p0 HPL.out)
            go_wp2_with fail
            refine Calls.mono HQ.out ?_
            rintro e w3 ⟨N, q, bm, m, bk, snd, mc, rfl, hN, hqi, hmap, hinj, hcov, hcop, hb3⟩
            have HAL := hide (alive_any w3 n p0)
            have HX := hide (And.intro hN (And.intro hqi (And.intro hmap (And.intro hinj (And.intro hcov (And.intro hcop hb3))))))
            clear hN hqi hmap hinj hcov hcop hb3
            go_wp2_with fail
            refine Calls.mono HAL.out ?_
            rintro e w4 ⟨rfl, hal, hb4⟩
            have HST := hide (show St w2 a n mg pb N q bm m w3.heap.size bk snd mc (fun x => idsTo mc n (snd x)) (fun _ => true) w4 by
              obtain ⟨hN, ⟨rc, at_, k, H, hqi⟩, hmap, hinj, hcov, hcop, hb3⟩ := HX.out
              have hN3 := hqi.N_lt
              refine ⟨hb3.trans (hb4.mono hb3.size), hN, HH.out.below HB2.out, HPL.out, p0, HSO.out, ⟨rc, at_, k, H, hqi.keep fun c hc => hb4.block c hc⟩, ?_, fun j hj => ⟨(hcop j hj).1, (hcop j hj).2.below hb4 hN3⟩, hal, hN3, Flat.start (fun i hi => (hcop i hi).1.fr) hcov hinj⟩
              obtain ⟨k, f, hf1, hf2⟩ := hmap
              exact ⟨k, f, hf1.keep (hb4.block _ hf1.lt), hf2⟩)
            clear hal hb4 HX HQ HAL HFT HRO HB
            have H12 := hide (show ∀ j, j < n1 → ∃ b o, a1 = some ⟨b, o, none⟩ ∧ b < w2.heap.size ∧ ∀ j, j < n1 → OpAt w2 b (o + j * 4) (ops j) from fun j hj => by
              rcases H1.out with h' | ⟨b, o, h1, h2, h3⟩
              · omega
              · exact ⟨b, o, h1, Nat.lt_of_lt_of_le h2 HB2.out.size, fun j hj => (h3 j hj).below HB2.out h2⟩)
            go_upto_block 0 with fail
            go_wp2
            go_loopg [7, 8] n1 (fun g v7 v8 wx => ∃ (k : Nat) (ids' : Nat → List Nat) (al' : Nat → Bool), n1 - k = g ∧ k ≤ n1 ∧ v7 = .int .i64 k ∧ St w2 a n mg pb N q bm m w3.heap.size bk snd mc ids' al' wx)
            case atStart => exact ⟨0, _, _, rfl, by omega, rfl, HST.out⟩
            case round =>
              obtain ⟨k, ids', al', rfl, hk, rfl, hS⟩ := hrel
              by_cases hlt : k < n1
              · have hlt' : (k : Int) < (n1 : Int) := by omega
                obtain ⟨b, o, rfl, hb, hc⟩ := H12.out k hlt
                obtain ⟨t0, t1, t2, t3, hfr⟩ := (hc k hlt).below hS.below hb
                have HS1 := hide (fun (ob : Obj) => hS.alloc ob)
                clear hS hc
                obtain ⟨opk, hopk⟩ : ∃ opk, opk = ops k := ⟨_, rfl⟩
                rw [← hopk] at t0 t1 t2 t3 hfr
                clear hopk
                obtain ⟨tk, fr, ab, th⟩ := opk
                simp only at t0 t1 t2 t3 hfr
                cases tk with
                | true =>
                  have HC := hide (fun (ob : Obj) => step_any w2 a n c mg pb N q bm m w3.heap.size bk snd mc ids' al' (wr.alloc ob) th (HS1.out ob))
                  go_wp2_with fail
                  refine Calls.mono (HC.out _) ?_
                  rintro e w5 ⟨rfl, ids2, al2, hS⟩
                  have HS2 := hide hS
                  clear hS
                  go_wp2
                  go_roundg (n1 - (k + 1))
                  case measure => omega
                  case rel => exact ⟨k + 1, ids2, al2, rfl, by omega, by go_num, HS2.out⟩
                | false =>
                  obtain ⟨ob, hob⟩ : ∃ ob : Obj, ob = .cells #[.bool false, .int .u16 fr, .int .i64 ab, .int .i64 th] 52 := ⟨_, rfl⟩
                  obtain ⟨rc, at_, kk, H, hqi⟩ := (HS1.out ob).qi
                  have HC := hide (zdisc_any N (wr.alloc ob) q bm (.pointer none) m bk snd mc ids' rc at_ kk H fr hfr ab th hqi (HS1.out ob).map)
                  have HN := hide hqi.N_lt
                  clear hqi
                  rw [hob] at HC HN
                  go_wp2_with fail
                  refine Calls.mono HC.out ?_
                  rintro e w5 ⟨rfl, hD⟩
                  have hf := hD.2
                  have HSo := hide (HS1.out ob)
                  rw [hob] at HSo
                  have o5 := hf.keep (alloc_new wr _) (by simp)
                  have u0 : w5.cell? ⟨wr.heap.size, 0, none⟩ = some (.bool false) := by rw [cell_of o5]; rfl
                  have u1 : w5.cell? ⟨wr.heap.size, 1, none⟩ = some (.int .u16 fr) := by rw [cell_of o5]; rfl
                  have u2 : w5.cell? ⟨wr.heap.size, 2, none⟩ = some (.int .i64 ab) := by rw [cell_of o5]; rfl
                  have u3 : w5.cell? ⟨wr.heap.size, 3, none⟩ = some (.int .i64 th) := by rw [cell_of o5]; rfl
                  have HM := hide (mdisc_any N w2 w5 a n c mg pb w3.heap.size al' fr ab th HSo.out.msgs (HSo.out.below.trans (hf.below.mono HSo.out.N0)) (Nat.le_trans HSo.out.N0 HSo.out.BN) HSo.out.BN p0 (by
                    obtain ⟨cur, hc, h2⟩ := HSo.out.alive
                    exact ⟨cur, hf.keep hc (by simp), h2⟩))
                  have HD := hide hD
                  clear hD hf o5 t0 t1 t2 t3 hob
                  go_wp2_with fail
                  refine Calls.mono HM.out ?_
                  rintro e w6 ⟨rfl, hA6, hO6, hF6⟩
                  obtain ⟨ids2, hS⟩ := HSo.out.discarded HD.out hA6 hO6 hF6
                  have HS2 := hide hS
                  clear hS hA6 hO6 hF6 u0 u1 u2 u3
                  go_wp2
                  go_roundg (n1 - (k + 1))
                  case measure => omega
                  case rel => exact ⟨k + 1, ids2, _, rfl, by omega, by go_num, HS2.out⟩
              · have e : k = n1 := by omega
                subst e
                have HC := hide (drain_any w2 a n c mg pb N q bm m w3.heap.size bk snd mc ids' al' wr hS)
                clear hS
                go_wp2_with fail
                refine Calls.mono HC.out ?_
                rintro e w5 ⟨rfl, ids2, al2, hS⟩
                have HS2 := hide hS
                clear hS
                go_wp2
                go_ret
                exact ⟨rfl, HB2.out.trans (HS2.out.below.mono HB2.out.size)⟩
    · go_enter Try.func8, Try.ntmps8
      go_wp2_with fail
      refine Calls.mono HB.out ?_
      rintro e w' ⟨⟨b, rfl⟩, rfl⟩
      cases b with
      | false =>
        go_wp2
        go_ret
        exact ⟨rfl, Below.refl _ _⟩
      | true =>
        go_wp2
        go_ret
        exact ⟨rfl, Below.refl _ _⟩
  · go_enter Try.func8, Try.ntmps8
    go_wp2_with fail
    refine Calls.mono HB.out ?_
    rintro e w' ⟨⟨b, rfl⟩, rfl⟩
    cases b with
    | false =>
      go_wp2
      go_ret
      exact ⟨rfl, Below.refl _ _⟩
    | true =>
      go_wp2
      go_ret
      exact ⟨rfl, Below.refl _ _⟩

end Go.Proofs.Qxb6601345a
