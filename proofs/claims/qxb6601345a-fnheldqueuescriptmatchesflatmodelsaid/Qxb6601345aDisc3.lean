import Derived.Test.Qxb6601345aDisc2
namespace Go.Proofs.Qxb6601345a
open Go.RowKit
set_option linter.unusedVariables false
set_option linter.unusedSimpArgs false

theorem six_one (t : Int) (sx o : Nat) (ak be : Bool) (pa : Option Addr) (pl pc : Nat) : ∀ u ∈ [Value.int .i64 t, .int .u16 sx, .int .u16 o, .bool ak, .bool be, .slice pa pl pc], u.oneCell' = true := by
  intro u hu
  simp only [List.mem_cons, List.not_mem_nil, or_false] at hu
  rcases hu with rfl | rfl | rfl | rfl | rfl | rfl <;> rfl

theorem second_new (w : World) (o1 o2 : Obj) : ((w.alloc o1).alloc o2).heap[w.heap.size + 1]? = some o2 := by
  have := alloc_new (w.alloc o1) o2
  rwa [alloc_size] at this

theorem take_filter_keep {p : Nat → Bool} {l : List Nat} {j : Nat} (K : List Nat) (hj : j < l.length) (hp : p l[j]! = true) : (l.take (j + 1)).filter p = (l.take j).filter p ++ [l[j]!] := by
  have e : l[j]! = l[j] := by simp [hj]
  rw [e] at hp ⊢
  rw [List.take_succ_eq_append_getElem hj, List.filter_append]
  simp [hp]
theorem take_filter_drop {p : Nat → Bool} {l : List Nat} {j : Nat} (K : List Nat) (hj : j < l.length) (hp : p l[j]! = false) : (l.take (j + 1)).filter p = (l.take j).filter p := by
  have e : l[j]! = l[j] := by simp [hj]
  rw [e] at hp
  rw [List.take_succ_eq_append_getElem hj, List.filter_append]
  simp [hp]

theorem DL.keep2 {N : Nat} {w wx : World} {g hd cp : Nat} {mc : Nat → MsgV} {l : List Nat} {j : Nat} {K : List Nat} (h : DL N w wx g hd cp mc l j K) (hNw : N ≤ w.heap.size) (hN : N ≤ g) (hj : j < l.length) (hcap : hd + l.length ≤ cp) {i : Nat} (hi : i = l[j]!)
    {t : Int} {sx o : Nat} {ak be : Bool} {pa : Option Addr} {pl pc : Nat} (hm : MsgV.mk t sx o ak be pa pl pc = mc i) (o1 o2 : Obj) :
    DL N w (((wx.alloc o1).alloc o2).setCells g ((hd + K.length) * 6) [.int .i64 t, .int .u16 sx, .int .u16 o, .bool ak, .bool be, .slice pa pl pc]) g hd cp mc l (j + 1) (K ++ [i]) := by
  have := ((h.alloc hNw o1).alloc hNw o2).keep hN hj hcap
  rw [← hi, ← hm] at this
  exact this

theorem DL.drawn {N : Nat} {w wx wd : World} {g hd cp : Nat} {mc : Nat → MsgV} {l : List Nat} {j : Nat} {K : List Nat} (h : DL N w wx g hd cp mc l j K) (hd' : Drawn wx wd) : DL N w wd g hd cp mc l j K := by
  obtain ⟨n, rfl⟩ := hd'
  exact ⟨h.fr.drewN n, h.old, h.klen, h.arr⟩

set_option maxHeartbeats 1600000 in
theorem disc_walk (N : Nat) (w : World) (q bm b g hd cp a sd : Nat) (tv lv : Value) (s : Nat) (above thr : Int) (mc : Nat → MsgV) (l : List Nat) (L : Nat) (hL : l.length = L) (R : World → Prop) (Post : World → Prop)
    (hq : w.heap[q]? = some (.cells #[.map (some bm), tv, lv] 78))
    (hl : (Instr.lookup 73 (.map (some bm)) (.int .u16 s) false).run Try.prog w = .ok (.pointer (some ⟨b, 0, none⟩)) w)
    (hb : w.heap[b]? = some (.cells #[.int .u16 sd, .slice (some ⟨g, 0, none⟩) (hd + L) cp, .int .i64 hd, .int .i64 a] 80))
    (h0 : 0 < L) (h1 : hd + L ≤ 4096) (h2 : hd + L ≤ cp) (hNg : N ≤ g) (hgb : g ≠ b)
    (hrem : ∀ wd, Drawn w wd → Calls Try.prog 43 #[.pointer (some ⟨q, 1, none⟩), .int .i64 a] wd fun e w2 => e = .returned (.tuple #[]) ∧ R w2)
    (hR : ∀ w2, R w2 → w2.heap[b]? = some (.cells #[.int .u16 sd, .slice (some ⟨g, 0, none⟩) (hd + L) cp, .int .i64 hd, .int .i64 a] 80) ∧ DL N w2 w2 g hd cp mc l 0 [] ∧ N ≤ w2.heap.size)
    (hend : ∀ w2, R w2 → ∀ wr, DL N w2 wr g hd cp mc l L (l.filter (stays mc above thr)) → l.filter (stays mc above thr) = [] → ∀ wd, Drawn (wr.setCell ⟨b, 1, none⟩ (.slice (some ⟨g, 0, none⟩) hd cp)) wd → Post ((wd.setCell ⟨b, 1, none⟩ (.slice (some ⟨g, 0, none⟩) 0 cp)).setCell ⟨b, 2, none⟩ (.int .i64 0)))
    (hpush : ∀ w2, R w2 → ∀ wr, DL N w2 wr g hd cp mc l L (l.filter (stays mc above thr)) → l.filter (stays mc above thr) ≠ [] → ∀ wd, Drawn (wr.setCell ⟨b, 1, none⟩ (.slice (some ⟨g, 0, none⟩) (hd + (l.filter (stays mc above thr)).length) cp)) wd → 
      Calls Try.prog 39 #[.pointer (some ⟨q, 1, none⟩), .pointer (some ⟨b, 0, none⟩)] wd fun e w' => e = .returned (.tuple #[]) ∧ Post w') :
    Calls Try.prog 38 #[.pointer (some ⟨q, 0, none⟩), .int .u16 s, .int .i64 above, .int .i64 thr] w fun e w' => e = .returned (.tuple #[]) ∧ Post w' := by
  have cq : w.cell? ⟨q, 0, none⟩ = some (.map (some bm)) := by rw [cell_of hq]; rfl
  have b1 : w.cell? ⟨b, 1, none⟩ = some (.slice (some ⟨g, 0, none⟩) (hd + L) cp) := by rw [cell_of hb]; rfl
  have b2 : w.cell? ⟨b, 2, none⟩ = some (.int .i64 hd) := by rw [cell_of hb]; rfl
  have b3 : w.cell? ⟨b, 3, none⟩ = some (.int .i64 a) := by rw [cell_of hb]; rfl
  obtain ⟨i1, hi0, hz0, hz1, hz2⟩ := info_parts Try.info65
  have HI := hide (And.intro hi0 (And.intro hz0 (And.intro hz1 hz2)))
  clear hi0 hz0 hz1 hz2
  have HREM := hide hrem
  have HR := hide hR
  have HE := hide hend
  have HP := hide hpush
  clear hq hb hrem hR hend hpush
  have e0 : ((hd : Int) == (hd : Int) + (L : Int)) = false := by simp; omega
  go_enter Try.func38, Try.ntmps38
  go_upto_region 1 with fail
  go_quiet (fail)
  go_upto_region 2 with fail
  have HC := hide (HREM.out (w.drewN nq).drew (((Drawn.refl w).next (n := nq)).drew))
  have c3 : (w.drewN nq).cell? ⟨b, 3, none⟩ = some (.int .i64 a) := b3
  have c3' : (w.drewN nq).drew.cell? ⟨b, 3, none⟩ = some (.int .i64 a) := b3
  go_region_held3 (fun w' => w'.cell? ⟨b, 3, none⟩ = some (.int .i64 a)) (with_reducible assumption)
    (first | (go_at_call 43; refine Calls.mono HC.out ?_; rintro e w2 ⟨rfl, hR2⟩; have cb2 : w2.cell? ⟨b, 3, none⟩ = some (.int .i64 a) := (by rw [cell_of (HR.out w2 hR2).1]; rfl)))
  have hbb := (HR.out w2 hR2).1
  have b1 : w2.cell? ⟨b, 1, none⟩ = some (.slice (some ⟨g, 0, none⟩) (hd + L) cp) := by rw [cell_of hbb]; rfl
  have b2 : w2.cell? ⟨b, 2, none⟩ = some (.int .i64 hd) := by rw [cell_of hbb]; rfl
  have HR2 := hide hR2
  clear hR2 hbb c3 c3' cb2 HC HREM
  have hcp : ¬ cp = hd := by omega
  have hcp0 : ¬ cp = 0 := by omega
  go_upto_region 3 with fail
  go_quiet (fail)
  go_upto_region 4 with fail
  go_quiet (fail)
  go_upto_block 0 with fail
  refine gen_world (fun wr => DL N w2 wr g hd cp mc l 0 []) ((HR.out w2 HR2.out).2.1.drawn (by repeat (first | exact Drawn.refl _ | apply Drawn.next | apply Drawn.drew))) ?_
  intro wb hDL0
  have HD0 := hide hDL0
  have hbs := block_lt (HR.out w2 HR2.out).1
  have HN := hide (HR.out w2 HR2.out).2.2
  clear hDL0 b1 b2 cq b3
  go_wp2
  go_loopg [9, 11, 59] L (fun g' v9 v11 v59 wx => ∃ (j : Nat) (K : List Nat), L - j = g' ∧ j ≤ L ∧ v59 = .int .i64 j ∧ K = (l.take j).filter (stays mc above thr) ∧ v9 = .slice (some ⟨g, 0, none⟩) (hd + K.length) cp ∧ DL N w2 wx g hd cp mc l j K)
  case atStart => exact ⟨0, [], rfl, by omega, rfl, by simp, rfl, HD0.out⟩
  case round =>
    obtain ⟨j, K, rfl, hj, rfl, hK, rfl, hD⟩ := hrel
    have HD := hide hD
    have HK := hide hK
    have hkj := hD.klen
    clear hK
    by_cases hlt : j < L
    · have hlt' : (j : Int) < (L : Int) := by omega
      have hjl : j < l.length := by omega
      have k0 : wr.cell? ⟨g, hd * 6 + j * 6, none⟩ = some (.int .i64 (mc l[j]!).ts) := by have := hD.cell hjl (c := 0) (by omega); rw [Nat.add_mul] at this; exact this
      have k1 : wr.cell? ⟨g, hd * 6 + j * 6 + 1, none⟩ = some (.int .u16 (mc l[j]!).fr) := by have := hD.cell hjl (c := 1) (by omega); rw [Nat.add_mul] at this; exact this
      have k2 : wr.cell? ⟨g, hd * 6 + j * 6 + 2, none⟩ = some (.int .u16 (mc l[j]!).tt) := by have := hD.cell hjl (c := 2) (by omega); rw [Nat.add_mul] at this; exact this
      have k3 : wr.cell? ⟨g, hd * 6 + j * 6 + 3, none⟩ = some (.bool (mc l[j]!).ack) := by have := hD.cell hjl (c := 3) (by omega); rw [Nat.add_mul] at this; exact this
      have k4 : wr.cell? ⟨g, hd * 6 + j * 6 + 4, none⟩ = some (.bool (mc l[j]!).be) := by have := hD.cell hjl (c := 4) (by omega); rw [Nat.add_mul] at this; exact this
      have k5 : wr.cell? ⟨g, hd * 6 + j * 6 + 5, none⟩ = some (.slice (mc l[j]!).pa (mc l[j]!).pl (mc l[j]!).pc) := by have := hD.cell hjl (c := 5) (by omega); rw [Nat.add_mul] at this; exact this
      clear hD
      obtain ⟨i, hi⟩ : ∃ i, i = l[j]! := ⟨_, rfl⟩
      rw [← hi] at k0 k1 k2 k3 k4 k5
      have HIJ := hide hi
      clear hi
      obtain ⟨mi, hmi⟩ : ∃ mi, mi = mc i := ⟨_, rfl⟩
      rw [← hmi] at k0 k1 k2 k3 k4 k5
      have HMI := hide hmi
      clear hmi
      obtain ⟨t, sx, o, ak, be, pa, pl, pc⟩ := mi
      simp only at k0 k1 k2 k3 k4 k5
      have HF := hide (show stays mc above thr i = true → K ++ [i] = (l.take (j + 1)).filter (stays mc above thr) from fun hs => by rw [HK.out, take_filter_keep [] hjl (by rw [← HIJ.out]; exact hs), ← HIJ.out])
      have HF' := hide (show stays mc above thr i = false → K = (l.take (j + 1)).filter (stays mc above thr) from fun hs => by rw [HK.out, take_filter_drop [] hjl (by rw [← HIJ.out]; exact hs)])
      have HSP := hide (fun o1 o2 (j' : Nat) (hj' : j' < 6) => ((HD.out.alloc HN.out o1).alloc HN.out o2).there (o := 0 + (hd + K.length) * 6 + j') (by omega))
      by_cases p0 : t ≤ above
      · go_wp2_with (at_builtin; refine wpList_append_room _ rfl (.tmp 73) (.tmp 75) 63 rfl 65 i1 6 Try.underlying63 HI.out.1 HI.out.2.2.1 g 0 (hd + K.length) cp rfl ⟨wr.heap.size + 1, 0, none⟩ 1 1 [.int .i64 t, .int .u16 sx, .int .u16 o, .bool ak, .bool be, .slice pa pl pc] rfl rfl (World.news_of_block (second_new _ _ _)) (six_one _ _ _ _ _ _ _ _) (by omega) (HSP.out _ _) ?_)
        go_roundg (L - (j + 1))
        case measure => omega
        case rel => exact ⟨j + 1, K ++ [i], rfl, by omega, by go_num, HF.out (by simp [stays, ← HMI.out, p0]), by simp [Nat.add_assoc], HD.out.keep2 HN.out hNg hjl (by omega) HIJ.out HMI.out _ _⟩
      · have d0 : decide (t ≤ above) = false := by simpa using p0
        by_cases p1 : thr < t
        · have d1 : decide (thr < t) = true := by simpa using p1
          go_wp2_with (at_builtin; refine wpList_append_room _ rfl (.tmp 73) (.tmp 75) 63 rfl 65 i1 6 Try.underlying63 HI.out.1 HI.out.2.2.1 g 0 (hd + K.length) cp rfl ⟨wr.heap.size + 1, 0, none⟩ 1 1 [.int .i64 t, .int .u16 sx, .int .u16 o, .bool ak, .bool be, .slice pa pl pc] rfl rfl (World.news_of_block (second_new _ _ _)) (six_one _ _ _ _ _ _ _ _) (by omega) (HSP.out _ _) ?_)
          go_roundg (L - (j + 1))
          case measure => omega
          case rel => exact ⟨j + 1, K ++ [i], rfl, by omega, by go_num, HF.out (by simp [stays, ← HMI.out, p0, p1]), by simp [Nat.add_assoc], HD.out.keep2 HN.out hNg hjl (by omega) HIJ.out HMI.out _ _⟩
        · have d1 : decide (thr < t) = false := by simpa using p1
          go_wp2_with fail
          go_roundg (L - (j + 1))
          case measure => omega
          case rel => exact ⟨j + 1, K, rfl, by omega, by go_num, HF'.out (by simp [stays, ← HMI.out, p0, p1]), rfl, (HD.out.alloc HN.out _).drop⟩
    · have e : j = L := by omega
      subst e
      have hKl : K = l.filter (stays mc above thr) := by rw [HK.out, List.take_of_length_le (by omega)]
      have hbb := (hD.old b hbs (Ne.symm hgb)).trans (HR.out w2 HR2.out).1
      have b1 : wr.cell? ⟨b, 1, none⟩ = some (.slice (some ⟨g, 0, none⟩) (hd + j) cp) := by rw [cell_of hbb]; rfl
      clear hD hbb HK
      have HKL := hide hKl
      clear hKl
      by_cases hKj : K.length = j
      · subst hKj
        have hcl : ∀ ad c, (Builtin.clear_ #[63] 0 #[.slice ad 0 c]).run Try.prog wr = .ok (.tuple #[]) wr := fun ad c => run_clear_none wr 63 65 0 Try.underlying63 ad c
        by_cases hce : cp = hd + K.length
        · subst hce
          go_upto_region 11 with fail
          clear hcl
          have hbb := (HD.out.old b hbs (Ne.symm hgb)).trans (HR.out w2 HR2.out).1
          have b2 : wr.cell? ⟨b, 2, none⟩ = some (.int .i64 hd) := by rw [cell_of hbb]; rfl
          have fb1 : wr.frozen? ⟨b, 1, none⟩ = false := frozen_of hbb
          have fb2 : wr.frozen? ⟨b, 2, none⟩ = false := frozen_of hbb
          clear hbb
          go_upto_region 12 with fail
          have e1 : ((hd : Int) == (hd : Int) + (K.length : Int)) = false := by simp; omega
          have HC := hide (HP.out w2 HR2.out wr (HKL.out ▸ HD.out) (by rw [← HKL.out]; intro e; simp [e] at h0))
          rw [← HKL.out] at HC
          go_quiet (fail)
          go_wp2_with fail
          refine Calls.mono (HC.out _ (by repeat (first | exact Drawn.refl _ | apply Drawn.next | apply Drawn.drew))) ?_
          rintro e w9 ⟨rfl, hP9⟩
          have HP9 := hide hP9
          clear hP9
          go_wp2
          go_end0
          exact ⟨rfl, HP9.out⟩
        · have hce2 := hce
          go_upto_region 11 with fail
          clear hcl
          have hbb := (HD.out.old b hbs (Ne.symm hgb)).trans (HR.out w2 HR2.out).1
          have b2 : wr.cell? ⟨b, 2, none⟩ = some (.int .i64 hd) := by rw [cell_of hbb]; rfl
          have fb1 : wr.frozen? ⟨b, 1, none⟩ = false := frozen_of hbb
          have fb2 : wr.frozen? ⟨b, 2, none⟩ = false := frozen_of hbb
          clear hbb
          go_upto_region 12 with fail
          have e1 : ((hd : Int) == (hd : Int) + (K.length : Int)) = false := by simp; omega
          have HC := hide (HP.out w2 HR2.out wr (HKL.out ▸ HD.out) (by rw [← HKL.out]; intro e; simp [e] at h0))
          rw [← HKL.out] at HC
          go_quiet (fail)
          go_wp2_with fail
          refine Calls.mono (HC.out _ (by repeat (first | exact Drawn.refl _ | apply Drawn.next | apply Drawn.drew))) ?_
          rintro e w9 ⟨rfl, hP9⟩
          have HP9 := hide hP9
          clear hP9
          go_wp2
          go_end0
          exact ⟨rfl, HP9.out⟩
      · have hne : ¬ cp = hd + K.length := by omega
        obtain ⟨wz, hwz⟩ : ∃ wz, wz = wr.setCells g ((hd + K.length) * 6) (Builtin.zeroCells (Value.agg zeroMsg).cells (hd + j - (hd + K.length))).toList := ⟨_, rfl⟩
        have hcl : (Builtin.clear_ #[63] 0 #[.slice (some ⟨g, (hd + K.length) * 6, none⟩) (hd + j - (hd + K.length)) (cp - (hd + K.length))]).run Try.prog wr = .ok (.tuple #[]) wz := by
          rw [hwz]
          exact run_clear_any wr 63 65 0 (.agg zeroMsg) Try.underlying63 zero65 g _ _ _ (zeros_one _) (fun j' hj' => (HD.out.there (by rw [zeros_len] at hj'; omega)).1) (fun j' hj' => (HD.out.there (by rw [zeros_len] at hj'; omega)).2) (by omega)
        have HDz := hide (show DL N w2 wz g hd cp mc l j K by
          rw [hwz]
          have := HD.out
          subst hL
          exact this.wipe hNg (by omega) _ (by rw [zeros_len]; omega))
        clear hwz
        go_upto_region 11 with fail
        refine gen_world (fun wr => DL N w2 wr g hd cp mc l j K) HDz.out ?_
        intro wc hDc
        have hbb := (hDc.old b hbs (Ne.symm hgb)).trans (HR.out w2 HR2.out).1
        have b1 : wc.cell? ⟨b, 1, none⟩ = some (.slice (some ⟨g, 0, none⟩) (hd + j) cp) := by rw [cell_of hbb]; rfl
        have b2 : wc.cell? ⟨b, 2, none⟩ = some (.int .i64 hd) := by rw [cell_of hbb]; rfl
        have fb1 : wc.frozen? ⟨b, 1, none⟩ = false := frozen_of hbb
        have fb2 : wc.frozen? ⟨b, 2, none⟩ = false := frozen_of hbb
        have HDc := hide hDc
        clear hDc hbb
        go_upto_region 12 with fail
        by_cases hK0 : K.length = 0
        · obtain rfl : K = [] := List.eq_nil_of_length_eq_zero hK0
          simp only [List.length_nil, Nat.add_zero]
          have e1 : ((hd : Int) == (hd : Int)) = true := by simp
          go_quiet (fail)
          go_wp2
          refine bodyPost_ret (results_none rfl _ _ _) rfl ?_
          exact ⟨by trivial, HE.out w2 HR2.out wc (HKL.out ▸ HDc.out) HKL.out.symm _ (by repeat (first | exact Drawn.refl _ | apply Drawn.next | apply Drawn.drew))⟩
        · have e1 : ((hd : Int) == (hd : Int) + (K.length : Int)) = false := by simp; omega
          have HC := hide (HP.out w2 HR2.out wc (HKL.out ▸ HDc.out) (by rw [← HKL.out]; intro e; simp [e] at hK0))
          rw [← HKL.out] at HC
          go_quiet (fail)
          go_wp2_with fail
          refine Calls.mono (HC.out _ (by repeat (first | exact Drawn.refl _ | apply Drawn.next | apply Drawn.drew))) ?_
          rintro e w9 ⟨rfl, hP9⟩
          have HP9 := hide hP9
          clear hP9
          go_wp2
          go_end0
          exact ⟨rfl, HP9.out⟩

end Go.Proofs.Qxb6601345a
