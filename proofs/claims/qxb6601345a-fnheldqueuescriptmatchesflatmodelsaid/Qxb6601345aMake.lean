import Derived.Test.Qxb6601345aMade
import Derived.Deep.RegionLaw
import Derived.Deep.AppendLies
namespace Go.Proofs.Qxb6601345a
open Go.RowKit Go.Maps
set_option linter.unusedVariables false
set_option linter.unusedSimpArgs false

theorem Below.cellOf {N : Nat} {w wr : World} (h : Below N w wr) {b o : Nat} (hb : b < N) : wr.cell? ⟨b, o, none⟩ = w.cell? ⟨b, o, none⟩ := World.cell?_of_block (h.block b hb)

theorem new_facts {N bm : Nat} {wd w2 w3 : World} {ov : Value} {obj o : Obj} (hN : N ≤ wd.heap.size) (hbm : N ≤ bm) (lbm : bm < wd.heap.size) (hov : ∀ g, ov.ownBlock = some g → N ≤ g ∧ g < wd.heap.size) (hne : ∀ g, ov.ownBlock = some g → g ≠ bm)
    (hg2 : ((wd.alloc obj).drew).grownBy w2 (some bm)) (hg : (w2.alloc o).grownBy w3 ov.ownBlock) :
    Below N wd w3 ∧ (∀ c, c < wd.heap.size → c ≠ bm → some c ≠ ov.ownBlock → w3.heap[c]? = wd.heap[c]?) ∧ w3.heap[wd.heap.size]? = some obj ∧ w3.heap[bm]? = w2.heap[bm]? := by
  have e1 : (wd.alloc obj).drew.heap.size = wd.heap.size + 1 := alloc_size _ _
  have hsz : wd.heap.size + 1 ≤ w2.heap.size := by have := hg2.size; omega
  have e2 : (w2.alloc o).heap.size = w2.heap.size + 1 := alloc_size _ _
  have st : ∀ c, c < wd.heap.size + 1 → c ≠ bm → some c ≠ ov.ownBlock → w3.heap[c]? = (wd.alloc obj).heap[c]? := fun c h1 h2 h3 => by
    rw [hg.block c (by omega) h3, Below.heap_alloc _ _ _ (by omega), hg2.block c (by omega) (by simpa using h2)]; rfl
  refine ⟨?_, fun c h1 h2 h3 => ?_, ?_, ?_⟩
  · have b1 : Below N wd (wd.alloc obj).drew := ((Below.refl _ _).alloc hN obj).trans ⟨rfl, rfl, rfl, Nat.le_refl _, fun _ _ => rfl⟩
    have b2 := b1.grown hg2 (by omega) (fun k hk => by cases hk; exact hbm)
    exact (b2.alloc (by omega) o).grown hg (by omega) (fun k hk => (hov k hk).1)
  · rw [st c (by omega) h2 h3]; exact Below.heap_alloc _ _ _ h1
  · rw [st _ (by omega) (by omega) (fun e => by have := (hov _ e.symm).2; omega)]; exact alloc_new _ _
  · rw [hg.block bm (by omega) (fun e => hne _ e.symm rfl), Below.heap_alloc _ _ _ (by omega)]

theorem push_facts {N b s k cap g : Nat} {wc w1 : World} {v : Value} {o : Obj} {xs : List Value} (hrun : wc.heap[b]? = some (runObj s v)) (hNb : N ≤ b) (hN : N ≤ wc.heap.size) (hbs : ∀ g, v.ownBlock = some g → N ≤ g ∧ g < wc.heap.size ∧ g ≠ b)
    (hgrow : (wc.alloc o).drew.grownBy w1 v.ownBlock) (hown : w1.ownsRow N 65 6 (.slice (some ⟨g, 0, none⟩) k cap) k xs) (hat : v.ownBlock = some g ∨ g = wc.heap.size + 1) :
    Below N wc (w1.setCell ⟨b, 1, none⟩ (.slice (some ⟨g, 0, none⟩) k cap)) ∧ (∀ c, c < wc.heap.size → c ≠ b → some c ≠ v.ownBlock → (w1.setCell ⟨b, 1, none⟩ (.slice (some ⟨g, 0, none⟩) k cap)).heap[c]? = wc.heap[c]?) ∧
    (w1.setCell ⟨b, 1, none⟩ (.slice (some ⟨g, 0, none⟩) k cap)).heap[b]? = some (runObj s (.slice (some ⟨g, 0, none⟩) k cap)) ∧ (w1.setCell ⟨b, 1, none⟩ (.slice (some ⟨g, 0, none⟩) k cap)).ownsRow N 65 6 (.slice (some ⟨g, 0, none⟩) k cap) k xs ∧
    ((Value.slice (some ⟨g, 0, none⟩) k cap).ownBlock = v.ownBlock ∨ ∃ g', (Value.slice (some ⟨g, 0, none⟩) k cap).ownBlock = some g' ∧ wc.heap.size ≤ g') := by
  have e1 : (wc.alloc o).drew.heap.size = wc.heap.size + 1 := alloc_size _ _
  have lb := block_lt hrun
  have st : ∀ c, c < wc.heap.size → some c ≠ v.ownBlock → w1.heap[c]? = wc.heap[c]? := fun c h1 h3 => by
    rw [hgrow.block c (by omega) h3]; exact Below.heap_alloc _ _ _ h1
  have hb1 : w1.heap[b]? = some (runObj s v) := (st b lb (fun e => (hbs b e.symm).2.2 rfl)).trans hrun
  have hgb : g ≠ b := by
    rcases hat with h1 | h1
    · exact (hbs g h1).2.2
    · omega
  refine ⟨?_, fun c h1 h2 h3 => ?_, ?_, owns_keep hown fun g' hg' => ?_, ?_⟩
  · have b1 : Below N wc (wc.alloc o).drew := ((Below.refl _ _).alloc hN o).trans ⟨rfl, rfl, rfl, Nat.le_refl _, fun _ _ => rfl⟩
    exact (b1.grown hgrow (by omega) (fun k hk => (hbs k hk).1)).setCell hNb _
  · rw [set_other _ h2]; exact st c h1 h3
  · rw [set_block (e := 80) (f := (0, 0)) hb1]; rfl
  · cases hg'; exact set_other _ hgb
  · rcases hat with h1 | h1
    · exact .inl h1.symm
    · exact .inr ⟨g, rfl, by omega⟩

theorem Try.info65 : (Try.prog.info? 65).map (fun i => (i.zero, i.size, i.bytes)) = some (some (.agg zeroMsg), 6, 40) := by kernel_rfl

theorem cells_one (v : MsgV) : ∀ u ∈ v.cells.toList, u.oneCell' = true := by
  intro u hu
  simp [MsgV.cells] at hu
  rcases hu with rfl | rfl | rfl | rfl | rfl | rfl <;> rfl

/-- The messages in the row S. -/
def Src (w : World) (S M : Nat) (mc : Nat → MsgV) : Prop := S < w.heap.size ∧ ∀ i, i < M → ∀ c, c < 6 → w.cell? ⟨S, i * 6 + c, none⟩ = (mc i).cells[c]?

set_option maxHeartbeats 1600000 in
theorem make_any (w : World) (S M cp : Nat) (mc : Nat → MsgV) (hS : Src w S M mc) (hM : M ≤ 4096) (hfr : ∀ i, i < M → (mc i).fr < 65536) :
    Calls Try.prog 33 #[.slice (some ⟨S, 0, none⟩) M cp] w fun e w' => ∃ m bk snd, e = .returned (.pointer (some ⟨w.heap.size + 1, 0, none⟩)) ∧
      (∃ rc at_ n H, QI w.heap.size w' (w.heap.size + 1) (.map (some w.heap.size)) (.pointer none) m bk snd mc (fun x => idsTo mc M (snd x)) rc at_ n H) ∧ QMap w' w.heap.size m bk snd ∧ (∀ x, x < m → ∀ y, y < m → x ≠ y → snd x ≠ snd y) ∧ (∀ j, j < M → ∃ x, x < m ∧ snd x = (mc j).fr) ∧ Below w.heap.size w w' := by
  have hmm := @run_makeMap Try.prog
  obtain ⟨i0, hi0, hz0, hz1, hz2⟩ := info_parts Try.info76
  have HI := hide (And.intro hi0 (And.intro hz0 (And.intro hz1 hz2)))
  clear hi0 hz0 hz1 hz2
  obtain ⟨i1, hi0, hz0, hz1, hz2⟩ := info_parts Try.info65
  have HJ := hide (And.intro hi0 (And.intro hz0 (And.intro hz1 hz2)))
  clear hi0 hz0 hz1 hz2
  have HSR := hide hS
  have HFR := hide hfr
  clear hS hfr
  go_enter Try.func33, Try.ntmps33
  go_upto_block 0 with fail
  go_cut [4, 5, 6] from 11 to 62 (fun vo vi vr wx => ∃ m bk snd vs ov, vo = ov ∧ Made w.heap.size w (w.heap.size + 1) w.heap.size mc M M m bk snd vs ov wx)
  case first =>
    go_wp2
    go_loopg [4, 5, 6] M (fun g vo vi vr wr => ∃ i m bk snd vs ov, M - i = g ∧ i ≤ M ∧ vi = .int .i64 (i : Nat) ∧ vo = ov ∧ Made w.heap.size w (w.heap.size + 1) w.heap.size mc i i m bk snd vs ov wr)
    case atStart =>
      refine ⟨0, 0, fun _ => 0, fun _ => 0, fun _ => .slice none 0 0, .slice none 0 0, rfl, by omega, rfl, rfl, ?_⟩
      refine ⟨((Below.refl _ _).alloc (Nat.le_refl _) _).alloc (by simp) _, ?_, by omega, by omega, ⟨fun _ => none, (MapIs.made w).keep (Below.heap_alloc _ _ _ (by simp)), fun x hx => by omega, fun s _ => rfl⟩, World.ownsRow_nil _ _ _ _, fun x hx => by omega, fun x hx => by omega, fun x hx => by omega, fun x hx => by omega, fun x hx => by omega,
        fun x hx => by omega, fun j hj => by omega, by omega⟩
      have := alloc_new (w.alloc (.map #[] 0)) (.cells #[.map (some w.heap.size), .slice none 0 0, .pointer none] 78)
      rw [alloc_size] at this
      exact this
    case round =>
      obtain ⟨i, m, bk, snd, vs, ov, rfl, hi, rfl, rfl, hM'⟩ := hrel
      by_cases hlt : i < M
      · have hlt' : (i : Int) < (M : Int) := by omega
        have hfi := HFR.out i hlt
        obtain ⟨f, hf, hf1, hf2⟩ := hM'.map
        have hlook : ∀ k, (Instr.lookup 73 (.map (some w.heap.size)) (.int .u16 (mc i).fr) false).run Try.prog (wr.drewN k) = .ok (ptrOpt (f (mc i).fr)) (wr.drewN k) := fun k => (hf.keep (w' := wr.drewN k) rfl).lookup hfi
        have q0 : wr.cell? ⟨w.heap.size + 1, 0, none⟩ = some (.map (some w.heap.size)) := by rw [cell_of hM'.qc]; rfl
        have s1 : wr.cell? ⟨S, i * 6 + 1, none⟩ = some (.int .u16 (mc i).fr) := by rw [Below.cellOf hM'.below HSR.out.1]; exact HSR.out.2 i hlt 1 (by omega)
        have HM' := hide hM'
        have HF := hide (And.intro hf (And.intro hf1 hf2))
        clear hf hf1 hf2 hM'
        go_upto_region 6 with fail
        go_quiet (fail)
        clear hlook
        have s1' : (wr.drewN nq).cell? ⟨S, i * 6 + 1, none⟩ = some (.int .u16 (mc i).fr) := s1
        have q0' : (wr.drewN nq).cell? ⟨w.heap.size + 1, 0, none⟩ = some (.map (some w.heap.size)) := q0
        have HMd := hide (HM'.out.same (w' := wr.drewN nq) ⟨rfl, rfl, rfl, Nat.le_refl _, fun _ _ => rfl⟩ (fun _ _ => rfl))
        have HFd := hide (And.intro (HF.out.1.keep (w' := wr.drewN nq) rfl) HF.out.2)
        clear s1 q0 HM' HF
        generalize wr.drewN nq = wd at *
        go_step
        go_step
        go_step
        go_cut [4, 6] from 26 to 49 (fun vo vr wx => ∃ m bk snd vs ov x, vo = ov ∧ vr = .pointer (some ⟨bk x, 0, none⟩) ∧ x < m ∧ snd x = (mc i).fr ∧ Made w.heap.size w (w.heap.size + 1) w.heap.size mc i (i + 1) m bk snd vs ov wx)
        case first =>
          by_cases hx : ∃ x, x < m ∧ snd x = (mc i).fr
          · obtain ⟨x, hx, e⟩ := hx
            have hb := HFd.out.2.1 x hx
            rw [e] at hb
            rw [hb]
            simp only [ptrOpt]
            have HE := hide e
            clear hb e
            go_wp2
            go_meet
            case rel => exact ⟨m, bk, snd, vs, _, x, rfl, rfl, hx, HE.out, HMd.out.found hx HE.out⟩
          · have hx' : ∀ x, x < m → snd x ≠ (mc i).fr := fun x h1 h2 => hx ⟨x, h1, h2⟩
            have hb := HFd.out.2.2 _ hx'
            rw [hb]
            simp only [ptrOpt]
            have HX := hide hx'
            clear hb hx hx'
            have lq := block_lt HMd.out.qc
            have lS : S < wd.heap.size := Nat.lt_of_lt_of_le HSR.out.1 HMd.out.below.size
            have lbm := HFd.out.1.lt
            have hmi := HMd.out.mi
            obtain ⟨w2, hupd, hmap2, hg2⟩ := (HFd.out.1.keep (w' := (wd.alloc (.cells #[.int .u16 (mc i).fr, .slice none 0 0, .int .i64 0, .int .i64 0] 80)).drew) (Below.heap_alloc _ _ _ lbm)).update (by unfold maxLen; omega) hfi wd.heap.size
            have HM2 := hide hmap2
            have HG2 := hide hg2
            clear hmap2 hg2
            go_upto_region 9 with fail
            go_region
            clear hupd
            have HO := hide (owns_keep HMd.out.order (w' := w2) fun g hg => by
              obtain ⟨c, hc⟩ := owns_type HMd.out.order hg
              have hlg := block_lt hc
              obtain ⟨es, cl, hmo⟩ := HFd.out.1.obj
              rw [HG2.out.block g (by show g < (wd.alloc _).heap.size; rw [alloc_size]; omega) (fun e => by cases e; rw [hmo] at hc; cases hc)]
              exact Below.heap_alloc _ _ _ hlg)
            have hsz : wd.heap.size + 1 ≤ w2.heap.size := by have := HG2.out.size; rw [show ((wd.alloc (.cells #[.int .u16 (mc i).fr, .slice none 0 0, .int .i64 0, .int .i64 0] 80)).drew).heap.size = wd.heap.size + 1 from alloc_size _ _] at this; exact this
            have hNw : w.heap.size ≤ wd.heap.size := HMd.out.below.size
            go_wp2_with (at_builtin; refine wpList_append2 _ rfl (.tmp 46) (.tmp 48) 74 rfl w.heap.size 76 i0 _ 1 8 Try.underlying74 HI.out.1 HI.out.2.1 HI.out.2.2.1 HI.out.2.2.2 rfl (by decide) _ _ _ rfl (HO.out.alloc _) ⟨w2.heap.size, 0, none⟩ 1 1 [.pointer (some ⟨wd.heap.size, 0, none⟩)] rfl rfl ?c2 ?c3 ?c4 ?c5 ?c6 ?c7)
            case c2 => exact one_cell _ _ _ _ rfl
            case c3 => intro u hu; simp at hu; subst hu; rfl
            case c4 => unfold maxLen; omega
            case c5 => omega
            case c6 => simp; omega
            case c7 =>
              intro v' w3 hown hg hblk
              have HN := hide (by
                have hov : ∀ g, u4.ownBlock = some g → w.heap.size ≤ g ∧ g < wd.heap.size := fun g hg => HMd.out.order.lt g hg
                obtain ⟨t1, t2, t3, t4⟩ := new_facts hNw (Nat.le_refl _) lbm hov (fun g hg e => by
                  obtain ⟨c, hc⟩ := owns_type HMd.out.order hg
                  obtain ⟨es, cl, hmo⟩ := HFd.out.1.obj
                  rw [e, hmo] at hc; cases hc) HG2.out hg
                exact HMd.out.new (w3 := w3) (ov' := v') (n' := 0) HX.out HFd.out.2 t1 t2 t3 (HM2.out.keep t4) hown hNw)
              clear hown hg hblk
              go_wp2
              go_meet
              case rel => exact ⟨m + 1, _, _, _, v', m, rfl, by simp [upd], by omega, by simp [upd], HN.out⟩
        case rest =>
          obtain ⟨m1, bk1, snd1, vs1, ov1, x, rfl, rfl, hx, hsx, hMd⟩ := hcut
          have lS : S < wc.heap.size := Nat.lt_of_lt_of_le HSR.out.1 hMd.below.size
          have sc := fun c (hc : c < 6) => (Below.cellOf (o := i * 6 + c) hMd.below HSR.out.1).trans (HSR.out.2 i hlt c hc)
          have s0 : wc.cell? ⟨S, i * 6, none⟩ = some (.int .i64 (mc i).ts) := sc 0 (by omega)
          have s1 : wc.cell? ⟨S, i * 6 + 1, none⟩ = some (.int .u16 (mc i).fr) := sc 1 (by omega)
          have s2 : wc.cell? ⟨S, i * 6 + 2, none⟩ = some (.int .u16 (mc i).tt) := sc 2 (by omega)
          have s3 : wc.cell? ⟨S, i * 6 + 3, none⟩ = some (.bool (mc i).ack) := sc 3 (by omega)
          have s4 : wc.cell? ⟨S, i * 6 + 4, none⟩ = some (.bool (mc i).be) := sc 4 (by omega)
          have s5 : wc.cell? ⟨S, i * 6 + 5, none⟩ = some (.slice (mc i).pa (mc i).pl (mc i).pc) := sc 5 (by omega)
          have b1 : wc.cell? ⟨bk1 x, 1, none⟩ = some (vs1 x) := by rw [cell_of (hMd.run x hx)]; rfl
          have fb : wc.frozen? ⟨bk1 x, 1, none⟩ = false := frozen_of (hMd.run x hx)
          have HR := hide (hMd.row x hx)
          have lb := block_lt (hMd.run x hx)
          have HMc := hide hMd
          have HSX := hide hsx
          clear sc hMd hsx HMd HFd s1' q0'
          have hNw : w.heap.size ≤ wc.heap.size := HMc.out.below.size
          have hil : (idsTo mc i (snd1 x)).length ≤ i := idsTo_len _ _ _
          have hbS : ∀ g, (vs1 x).ownBlock = some g → w.heap.size ≤ g ∧ g < wc.heap.size ∧ g ≠ bk1 x := fun g hg => by
            obtain ⟨c, hc⟩ := owns_type HR.out hg
            refine ⟨(HR.out.lt g hg).1, (HR.out.lt g hg).2, fun e => ?_⟩
            have := HMc.out.run x hx
            rw [← e, hc] at this
            simp [runObj] at this
          have HBS := hide hbS
          clear hbS
          go_upto_region 11 with fail
          go_region_law ((refine step_append_lies _ rfl (.tmp 54) (.tmp 59) 63 rfl w.heap.size 65 i1 _ 6 40 Try.underlying63 HJ.out.1 HJ.out.2.1 HJ.out.2.2.1 HJ.out.2.2.2 rfl (by decide) (vs1 x) _ _ rfl (owns_keep HR.out (fun g hg => Below.heap_alloc _ _ _ (HR.out.lt g hg).2)) ⟨wc.heap.size, 0, none⟩ 1 1 (mc i).cells.toList rfl rfl (World.news_of_block (alloc_new _ _)) (cells_one _) (by decide) (by unfold maxLen; omega) (by omega) (by simp; omega) _ rfl ?_; intro g cap w1 hown hgrow hat hlt; have hbb := ((hgrow.block (bk1 x) (by simp; omega) (fun e => (HBS.out _ e.symm).2.2 rfl)).trans (Below.heap_alloc _ _ _ lb)); have b1' := (World.cell?_of_block (a := ⟨bk1 x, 1, none⟩) hbb).trans b1; have fb' := (World.frozen?_of_block (a := ⟨bk1 x, 1, none⟩) hbb).trans fb))
          all_goals
            have HP := hide (push_facts (HMc.out.run x hx) (HMc.out.kN x hx) hNw HBS.out hgrow hown (by simpa using hat))
            clear hown hgrow hat hlt b1' fb' hbb b1 fb s0 s1 s2 s3 s4 s5
            go_wp2
            go_roundg (M - (i + 1))
            case measure => omega
            case rel =>
              obtain ⟨p1, p2, p3, p4, p5⟩ := HP.out
              exact ⟨i + 1, m1, bk1, snd1, _, _, rfl, by omega, by go_num, rfl, HMc.out.push hx HSX.out p1 p2 p3 p4 p5⟩
      · have e : i = M := by omega
        subst e
        have HM' := hide hM'
        clear hM'
        go_wp2
        go_meet
        case rel => exact ⟨m, bk, snd, vs, _, rfl, HM'.out⟩
  case rest =>
    obtain ⟨m, bk, snd, vs, ov, rfl, hMd⟩ := hcut
    obtain ⟨rc, hqs, hsame, hrow, hginj, hgN⟩ := hMd.start hM
    have hmm2 := hMd.mi
    obtain ⟨oa, oc, hov, hcells⟩ : ∃ oa oc, u4 = .slice oa m oc ∧ (0 < m → ∃ ob, oa = some ⟨ob, 0, none⟩ ∧ ∃ cur, wc.heap[ob]? = some (.cells cur 76) ∧ ∀ k, k < m → cur[k]? = some (.pointer (some ⟨bk k, 0, none⟩))) := by
      rcases hMd.order.2 with ⟨e, e0⟩ | ⟨g, cap, cur, e, _, h3, h4, h5, h6, h7⟩
      · exact ⟨none, 0, by rw [e, e0], fun h' => by omega⟩
      · refine ⟨_, cap, e, fun _ => ⟨g, rfl, cur, h3, fun k hk => ?_⟩⟩
        have e1 := ptrsB_at m bk k hk
        rw [← h7, Nat.mul_one, List.getElem?_take, if_pos hk, Array.getElem?_toList] at e1
        exact e1
    subst hov
    have HN0 := hide (show ∀ z, (Value.slice oa m oc).ownBlock = some z → NotTop wc (w.heap.size + 1) (.map (some w.heap.size)) (.pointer none) z from fun z hz ta tc k hq => by
      rw [hMd.qc] at hq
      simp at hq
      rw [← hq.1]
      simp [Value.ownBlock])
    have HMd := hide hMd
    have HQ0 := hide hqs
    have HW := hide (And.intro hsame (And.intro hrow (And.intro hginj hgN)))
    have HCE := hide hcells
    clear hMd hqs hsame hrow hginj hgN hcells
    have HIDS := hide (show ∀ x, x < m → idsTo mc M (snd x) ≠ [] from fun x hx => by
      obtain ⟨j, hj, e⟩ := HMd.out.src x hx
      exact List.ne_nil_of_mem (mem_idsTo.2 ⟨hj, e⟩))
    have HNW := hide (show w.heap.size ≤ wc.heap.size from HMd.out.below.size)
    have hm4 : m ≤ 4096 := by omega
    go_upto_block 3 with fail
    go_loopg [7] m (fun g vk wr => ∃ k at_ H, m - k = g ∧ k ≤ m ∧ vk = .int .i64 (k : Nat) ∧ Pushed w.heap.size wc (w.heap.size + 1) (.map (some w.heap.size)) (.pointer none) m rc (tsOf mc fun x => idsTo mc M (snd x)) (.slice oa m oc) k at_ H wr)
    case atStart =>
      exact ⟨0, _, _, rfl, by omega, rfl, HQ0.out, fun k _ hk => by omega, fun x => ⟨fun ⟨j, hj, _⟩ => by omega, fun h' => by omega⟩, Fr.refl _ _ _, fun z hz => ⟨rfl, HN0.out z hz⟩⟩
    case round =>
      obtain ⟨k, at_, H, rfl, hkm, rfl, hP⟩ := hrel
      by_cases hlt : k < m
      · have hlt' : (k : Int) < (m : Int) := by omega
        obtain ⟨ob, rfl, cur, hob, hcur⟩ := HCE.out (by omega)
        have hob' := ((hP.ord ob rfl).1).trans hob
        have ck : wr.cell? ⟨ob, k, none⟩ = some (.pointer (some ⟨bk k, 0, none⟩)) := by rw [cell_of hob']; exact hcur k hlt
        have hkey : HeadIs wr (rc k) (tsOf mc (fun x => idsTo mc M (snd x)) k) (rc k).snd := by
          obtain ⟨i, l, e⟩ : ∃ i l, idsTo mc M (snd k) = i :: l := by
            cases e : idsTo mc M (snd k) with
            | nil => exact absurd e (HIDS.out k hlt)
            | cons i l => exact ⟨i, l, rfl⟩
          have hr := HW.out.2.1 k hlt
          rw [e] at hr
          have h1 := hr.headIs
          have hi : (mc i).fr = (rc k).snd := by
            rw [(HW.out.1 k hlt).2]
            exact (mem_idsTo.1 (by rw [e]; simp : i ∈ idsTo mc M (snd k))).2
          rw [hi] at h1
          rw [tsOf_eq (ids := fun x => idsTo mc M (snd x)) (x := k) e]
          obtain ⟨a1, a2, c, a3, a4⟩ := h1
          exact ⟨a1, a2, c, hP.fr.keep a3 (by simp), a4⟩
        have hnx : ∀ j, j < k → H j ≠ k := fun j hj e => by have := (hP.mem k).1 ⟨j, hj, e⟩; omega
        have HC := hide fun wd (hd : Drawn wr wd) => push_far w.heap.size wd (w.heap.size + 1) (.map (some w.heap.size)) (.pointer none) m rc at_ (tsOf mc fun x => idsTo mc M (snd x)) k H k
          (hP.qs.next (w' := wd) (fun _ _ => rfl) (by obtain ⟨d, rfl⟩ := hd; exact hP.qs.run) (by obtain ⟨d, rfl⟩ := hd; rfl) (by obtain ⟨d, rfl⟩ := hd; exact fun T c e => e) (by obtain ⟨d, rfl⟩ := hd; exact fun j hj => hP.qs.key _ ⟨j, hj, rfl⟩))
          (by obtain ⟨d, rfl⟩ := hd; exact Nat.le_trans HNW.out hP.fr.below.size) hlt hnx (by obtain ⟨d, rfl⟩ := hd; exact hkey) (by omega)
        rw [(HW.out.1 k hlt).1] at HC
        have HP := hide hP
        clear hkey hnx hob' hcur hP
        go_upto_region 15 with fail
        go_region_with (first | (go_at_call 39; refine Calls.mono (HC.out _ (by repeat (first | exact Drawn.refl _ | apply Drawn.next | apply Drawn.drew))) ?_; rintro e w5 ⟨rfl, at', k4, k5, k6, k7⟩))
        all_goals
          have HE := hide (And.intro k4 (And.intro k5 (And.intro k6 k7)))
          clear k4 k5 k6 k7 ck
          go_wp2
          go_roundg (m - (k + 1))
          case measure => omega
          case rel =>
            obtain ⟨k4, k5, k6, k7⟩ := HE.out
            have hdr : Drawn wr wr.drew := Drawn.drew (Drawn.refl wr)
            refine ⟨k + 1, at', _, rfl, by omega, by go_num, k4, heap_push (ltR_ord _ _) HP.out.heap, fun x => ?_, (HP.out.fr.drawn hdr).trans k6, fun z hz => ?_⟩
            · rw [mem_push, HP.out.mem]
              omega
            · obtain ⟨h1, h2⟩ := HP.out.ord z hz
              have h3 := HMd.out.order.lt z hz
              obtain ⟨cz, hcz⟩ := owns_type HMd.out.order hz
              obtain ⟨g1, g2⟩ := k7 z (Nat.lt_of_lt_of_le h3.2 HP.out.fr.below.size) (fun e => by rw [e, HMd.out.qc] at hcz; simp at hcz) (fun x hx e => by
                have := HP.out.qs.run x hx
                rw [← e, h1, hcz] at this
                simp [recObj] at this) h2
              exact ⟨g1.trans h1, g2⟩
      · have e : k = m := by omega
        subst e
        have HP := hide hP
        clear hP
        go_wp2
        go_ret
        obtain ⟨f, hf, hf1, hf2⟩ := HMd.out.map
        obtain ⟨es, cl, hmo⟩ := hf.obj
        refine ⟨k, bk, snd, rfl, ⟨rc, at_, k, H, HP.out.qs, HP.out.heap, HW.out.1, fun x hx => (HW.out.2.1 x hx).keep ?_, HW.out.2.2.1, HW.out.2.2.2, fun x hx => ?_, fun x hx i hi => (mem_idsTo.1 hi).2⟩,
          ⟨k, f, hf.keep (HP.out.fr.other _ hf.lt (fun c e f hc => by rw [hmo] at hc; cases hc)), hf1, hf2⟩, fun x hx y hy hxy => (HMd.out.inj x hx y hy hxy).2, HMd.out.cov, HMd.out.below.trans HP.out.fr.below⟩
        · obtain ⟨c, hc, _⟩ := (HW.out.2.1 x hx).arr
          rw [HP.out.fr.keep hc (by simp), hc]
        · rw [HP.out.mem]
          exact ⟨fun _ => HIDS.out x hx, fun _ => hx⟩

end Go.Proofs.Qxb6601345a
