import Derived.Test.Qxb6601345aQueue
namespace Go.Proofs.Qxb6601345a
open Go.RowKit
set_option linter.unusedVariables false
set_option linter.unusedSimpArgs false

theorem six_cells {w : World} {b : Nat} {e : TypeId} {v0 v1 v2 v3 v4 v5 : Value} (h : w.heap[b]? = some (.cells #[v0, v1, v2, v3, v4, v5] e)) :
    w.cell? ⟨b, 0, none⟩ = some v0 ∧ w.cell? ⟨b, 1, none⟩ = some v1 ∧ w.cell? ⟨b, 2, none⟩ = some v2 ∧ w.cell? ⟨b, 3, none⟩ = some v3 ∧ w.cell? ⟨b, 4, none⟩ = some v4 ∧ w.cell? ⟨b, 5, none⟩ = some v5 ∧ ∀ o, w.frozen? ⟨b, o, none⟩ = false := by
  refine ⟨?_, ?_, ?_, ?_, ?_, ?_, fun o => frozen_of h⟩ <;> (rw [cell_of h]; rfl)

/-- A message laid over the cells of another. -/
theorem over_six (w : World) (b : Nat) (cz : Array Value) (v0 v1 v2 v3 v4 v5 : Value) (N : Nat) (hN : N ≤ b) (h : w.heap[b]? = some (.cells cz 65)) :
    (∀ c, c ≠ b → ((((((w.setCell ⟨b, 0, none⟩ v0).setCell ⟨b, 1, none⟩ v1).setCell ⟨b, 2, none⟩ v2).setCell ⟨b, 3, none⟩ v3).setCell ⟨b, 4, none⟩ v4).setCell ⟨b, 5, none⟩ v5).heap[c]? = w.heap[c]?) ∧
    Fr N [65] w ((((((w.setCell ⟨b, 0, none⟩ v0).setCell ⟨b, 1, none⟩ v1).setCell ⟨b, 2, none⟩ v2).setCell ⟨b, 3, none⟩ v3).setCell ⟨b, 4, none⟩ v4).setCell ⟨b, 5, none⟩ v5) := by
  have s0 := set_block (o := 0) h v0
  have s1 := set_block (o := 1) s0 v1
  have s2 := set_block (o := 2) s1 v2
  have s3 := set_block (o := 3) s2 v3
  have s4 := set_block (o := 4) s3 v4
  refine ⟨fun c hc => ?_, ((((((Fr.refl N [65] w).set (o := 0) h (by simp) hN v0).set (o := 1) s0 (by simp) hN v1).set (o := 2) s1 (by simp) hN v2).set (o := 3) s2 (by simp) hN v3).set (o := 4) s3 (by simp) hN v4).set (o := 5) s4 (by simp) hN v5⟩
  rw [set_other _ hc, set_other _ hc, set_other _ hc, set_other _ hc, set_other _ hc, set_other _ hc]

set_option maxHeartbeats 1600000 in
theorem take_walk (N : Nat) (w : World) (q T b g n cap hd ln cp a : Nat) (mv lv : Value) (pa : Option Addr) (pl pc : Nat) (thr t : Int) (s o : Nat) (ak be : Bool) (cm : Array Value)
    (hq : w.heap[q]? = some (.cells #[mv, .slice (some ⟨T, 0, none⟩) (n + 1) cap, lv] 78))
    (hT : w.cell? ⟨T, 0, none⟩ = some (.pointer (some ⟨b, 0, none⟩)))
    (lT : T < w.heap.size) (hb : w.heap[b]? = some (.cells #[.int .u16 s, .slice (some ⟨g, 0, none⟩) ln cp, .int .i64 hd, .int .i64 a] 80))
    (hg : w.heap[g]? = some (.cells cm 65))
    (hm : ∀ c, c < 6 → cm[hd * 6 + c]? = (MsgV.mk t s o ak be pa pl pc).cells[c]?)
    (hNb : N ≤ b) (hNg : N ≤ g) (h1 : hd < ln) (h2 : ln ≤ 4096) (hn : n + 1 ≤ 4096) (hnc : n + 1 ≤ cap) (ht : ¬ thr < t) (R : World → Prop)
    (hpop : hd + 1 = ln → ∀ wr, TakeMid N w wr b g hd (.cells #[.int .u16 s, .slice (some ⟨g, 0, none⟩) ln cp, .int .i64 (hd + 1), .int .i64 a] 80) #[.int .i64 t, .int .u16 s, .int .u16 o, .bool ak, .bool be, .slice pa pl pc] → ∀ nq,
      Calls Try.prog 45 #[.pointer (some ⟨q, 1, none⟩)] (((wr.drewN nq).setCell ⟨b, 1, none⟩ (.slice (some ⟨g, 0, none⟩) 0 cp)).setCell ⟨b, 2, none⟩ (.int .i64 0)) fun e w' => e = .returned (.tuple #[]) ∧ R w' ∧ w'.heap[w.heap.size]? = some (.cells zeroMsg 65) ∧
        w'.heap[w.heap.size + 1]? = some (.cells #[.int .i64 t, .int .u16 s, .int .u16 o, .bool ak, .bool be, .slice pa pl pc] 65))
    (hdown : hd + 1 ≠ ln → ∀ wr, TakeMid N w wr b g hd (.cells #[.int .u16 s, .slice (some ⟨g, 0, none⟩) ln cp, .int .i64 (hd + 1), .int .i64 a] 80) #[.int .i64 t, .int .u16 s, .int .u16 o, .bool ak, .bool be, .slice pa pl pc] → ∀ nq,
      Calls Try.prog 46 #[.slice (some ⟨T, 0, none⟩) (n + 1 : Nat) cap, .int .i64 (0 : Nat)] (wr.drewN nq) fun e w' => e = .returned (.tuple #[]) ∧ R w' ∧ w'.heap[w.heap.size]? = some (.cells zeroMsg 65) ∧
        w'.heap[w.heap.size + 1]? = some (.cells #[.int .i64 t, .int .u16 s, .int .u16 o, .bool ak, .bool be, .slice pa pl pc] 65)) :
    Calls Try.prog 40 #[.pointer (some ⟨q, 0, none⟩), .int .i64 thr] w fun e w' => e = .returned (.tuple #[.agg (MsgV.mk t s o ak be pa pl pc).cells, .bool true]) ∧ ∃ w0, R w0 ∧ w0.heap[w.heap.size]? = some (.cells zeroMsg 65) ∧ (∀ c, c ≠ w.heap.size → w'.heap[c]? = w0.heap[c]?) ∧ Fr N [65] w0 w' := by
  have cq : w.cell? ⟨q, 1, none⟩ = some (.slice (some ⟨T, 0, none⟩) (n + 1) cap) := by rw [cell_of hq]; rfl
  have b1 : w.cell? ⟨b, 1, none⟩ = some (.slice (some ⟨g, 0, none⟩) ln cp) := by rw [cell_of hb]; rfl
  have b2 : w.cell? ⟨b, 2, none⟩ = some (.int .i64 hd) := by rw [cell_of hb]; rfl
  have fb2 : w.frozen? ⟨b, 2, none⟩ = false := frozen_of hb
  have fg := fun o => frozen_of (o := o) hg
  have m0 : w.cell? ⟨g, hd * 6, none⟩ = some (.int .i64 t) := by rw [cell_of hg]; exact hm 0 (by omega)
  have m1 : w.cell? ⟨g, hd * 6 + 1, none⟩ = some (.int .u16 s) := by rw [cell_of hg]; exact hm 1 (by omega)
  have m2 : w.cell? ⟨g, hd * 6 + 2, none⟩ = some (.int .u16 o) := by rw [cell_of hg]; exact hm 2 (by omega)
  have m3 : w.cell? ⟨g, hd * 6 + 3, none⟩ = some (.bool ak) := by rw [cell_of hg]; exact hm 3 (by omega)
  have m4 : w.cell? ⟨g, hd * 6 + 4, none⟩ = some (.bool be) := by rw [cell_of hg]; exact hm 4 (by omega)
  have m5 : w.cell? ⟨g, hd * 6 + 5, none⟩ = some (.slice pa pl pc) := by rw [cell_of hg]; exact hm 5 (by omega)
  have lq := block_lt hq
  have lb := block_lt hb
  have lg := block_lt hg
  have h1' : (hd : Int) < (ln : Int) := by omega
  have hgb : g ≠ b := by
    intro e
    rw [e, hb] at hg
    simp at hg
  have e0 : ((n : Int) + 1 == 0) = false := by simp; omega
  have e1 : decide (thr < t) = false := by simpa using ht
  have HP := hide hpop
  have HD := hide hdown
  have HQ := hide hq
  have HB := hide hb
  have HG := hide hg
  clear hq hb hg hm hpop hdown
  go_enter Try.func40, Try.ntmps40
  go_upto_region 4 with fail
  go_region
  go_upto_region 7 with fail
  go_region
  go_upto_region 9 with fail
  refine gen_world (TakeMid N w · b g hd (.cells #[.int .u16 s, .slice (some ⟨g, 0, none⟩) ln cp, .int .i64 (hd + 1), .int .i64 a] 80) #[.int .i64 t, .int .u16 s, .int .u16 o, .bool ak, .bool be, .slice pa pl pc]) ?_ ?_
  · exact take_mid N w b g hd ln cp a pa pl pc t s o ak be cm HB.out HG.out hgb hNb hNg
  · intro wr HM
    have c4 : ∀ c, wr.cell? ⟨w.heap.size, c, none⟩ = zeroMsg[c]? := fun c => cell_of HM.z
    have c40 := c4 0
    have c41 := c4 1
    have c42 := c4 2
    have c43 := c4 3
    have c44 := c4 4
    have c45 := c4 5
    have f4 : ∀ c, wr.frozen? ⟨w.heap.size, c, none⟩ = false := fun c => frozen_of HM.z
    have c70 : wr.cell? ⟨w.heap.size + 1, 0, none⟩ = some (.int .i64 t) := by rw [cell_of HM.m]; rfl
    have b1 : wr.cell? ⟨b, 1, none⟩ = some (.slice (some ⟨g, 0, none⟩) ln cp) := by rw [cell_of HM.rb]; rfl
    have b2 : wr.cell? ⟨b, 2, none⟩ = some (.int .i64 (hd + 1)) := by rw [cell_of HM.rb]; rfl
    have fb : ∀ c, wr.frozen? ⟨b, c, none⟩ = false := fun c => frozen_of HM.rb
    have hqg : q ≠ g := fun e => by have h1 := HQ.out; rw [e, HG.out] at h1; simp at h1
    have hqb : q ≠ b := fun e => by have h1 := HQ.out; rw [e, HB.out] at h1; simp at h1
    have hq' := (HM.old q lq hqg hqb).trans HQ.out
    have cq' : wr.cell? ⟨q, 1, none⟩ = some (.slice (some ⟨T, 0, none⟩) (n + 1) cap) := by rw [cell_of hq']; rfl
    have HM' := hide HM
    clear HM hq' cq
    by_cases e : hd + 1 = ln
    · have e2 : ((hd : Int) + 1 == (ln : Int)) = true := by simp; omega
      go_quiet (fail)
      go_wp2_with fail
      refine Calls.mono (HP.out e wr HM'.out _) ?_
      rintro e' w5 ⟨rfl, hR, z5, m5'⟩
      clear b1 b2 fb cq' c40 c41 c42 c43 c44 c45 f4 c4 c70 m0 m1 m2 m3 m4 m5
      have HR := hide hR
      have HZ := hide z5
      obtain ⟨z0, z1, z2, z3, z4, z5, fz⟩ := six_cells z5
      obtain ⟨k0, k1, k2, k3, k4, k5, _⟩ := six_cells m5'
      clear hR m5'
      go_wp2_with fail
      obtain ⟨o1, o2⟩ := over_six w5 w.heap.size zeroMsg (.int .i64 t) (.int .u16 s) (.int .u16 o) (.bool ak) (.bool be) (.slice pa pl pc) N (by omega) HZ.out
      refine bodyPost_ret (v := .tuple #[.agg (MsgV.mk t s o ak be pa pl pc).cells, .bool true]) (by simp [results, Try.results40, go_sem, z0, z1, z2, z3, z4, z5, MsgV.cells]) rfl ⟨rfl, w5, HR.out, HZ.out, o1, o2⟩
    · have e2 : ((hd : Int) + 1 == (ln : Int)) = false := by simp; omega
      go_quiet (fail)
      go_wp2_with fail
      refine Calls.mono (HD.out e wr HM'.out _) ?_
      rintro e' w5 ⟨rfl, hR, z5, m5'⟩
      clear b1 b2 fb cq' c40 c41 c42 c43 c44 c45 f4 c4 c70 m0 m1 m2 m3 m4 m5
      have HR := hide hR
      have HZ := hide z5
      obtain ⟨z0, z1, z2, z3, z4, z5, fz⟩ := six_cells z5
      obtain ⟨k0, k1, k2, k3, k4, k5, _⟩ := six_cells m5'
      clear hR m5'
      go_wp2_with fail
      obtain ⟨o1, o2⟩ := over_six w5 w.heap.size zeroMsg (.int .i64 t) (.int .u16 s) (.int .u16 o) (.bool ak) (.bool be) (.slice pa pl pc) N (by omega) HZ.out
      refine bodyPost_ret (v := .tuple #[.agg (MsgV.mk t s o ak be pa pl pc).cells, .bool true]) (by simp [results, Try.results40, go_sem, z0, z1, z2, z3, z4, z5, MsgV.cells]) rfl ⟨rfl, w5, HR.out, HZ.out, o1, o2⟩

end Go.Proofs.Qxb6601345a
