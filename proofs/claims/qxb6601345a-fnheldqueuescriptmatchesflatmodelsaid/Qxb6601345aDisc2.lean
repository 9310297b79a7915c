import Derived.Test.Qxb6601345aDisc
namespace Go.Proofs.Qxb6601345a
open Go.RowKit
set_option linter.unusedVariables false
set_option linter.unusedSimpArgs false

set_option maxHeartbeats 800000 in
theorem disc_nil (w : World) (q bm : Nat) (tv lv : Value) (s : Nat) (above thr : Int) (hq : w.heap[q]? = some (.cells #[.map (some bm), tv, lv] 78))
    (hl : (Instr.lookup 73 (.map (some bm)) (.int .u16 s) false).run Try.prog w = .ok (.pointer none) w) :
    Calls Try.prog 38 #[.pointer (some ⟨q, 0, none⟩), .int .u16 s, .int .i64 above, .int .i64 thr] w fun e w' => e = .returned (.tuple #[]) ∧ Drawn w w' := by
  have cq : w.cell? ⟨q, 0, none⟩ = some (.map (some bm)) := by rw [cell_of hq]; rfl
  clear hq
  go_enter Try.func38, Try.ntmps38
  go_upto_region 1 with fail
  go_quiet (fail)
  go_wp2
  refine bodyPost_ret (results_none rfl _ _ _) rfl ?_
  exact ⟨by trivial, by repeat (first | exact Drawn.refl _ | apply Drawn.next | apply Drawn.drew)⟩

set_option maxHeartbeats 800000 in
theorem disc_empty (w : World) (q bm b g hd cp a sd : Nat) (tv lv : Value) (s : Nat) (above thr : Int) (hq : w.heap[q]? = some (.cells #[.map (some bm), tv, lv] 78))
    (hl : (Instr.lookup 73 (.map (some bm)) (.int .u16 s) false).run Try.prog w = .ok (.pointer (some ⟨b, 0, none⟩)) w)
    (hb : w.heap[b]? = some (.cells #[.int .u16 sd, .slice (some ⟨g, 0, none⟩) hd cp, .int .i64 hd, .int .i64 a] 80)) (hh : hd ≤ 4096) :
    Calls Try.prog 38 #[.pointer (some ⟨q, 0, none⟩), .int .u16 s, .int .i64 above, .int .i64 thr] w fun e w' => e = .returned (.tuple #[]) ∧ Drawn w w' := by
  have cq : w.cell? ⟨q, 0, none⟩ = some (.map (some bm)) := by rw [cell_of hq]; rfl
  have b1 : w.cell? ⟨b, 1, none⟩ = some (.slice (some ⟨g, 0, none⟩) hd cp) := by rw [cell_of hb]; rfl
  have b2 : w.cell? ⟨b, 2, none⟩ = some (.int .i64 hd) := by rw [cell_of hb]; rfl
  clear hq hb
  have hd : ((hd : Int) == (hd : Int)) = true := by simp
  go_enter Try.func38, Try.ntmps38
  go_upto_region 1 with fail
  go_quiet (fail)
  go_wp2
  refine bodyPost_ret (results_none rfl _ _ _) rfl ?_
  exact ⟨by trivial, by repeat (first | exact Drawn.refl _ | apply Drawn.next | apply Drawn.drew)⟩

end Go.Proofs.Qxb6601345a
