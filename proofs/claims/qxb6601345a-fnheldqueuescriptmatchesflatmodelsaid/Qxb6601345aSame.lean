import Derived.Test.Qxb6601345aSmall
namespace Go.Proofs.Qxb6601345a
open Go.RowKit Go.Maps
set_option linter.unusedVariables false
set_option linter.unusedSimpArgs false

set_option maxHeartbeats 1000000 in
theorem sameMsg_any (w : World) (L N : Nat) (v u : MsgV) (bs : Nat → Nat) (h : CopyOf v u) (hb : BytesTo L N w v.pa v.pl bs) (hN : N ≤ w.heap.size) (hb' : BytesIn w u.pa u.pl bs) (h0 : u.pa = none → u.pl = 0) (hl : u.pl ≤ 524288) :
    Calls Try.prog 37 #[.agg v.cells, .agg u.cells] w fun e w' => e = .returned (.bool true) ∧ Below w.heap.size w w' := by
  obtain ⟨t, s, o, ak, be, pa, pl, pc⟩ := v
  obtain ⟨t', s', o', ak', be', pa', pl', pc'⟩ := u
  obtain ⟨h1, h2, h3, h4, h5, h6, h7⟩ := h
  simp only at h1 h2 h3 h4 h5 h6 h7 hb hb' h0 hl
  subst h1 h2 h3 h4 h5 h6
  simp only [MsgV.cells]
  have hbel : ∀ (o1 o2 : Obj), Below w.heap.size w ((w.alloc o1).alloc o2) := fun o1 o2 => ((Below.refl _ _).alloc (Nat.le_refl _) _).alloc (by simp) _
  have HC := hide fun (o1 o2 : Obj) => sameBytes_any ((w.alloc o1).alloc o2) L N pa pa' pl pc pc' bs (hb.below (hbel o1 o2) hN) (hb'.below (hbel o1 o2)) h7 h0 hl
  have HB := hide hbel
  have e1 : (t == t) = true := by simp
  have e2 : ((s : Int) == (s : Int)) = true := by simp
  have e3 : ((o : Int) == (o : Int)) = true := by simp
  have e4 : (ak == ak) = true := by simp
  have e5 : (be == be) = true := by simp
  clear hbel hb hb' h0 h7
  go_enter Try.func37, Try.ntmps37
  go_wp2_with (go_at_call 42; refine Calls.mono (HC.out _ _) ?_; rintro e w1 ⟨rfl, hd⟩)
  go_ret
  refine ⟨rfl, ?_⟩
  obtain ⟨d, rfl⟩ := hd
  exact (HB.out _ _).trans ⟨rfl, rfl, rfl, Nat.le_refl _, fun _ _ => rfl⟩

end Go.Proofs.Qxb6601345a
