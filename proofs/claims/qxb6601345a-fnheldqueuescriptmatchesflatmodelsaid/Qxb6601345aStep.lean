import Derived.Test.Qxb6601345aPlainFirst
namespace Go.Proofs.Qxb6601345a
open Go.RowKit Go.Maps
set_option linter.unusedVariables false
set_option linter.unusedSimpArgs false

section
variable {N : Nat} {w : World} {q : Nat} {mv lv : Value} {m : Nat} {bk snd : Nat → Nat} {mc : Nat → MsgV} {ids : Nat → List Nat} {rc : Nat → Rec} {at_ : Nat → Nat} {n : Nat} {H : Nat → Nat}

theorem QI.gs (h : QI N w q mv lv m bk snd mc ids rc at_ n H) {x : Nat} (hx : x < m) : (rc x).g < w.heap.size := by
  obtain ⟨c, hc, _⟩ := (h.row x hx).arr
  exact block_lt hc
theorem QI.N_lt (h : QI N w q mv lv m bk snd mc ids rc at_ n H) : N ≤ w.heap.size := by
  obtain ⟨_, _, e, _⟩ := h.qs.top
  have := block_lt e
  have := h.qs.qN
  omega
end

/-- Taken, behind the copy of the result. -/
theorem Taken.copied {N : Nat} {w : World} {q : Nat} {mv lv : Value} {m : Nat} {bk snd : Nat → Nat} {mc : Nat → MsgV} {ids : Nat → List Nat} {rc : Nat → Rec} {thr : Int} {e : Ending} {w1 w2 : World} {o : Obj}
    (hN : N ≤ w.heap.size) (hgs : ∀ x, x < m → (rc x).g < w.heap.size) (h : Taken N (w.alloc o) q mv lv m bk snd mc ids rc thr e w1) {cz : Array Value} (hz : w1.heap[w.heap.size]? = some (.cells cz 65)) (ho : ∀ c, c ≠ w.heap.size → w2.heap[c]? = w1.heap[c]?) (hfr : Fr N [65] w1 w2) : Taken N w q mv lv m bk snd mc ids rc thr e w2 := by
  have f0 : Fr N [65, 76, 78, 80] w (w.alloc o) := (Fr.refl _ _ _).alloc hN o
  have far : Far65 (w.alloc o) w1 m rc → Far65 w w2 m rc := fun hf z c h1 h2 => (ho z (by have := block_lt h1; omega)).trans (hf z c ((Below.heap_alloc _ _ _ (block_lt h1)).trans h1) h2)
  rcases h with ⟨h1, h2, ⟨rc', at', n', H', h3, h4⟩, h5, h6⟩ | ⟨x, i, l, h0, h1, h2, ⟨rc', at', n', H', h3, h4⟩, h5, h6⟩
  · exact .inl ⟨h1, h2, ⟨rc', at', n', H', h3.keep1 hz (fun y hy => by rw [h4 y hy]; have := hgs y hy; omega) ho, h4⟩, (f0.trans h5).trans (hfr.mono (by simp)), far h6⟩
  · exact .inr ⟨x, i, l, h0, h1, h2, ⟨rc', at', n', H', h3.keep1 hz (fun y hy => by rw [h4 y hy]; have := hgs y hy; omega) ho, h4⟩, (f0.trans h5).trans (hfr.mono (by simp)), far h6⟩

/-- What take gives back: a message's cells and a mark. -/
theorem Taken.shape {N : Nat} {w : World} {q : Nat} {mv lv : Value} {m : Nat} {bk snd : Nat → Nat} {mc : Nat → MsgV} {ids : Nat → List Nat} {rc : Nat → Rec} {thr : Int} {e : Ending} {w1 : World} (h : Taken N w q mv lv m bk snd mc ids rc thr e w1) :
    (∃ (v : MsgV) (ok : Bool), e = .returned (.tuple #[.agg v.cells, .bool ok])) ∧ Far65 w w1 m rc := by
  rcases h with ⟨h1, _, _, _, h6⟩ | ⟨x, i, l, _, _, h2, _, _, h6⟩
  · exact ⟨⟨⟨0, 0, 0, false, false, none, 0, 0⟩, false, h1⟩, h6⟩
  · exact ⟨⟨mc i, true, h2⟩, h6⟩

set_option maxHeartbeats 800000 in
theorem ztake_any (N : Nat) (w : World) (q : Nat) (mv lv : Value) (m : Nat) (bk snd : Nat → Nat) (mc : Nat → MsgV) (ids : Nat → List Nat) (rc : Nat → Rec) (at_ : Nat → Nat) (n : Nat) (H : Nat → Nat) (thr : Int)
    (h : QI N w q mv lv m bk snd mc ids rc at_ n H) :
    Calls Try.prog 34 #[.pointer (some ⟨q, 0, none⟩), .int .i64 thr] w (Taken N w q mv lv m bk snd mc ids rc thr) := by
  have HC := hide fun (o : Obj) => take_any N (w.alloc o) q mv lv m bk snd mc ids rc at_ n H thr (h.keep fun c hc => Below.heap_alloc _ _ _ hc)
  have HG := hide (fun x (hx : x < m) => h.gs hx)
  have HN := hide h.N_lt
  clear h
  go_enter Try.func34, Try.ntmps34
  go_wp2_with fail
  refine Calls.mono (HC.out _) ?_
  intro e w1 hT
  obtain ⟨⟨v, ok, rfl⟩, hfar⟩ := hT.shape
  have hz := hfar w.heap.size _ (alloc_new w _) (fun x hx => by have := HG.out x hx; omega)
  have HZ := hide hz
  have HT := hide hT
  obtain ⟨z0, z1, z2, z3, z4, z5, fz⟩ := six_cells hz
  obtain ⟨t, s, o, ak, be, pa, pl, pc⟩ := v
  simp only [MsgV.cells] at *
  clear hT hfar hz
  go_wp2_with fail
  obtain ⟨o1, o2⟩ := over_six w1 w.heap.size zeroMsg (.int .i64 t) (.int .u16 s) (.int .u16 o) (.bool ak) (.bool be) (.slice pa pl pc) N HN.out HZ.out
  exact bodyPost_ret (v := .tuple #[.agg #[.int .i64 t, .int .u16 s, .int .u16 o, .bool ak, .bool be, .slice pa pl pc], .bool ok]) (by simp [results, Try.results34, go_sem, z0, z1, z2, z3, z4, z5]) rfl (HT.out.copied HN.out HG.out HZ.out o1 o2)

end Go.Proofs.Qxb6601345a
