import Derived.Test.Qxb6601345aMsgs
namespace Go.Proofs.Qxb6601345a
open Go.RowKit Go.Maps
set_option linter.unusedVariables false
set_option linter.unusedSimpArgs false

theorem MsgsIn.at {w : World} {a : Option Addr} {n : Nat} {mg : Nat → MsgV} {pb : Nat → Nat → Nat} (h : MsgsIn w a n mg pb) {i : Nat} (hi : i < n) : ∃ b o, a = some ⟨b, o, none⟩ ∧ b < w.heap.size ∧ ∀ i, i < n → ∀ c, c < 6 → w.cell? ⟨b, o + i * 6 + c, none⟩ = (mg i).cells[c]? := by
  rcases h.cells with h' | h'
  · omega
  · exact h'

set_option maxHeartbeats 800000 in
theorem fits_any (w : World) (a : Option Addr) (n c : Nat) (mg : Nat → MsgV) (pb : Nat → Nat → Nat) (h : MsgsIn w a n mg pb) (hn : n ≤ 4096) :
    Calls Try.prog 20 #[.slice a n c] w fun e w' => (∃ b : Bool, e = .returned (.bool b) ∧ (b = true → ∀ i, i < n → (mg i).pl ≤ 524288)) ∧ w' = w := by
  have HH := hide h
  clear h
  go_enter Try.func20, Try.ntmps20
  go_upto_block 0 with fail
  go_wp2
  go_loopg [3, 4] n (fun g v3 v4 wx => ∃ z i : Nat, n - i = g ∧ i ≤ n ∧ v3 = .int .i64 z ∧ v4 = .int .i64 i ∧ z ≤ 524288 ∧ Hid (∀ j, j < i → (mg j).pl ≤ 524288) ∧ wx = w)
  case atStart => exact ⟨0, 0, rfl, by omega, rfl, rfl, by omega, hide (fun j hj => by omega), rfl⟩
  case round =>
    obtain ⟨z, i, rfl, hi, rfl, rfl, hz, hall, rfl⟩ := hrel
    by_cases hlt : i < n
    · have hlt' : (i : Int) < (n : Int) := by omega
      obtain ⟨b, o, rfl, hb, hc⟩ := HH.out.at hlt
      have c5 : wr.cell? ⟨b, o + i * 6 + 5, none⟩ = some (.slice (mg i).pa (mg i).pl (mg i).pc) := hc i hlt 5 (by omega)
      have hpl := (HH.out.dom i hlt).2.2.1
      unfold maxLen at hpl
      clear hc
      obtain ⟨pl, hple⟩ : ∃ pl, pl = (mg i).pl := ⟨_, rfl⟩
      rw [← hple] at c5 hpl
      have HPL := hide hple
      clear hple
      by_cases q0 : pl ≤ 524288
      · by_cases q1 : z + pl ≤ 524288
        · go_wp2
          go_roundg (n - (i + 1))
          case measure => omega
          case rel =>
            refine ⟨z + pl, i + 1, rfl, by omega, by go_num, by go_num, q1, hide (fun j hj => ?_), rfl⟩
            by_cases e : j = i
            · rw [e, ← HPL.out]; exact q0
            · exact hall.out j (by omega)
        · go_wp2
          go_ret
          exact ⟨⟨_, rfl, fun e => by cases e⟩, rfl⟩
      · go_wp2
        go_ret
        exact ⟨⟨_, rfl, fun e => by cases e⟩, rfl⟩
    · have e : i = n := by omega
      subst e
      go_wp2
      go_ret
      exact ⟨⟨_, rfl, fun _ => hall.out⟩, rfl⟩

end Go.Proofs.Qxb6601345a
