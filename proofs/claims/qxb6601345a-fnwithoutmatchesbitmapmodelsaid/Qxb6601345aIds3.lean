import Derived.Test.Qxb6601345aIds2
namespace Go.Proofs.Qxb6601345a
open Go.RowKit
set_option linter.unusedVariables false
set_option linter.unusedSimpArgs false

set_option maxHeartbeats 400000 in
theorem same_pos (rs : List (Nat × Nat)) (b o b' o' n c c' : Nat) (hn : n ≤ 1048576) (w : World)
    (hA : ∀ i, i < n → w.cell? ⟨b, o + i * 2, none⟩ = some (.int .u16 (lo rs i)) ∧ w.cell? ⟨b, o + i * 2 + 1, none⟩ = some (.int .u16 (hi rs i)))
    (hB : ∀ i, i < n → w.cell? ⟨b', o' + i * 2, none⟩ = some (.int .u16 (lo rs i)) ∧ w.cell? ⟨b', o' + i * 2 + 1, none⟩ = some (.int .u16 (hi rs i))) :
    Calls Try.prog 13 #[.slice (some ⟨b, o, none⟩) n c, .slice (some ⟨b', o', none⟩) n c'] w fun e w' => e = .returned (.bool true) ∧ Drawn w w' := by
  go_enter Try.func13, Try.ntmps13
  go_wp2
  go_loopg [5] n (fun g i wr => ∃ k : Nat, g = n - k ∧ k ≤ n ∧ i = .int .i64 k ∧ Drawn w wr)
  case atStart => exact ⟨0, rfl, Nat.zero_le _, rfl, Drawn.refl _⟩
  case round =>
    obtain ⟨k, rfl, hk, rfl, m, rfl⟩ := hrel
    by_cases hlt : k < n
    · obtain ⟨c0, c1⟩ := hA k hlt
      obtain ⟨d0, d1⟩ := hB k hlt
      clear hA hB
      have hlt' : (k : Int) < (n : Int) := by omega
      generalize lo rs k = l at *
      generalize hi rs k = h at *
      go_wp2
      go_quiet (fail)
      go_wp2
      go_roundg (n - (k + 1))
      case measure => omega
      case rel => exact ⟨k + 1, rfl, by omega, by go_num, by repeat (first | exact Drawn.refl _ | apply Drawn.next | apply Drawn.drew)⟩
    · go_wp2
      go_ret
      exact ⟨rfl, by repeat (first | exact Drawn.refl _ | apply Drawn.next | apply Drawn.drew)⟩

theorem same_zero (a a' : Option Addr) (c c' : Nat) (w : World) :
    Calls Try.prog 13 #[.slice a 0 c, .slice a' 0 c'] w fun e w' => e = .returned (.bool true) ∧ Drawn w w' := by
  go_enter Try.func13, Try.ntmps13
  go_wp2
  go_loopg [5] 0 (fun g i wr => i = .int .i64 0 ∧ w = wr)
  case atStart => exact ⟨rfl, rfl⟩
  case round =>
    obtain ⟨rfl, rfl⟩ := hrel
    go_wp2
    go_ret
    exact ⟨rfl, Drawn.refl _⟩

theorem same_any (rs : List (Nat × Nat)) (a a' : Option Addr) (n c c' : Nat) (hn : n ≤ 1048576) (w : World) (hA : Spans w a n rs) (hB : Spans w a' n rs) :
    Calls Try.prog 13 #[.slice a n c, .slice a' n c'] w fun e w' => e = .returned (.bool true) ∧ Drawn w w' := by
  rcases hA.2.2 with hz | ⟨b, o, rfl, hc⟩
  · subst hz; exact same_zero a a' c c' w
  · rcases hB.2.2 with hz | ⟨b', o', rfl, hc'⟩
    · subst hz; exact same_zero _ _ c c' w
    · exact same_pos rs b o b' o' n c c' hn w hc hc'

end Go.Proofs.Qxb6601345a
