import Derived.Test.Qxb6601345aMake
namespace Go.Proofs.Qxb6601345a
open Go.RowKit
set_option linter.unusedVariables false
set_option linter.unusedSimpArgs false

/-- The bytes bs lie at a. -/
def BytesIn (w : World) (a : Option Addr) (n : Nat) (bs : Nat → Nat) : Prop :=
  n = 0 ∨ ∃ b o, a = some ⟨b, o, none⟩ ∧ b < w.heap.size ∧ ∀ j, j < n → w.cell? ⟨b, o + j, none⟩ = some (.int .u8 (bs j)) ∧ bs j < 256

/-- The n messages mg lie at a; their payloads' bytes are pb. -/
structure MsgsIn (w : World) (a : Option Addr) (n : Nat) (mg : Nat → MsgV) (pb : Nat → Nat → Nat) : Prop where
  dom : ∀ i, i < n → (mg i).fr < 65536 ∧ (mg i).tt < 65536 ∧ (mg i).pl ≤ maxLen ∧ ((mg i).pa = none → (mg i).pl = 0 ∧ (mg i).pc = 0)
  cells : n = 0 ∨ ∃ b o, a = some ⟨b, o, none⟩ ∧ b < w.heap.size ∧ ∀ i, i < n → ∀ c, c < 6 → w.cell? ⟨b, o + i * 6 + c, none⟩ = (mg i).cells[c]?
  pays : ∀ i, i < n → BytesIn w (mg i).pa (mg i).pl (pb i)

theorem BytesIn.below {w w' : World} {a : Option Addr} {n : Nat} {bs : Nat → Nat} (h : BytesIn w a n bs) (hb : Below w.heap.size w w') : BytesIn w' a n bs := by
  rcases h with h | ⟨b, o, h1, h2, h3⟩
  · exact .inl h
  · exact .inr ⟨b, o, h1, Nat.lt_of_lt_of_le h2 hb.size, fun j hj => by rw [Below.cellOf hb h2]; exact h3 j hj⟩
theorem MsgsIn.below {w w' : World} {a : Option Addr} {n : Nat} {mg : Nat → MsgV} {pb : Nat → Nat → Nat} (h : MsgsIn w a n mg pb) (hb : Below w.heap.size w w') : MsgsIn w' a n mg pb := by
  refine ⟨h.dom, ?_, fun i hi => (h.pays i hi).below hb⟩
  rcases h.cells with h' | ⟨b, o, h1, h2, h3⟩
  · exact .inl h'
  · exact .inr ⟨b, o, h1, Nat.lt_of_lt_of_le h2 hb.size, fun i hi c hc => by rw [Below.cellOf hb h2]; exact h3 i hi c hc⟩

/-- A function's name under the three laws' bounds: it answers, and reads only. -/
def Answers (f : Nat) (args : Array Value) (w : World) : Prop := Calls Try.prog f args w fun e w' => (∃ b : Bool, e = .returned (.bool b)) ∧ w' = w

set_option maxHeartbeats 800000 in
theorem bytes_take (w : World) (a : Option Addr) (n c : Nat) (mg : Nat → MsgV) (pb : Nat → Nat → Nat) (a1 : Option Addr) (n1 c1 : Nat) (h : MsgsIn w a n mg pb) (hn : n ≤ maxLen) (hn1 : n1 ≤ maxLen) : Answers 19 #[.slice a n c, .slice a1 n1 c1] w := by
  unfold Answers
  unfold maxLen at hn hn1
  have HH := hide h
  clear h
  by_cases p0 : n ≤ 1048576
  · go_enter Try.func19, Try.ntmps19
    go_upto_block 0 with fail
    go_cut [4, 5, 6] from 16 to 38 (fun v4 v5 v6 wx => ∃ z : Nat, v5 = .int .i64 z ∧ z ≤ 1048576 ∧ wx = w)
    case first =>
      go_wp2
      go_loopg [4, 5, 6] n (fun g v4 v5 v6 wx => ∃ z i : Nat, n - i = g ∧ i ≤ n ∧ v5 = .int .i64 z ∧ v6 = .int .i64 i ∧ z ≤ 1048576 ∧ wx = w)
      case atStart => exact ⟨n, 0, rfl, by omega, by go_num, rfl, by omega, rfl⟩
      case round =>
        obtain ⟨z, i, rfl, hi, rfl, rfl, hz, rfl⟩ := hrel
        by_cases hlt : i < n
        · have hlt' : (i : Int) < (n : Int) := by omega
          obtain ⟨b, o, rfl, hb, hc⟩ : ∃ b o, a = some ⟨b, o, none⟩ ∧ b < wr.heap.size ∧ ∀ i, i < n → ∀ c, c < 6 → wr.cell? ⟨b, o + i * 6 + c, none⟩ = (mg i).cells[c]? := by
            rcases HH.out.cells with h' | h'
            · omega
            · exact h'
          have c5 : wr.cell? ⟨b, o + i * 6 + 5, none⟩ = some (.slice (mg i).pa (mg i).pl (mg i).pc) := hc i hlt 5 (by omega)
          have hpl := (HH.out.dom i hlt).2.2.1
          unfold maxLen at hpl
          clear hc
          generalize (mg i).pl = pl at *
          by_cases q0 : pl ≤ 1048576
          · by_cases q1 : z + pl ≤ 1048576
            · go_wp2
              go_roundg (n - (i + 1))
              case measure => omega
              case rel => exact ⟨z + pl, i + 1, rfl, by omega, by go_num, by go_num, q1, rfl⟩
            · go_wp2
              go_ret
              exact ⟨⟨_, rfl⟩, rfl⟩
          · go_wp2
            go_ret
            exact ⟨⟨_, rfl⟩, rfl⟩
        · have e : i = n := by omega
          subst e
          go_wp2
          go_meet
          case rel => exact ⟨z, rfl, hz, rfl⟩
    case rest =>
      obtain ⟨z, rfl, hz, rfl⟩ := hcut
      by_cases q0 : n1 ≤ 1048576
      · by_cases q1 : z + n1 ≤ 1048576
        · go_wp2
          go_ret
          exact ⟨⟨_, rfl⟩, rfl⟩
        · go_wp2
          go_ret
          exact ⟨⟨_, rfl⟩, rfl⟩
      · go_wp2
        go_ret
        exact ⟨⟨_, rfl⟩, rfl⟩
  · go_enter Try.func19, Try.ntmps19
    go_wp2
    go_ret
    exact ⟨⟨_, rfl⟩, rfl⟩

end Go.Proofs.Qxb6601345a
