import Derived.Test.Qxb6601345aSame
namespace Go.Proofs.Qxb6601345a
open Go.RowKit Go.Maps
set_option linter.unusedVariables false
set_option linter.unusedSimpArgs false

/-- u comes before v. -/
def ltM (u v : MsgV) : Bool := ltK u.ts u.fr v.ts v.fr

/-- The earliest of the first i messages that is alive. -/
def bestTo (mg : Nat → MsgV) (al : Nat → Bool) : Nat → Option Nat
  | 0 => none
  | i + 1 => if al i = true then (match bestTo mg al i with | none => some i | some b => if ltM (mg i) (mg b) = true then some i else some b) else bestTo mg al i

def bestInt : Option Nat → Int
  | none => -1
  | some b => b

theorem bestTo_lt {mg : Nat → MsgV} {al : Nat → Bool} : ∀ {i b : Nat}, bestTo mg al i = some b → b < i := by
  intro i
  induction i with
  | zero => intro b h; cases h
  | succ i ih =>
    intro b h
    unfold bestTo at h
    split at h
    · split at h
      · cases h; omega
      · rename_i b' hb
        split at h
        · cases h; omega
        · cases h; have := ih hb; omega
    · have := ih h; omega

set_option maxHeartbeats 1600000 in
theorem first_any (w : World) (a : Option Addr) (n c : Nat) (mg : Nat → MsgV) (pb : Nat → Nat → Nat) (B : Nat) (al : Nat → Bool) (h : MsgsIn w a n mg pb) (hn : n ≤ 4096) (hA : AliveIn w B n al) :
    Calls Try.prog 35 #[.slice a n c, .slice (some ⟨B, 0, none⟩) n n] w fun e w' => e = .returned (.int .i64 (bestInt (bestTo mg al n))) ∧ Below w.heap.size w w' := by
  have HH := hide h
  have HA := hide hA
  have hB : B < w.heap.size := by obtain ⟨cur, h1, _⟩ := hA; exact block_lt h1
  clear h hA
  go_enter Try.func35, Try.ntmps35
  go_upto_block 0 with fail
  go_wp2
  go_loopg [5, 6] n (fun g v5 v6 wx => ∃ i : Nat, n - i = g ∧ i ≤ n ∧ v6 = .int .i64 i ∧ v5 = .int .i64 (bestInt (bestTo mg al i)) ∧ Below w.heap.size w wx)
  case atStart => exact ⟨0, rfl, by omega, rfl, rfl, Below.refl _ _⟩
  case round =>
    obtain ⟨i, rfl, hi, rfl, rfl, hW⟩ := hrel
    by_cases hlt : i < n
    · have hlt' : (i : Int) < (n : Int) := by omega
      have ca : wr.cell? ⟨B, i, none⟩ = some (.bool (al i)) := by rw [Below.cellOf hW hB]; exact (HA.out.cell hlt).1
      have HW := hide hW
      clear hW
      cases hal : al i with
      | false =>
        rw [hal] at ca
        have HE := hide (show bestTo mg al (i + 1) = bestTo mg al i by simp [bestTo, hal])
        clear hal
        obtain ⟨bi, hbi⟩ : ∃ bi, bi = bestInt (bestTo mg al i) := ⟨_, rfl⟩
        rw [← hbi]
        have HBI := hide hbi
        clear hbi
        go_wp2
        go_roundg (n - (i + 1))
        case measure => omega
        case rel => exact ⟨i + 1, rfl, by omega, by go_num, by rw [HE.out, ← HBI.out], HW.out⟩
      | true =>
        rw [hal] at ca
        cases hbt : bestTo mg al i with
        | none =>
          have HE := hide (show bestTo mg al (i + 1) = some i by simp [bestTo, hal, hbt])
          simp only [bestInt]
          clear hal hbt
          go_upto_region 6 with fail
          go_quiet (fail)
          go_wp2
          go_roundg (n - (i + 1))
          case measure => omega
          case rel => exact ⟨i + 1, rfl, by omega, by go_num, by rw [HE.out]; rfl, by first | exact HW.out | exact HW.out.trans ⟨rfl, rfl, rfl, Nat.le_refl _, fun _ _ => rfl⟩⟩
        | some k =>
          have hk := bestTo_lt hbt
          have hkn : k < n := by omega
          have hkn' : (k : Int) < (n : Int) := by omega
          have hk0 : decide ((k : Int) < 0) = false := by simp
          obtain ⟨b, o, rfl, hb, hc⟩ := HH.out.at hlt
          have sc := fun j (hj : j < n) c (hc' : c < 6) => (Below.cellOf (o := o + j * 6 + c) HW.out hb).trans (hc j hj c hc')
          have s0 : wr.cell? ⟨b, o + i * 6, none⟩ = some (.int .i64 (mg i).ts) := sc i hlt 0 (by omega)
          have s1 : wr.cell? ⟨b, o + i * 6 + 1, none⟩ = some (.int .u16 (mg i).fr) := sc i hlt 1 (by omega)
          have s2 : wr.cell? ⟨b, o + i * 6 + 2, none⟩ = some (.int .u16 (mg i).tt) := sc i hlt 2 (by omega)
          have s3 : wr.cell? ⟨b, o + i * 6 + 3, none⟩ = some (.bool (mg i).ack) := sc i hlt 3 (by omega)
          have s4 : wr.cell? ⟨b, o + i * 6 + 4, none⟩ = some (.bool (mg i).be) := sc i hlt 4 (by omega)
          have s5 : wr.cell? ⟨b, o + i * 6 + 5, none⟩ = some (.slice (mg i).pa (mg i).pl (mg i).pc) := sc i hlt 5 (by omega)
          have t0 : wr.cell? ⟨b, o + k * 6, none⟩ = some (.int .i64 (mg k).ts) := sc k hkn 0 (by omega)
          have t1 : wr.cell? ⟨b, o + k * 6 + 1, none⟩ = some (.int .u16 (mg k).fr) := sc k hkn 1 (by omega)
          have t2 : wr.cell? ⟨b, o + k * 6 + 2, none⟩ = some (.int .u16 (mg k).tt) := sc k hkn 2 (by omega)
          have t3 : wr.cell? ⟨b, o + k * 6 + 3, none⟩ = some (.bool (mg k).ack) := sc k hkn 3 (by omega)
          have t4 : wr.cell? ⟨b, o + k * 6 + 4, none⟩ = some (.bool (mg k).be) := sc k hkn 4 (by omega)
          have t5 : wr.cell? ⟨b, o + k * 6 + 5, none⟩ = some (.slice (mg k).pa (mg k).pl (mg k).pc) := sc k hkn 5 (by omega)
          have hbr : b < wr.heap.size := Nat.lt_of_lt_of_le hb HW.out.size
          have HKP := hide (show ∀ w' : World, w'.heap[b]? = wr.heap[b]? → w'.cell? ⟨b, o + i * 6, none⟩ = some (.int .i64 (mg i).ts) ∧ w'.cell? ⟨b, o + i * 6 + 1, none⟩ = some (.int .u16 (mg i).fr) ∧ w'.cell? ⟨b, o + i * 6 + 2, none⟩ = some (.int .u16 (mg i).tt) ∧ w'.cell? ⟨b, o + i * 6 + 3, none⟩ = some (.bool (mg i).ack) ∧ w'.cell? ⟨b, o + i * 6 + 4, none⟩ = some (.bool (mg i).be) ∧ w'.cell? ⟨b, o + i * 6 + 5, none⟩ = some (.slice (mg i).pa (mg i).pl (mg i).pc) ∧ w'.cell? ⟨b, o + k * 6, none⟩ = some (.int .i64 (mg k).ts) ∧ w'.cell? ⟨b, o + k * 6 + 1, none⟩ = some (.int .u16 (mg k).fr) ∧ w'.cell? ⟨b, o + k * 6 + 2, none⟩ = some (.int .u16 (mg k).tt) ∧ w'.cell? ⟨b, o + k * 6 + 3, none⟩ = some (.bool (mg k).ack) ∧ w'.cell? ⟨b, o + k * 6 + 4, none⟩ = some (.bool (mg k).be) ∧ w'.cell? ⟨b, o + k * 6 + 5, none⟩ = some (.slice (mg k).pa (mg k).pl (mg k).pc) from fun w' h2 => ⟨(World.cell?_of_block h2).trans s0, (World.cell?_of_block h2).trans s1, (World.cell?_of_block h2).trans s2, (World.cell?_of_block h2).trans s3, (World.cell?_of_block h2).trans s4, (World.cell?_of_block h2).trans s5, (World.cell?_of_block h2).trans t0, (World.cell?_of_block h2).trans t1, (World.cell?_of_block h2).trans t2, (World.cell?_of_block h2).trans t3, (World.cell?_of_block h2).trans t4, (World.cell?_of_block h2).trans t5⟩)
          have K00 := HKP.out wr rfl
          have K0 := HKP.out wr.drew rfl
          have HC := hide (earlier_any wr.drew (mg i) (mg k))
          simp only [MsgV.cells] at HC
          have HE := hide (show bestTo mg al (i + 1) = if ltM (mg i) (mg k) = true then some i else some k by simp [bestTo, hal, hbt])
          have HLT := hide (show ltM (mg i) (mg k) = ltK (mg i).ts (mg i).fr (mg k).ts (mg k).fr from rfl)
          simp only [bestInt]
          clear hal hbt sc hc
          go_upto_region 6 with fail
          go_region_held3 (fun w' => w'.cell? ⟨b, o + i * 6, none⟩ = some (.int .i64 (mg i).ts) ∧ w'.cell? ⟨b, o + i * 6 + 1, none⟩ = some (.int .u16 (mg i).fr) ∧ w'.cell? ⟨b, o + i * 6 + 2, none⟩ = some (.int .u16 (mg i).tt) ∧ w'.cell? ⟨b, o + i * 6 + 3, none⟩ = some (.bool (mg i).ack) ∧ w'.cell? ⟨b, o + i * 6 + 4, none⟩ = some (.bool (mg i).be) ∧ w'.cell? ⟨b, o + i * 6 + 5, none⟩ = some (.slice (mg i).pa (mg i).pl (mg i).pc) ∧ w'.cell? ⟨b, o + k * 6, none⟩ = some (.int .i64 (mg k).ts) ∧ w'.cell? ⟨b, o + k * 6 + 1, none⟩ = some (.int .u16 (mg k).fr) ∧ w'.cell? ⟨b, o + k * 6 + 2, none⟩ = some (.int .u16 (mg k).tt) ∧ w'.cell? ⟨b, o + k * 6 + 3, none⟩ = some (.bool (mg k).ack) ∧ w'.cell? ⟨b, o + k * 6 + 4, none⟩ = some (.bool (mg k).be) ∧ w'.cell? ⟨b, o + k * 6 + 5, none⟩ = some (.slice (mg k).pa (mg k).pl (mg k).pc))
            (with_reducible assumption)
            (first | (go_at_call 41; refine Calls.mono HC.out ?_; rintro e w1 ⟨rfl, hbel⟩; have K1 := HKP.out w1 (hbel.block _ hbr)))
          have HB2 := hide hbel
          clear hbel K00 K0 K1 s0 s1 s2 s3 s4 s5 t0 t1 t2 t3 t4 t5 HC HKP
          rw [HLT.out] at HE
          generalize ltK (mg i).ts (mg i).fr (mg k).ts (mg k).fr = lb at *
          cases lb with
          | false =>
            go_wp2
            go_roundg (n - (i + 1))
            case measure => omega
            case rel => exact ⟨i + 1, rfl, by omega, by go_num, by rw [HE.out]; rfl, (Below.toDrew HW.out).trans (HB2.out.mono HW.out.size)⟩
          | true =>
            go_wp2
            go_roundg (n - (i + 1))
            case measure => omega
            case rel => exact ⟨i + 1, rfl, by omega, by go_num, by rw [HE.out]; rfl, (Below.toDrew HW.out).trans (HB2.out.mono HW.out.size)⟩
    · have e : i = n := by omega
      subst e
      have HW := hide hW
      clear hW
      go_wp2
      go_ret
      exact ⟨rfl, HW.out⟩

end Go.Proofs.Qxb6601345a
