import Derived.Test.Qxb6601345aMsgs2
import Derived.Maps.OwnSet
namespace Go.Proofs.Qxb6601345a
open Go.RowKit Go.Maps
set_option linter.unusedVariables false
set_option linter.unusedSimpArgs false

theorem Below.toDrew {N : Nat} {w wr : World} (h : Below N w wr) : Below N w wr.drew := h.trans ⟨rfl, rfl, rfl, Nat.le_refl _, fun _ _ => rfl⟩

theorem zero2 (w : World) : (zeroValue 2).run Try.prog w = .ok (.int .i64 0) w := by kernel_rfl

/-- The map's element at sender s is the stamp f s. -/
def MapT (w : World) (bm n : Nat) (f : Nat → Option Int) : Prop :=
  ∃ D : DataW Unit, w.ownsMap Try.prog 45 (plainElem Try.prog 2) bm n D ∧ ∀ s : Nat, s < 65536 → Maps.has D (.int .u16 s) = (f s).isSome ∧ D.atKey (.int .u16 s) (.lit (.int .i64 0)) = .lit (.int .i64 ((f s).getD 0))

theorem MapT.made (w : World) : MapT (w.alloc (.map #[] 0)) w.heap.size 0 (fun _ => none) :=
  ⟨.map [], World.ownsMap_made _ _ _ _, fun s hs => ⟨rfl, rfl⟩⟩
theorem MapT.keep {w w' : World} {bm n : Nat} {f : Nat → Option Int} (h : MapT w bm n f) (hk : w'.heap[bm]? = w.heap[bm]?) : MapT w' bm n f := by
  obtain ⟨D, ⟨es, cl, h1, h2⟩, h3⟩ := h
  exact ⟨D, ⟨es, cl, hk.trans h1, h2⟩, h3⟩
theorem MapT.lookup {w : World} {bm n : Nat} {f : Nat → Option Int} (h : MapT w bm n f) {s : Nat} (hs : s < 65536) : (Instr.lookup 61 (.map (some bm)) (.int .u16 s) true).run Try.prog w = .ok (.tuple #[.int .i64 ((f s).getD 0), .bool (f s).isSome]) w := by
  obtain ⟨D, h1, h3⟩ := h
  obtain ⟨v, ps, hr, hv⟩ := h1.look_ok law45 Try.underlying61 (zero2 w) (plainElem_int Try.underlying2 (by decide)) (key45 hs)
  obtain ⟨c, rfl, hc, _⟩ := plainElem_int_inv Try.underlying2 hv
  simp only [Prod.mk.injEq] at hc
  rw [(h3 s hs).2] at hc
  simp only [DataW.lit.injEq, Lit.int.injEq, true_and] at hc
  rw [hr, (h3 s hs).1, hc.1]
theorem MapT.update {w : World} {bm n : Nat} {f : Nat → Option Int} (h : MapT w bm n f) (hn : n < maxLen) {s : Nat} (hs : s < 65536) {t : Int} (ht : (Lit.int .i64 t).wf = true) : ∃ w', (Instr.mapUpdate 61 (.map (some bm)) (.int .u16 s) (.int .i64 t)).run Try.prog w = .ok () w' ∧
    MapT w' bm (n + 1) (fun s' => if s' = s then some t else f s') ∧ w.grownBy w' (some bm) := by
  obtain ⟨D, h1, h3⟩ := h
  have h2 := h1.isMap
  obtain ⟨w', hr, h4, h5⟩ := h1.update law45 Try.underlying61 hn (key45 hs) (plainElem_int Try.underlying2 ht)
  refine ⟨w', hr, ⟨_, h4, fun s' hs' => ?_⟩, h5⟩
  by_cases e : s' = s
  · subst e
    rw [has_put_same h2 (by simp [WideAt.IsKeyLit]), atKey_put_same h2 (by simp [WideAt.IsKeyLit])]; simp
  · rw [has_put_other (by simp; omega), atKey_put_other (by simp; omega), (h3 s' hs').1, (h3 s' hs').2]; simp [e]

/-- The stamp of the last of the first i messages that sender s has sent. -/
def lastTo (mg : Nat → MsgV) : Nat → Nat → Option Int
  | 0, _ => none
  | i + 1, s => if s = (mg i).fr then some (mg i).ts else lastTo mg i s

/-- Each sender's stamps rise. -/
def Sorted (mg : Nat → MsgV) (n : Nat) : Prop := ∀ i j, i < j → j < n → (mg i).fr = (mg j).fr → (mg i).ts < (mg j).ts

theorem lastTo_none {mg : Nat → MsgV} : ∀ {i s : Nat}, lastTo mg i s = none → ∀ j, j < i → (mg j).fr ≠ s := by
  intro i
  induction i with
  | zero => intro s _ j hj; omega
  | succ i ih =>
    intro s h j hj
    unfold lastTo at h
    split at h
    · cases h
    · rename_i hne
      by_cases e : j = i
      · subst e; exact fun e => hne e.symm
      · exact ih h j (by omega)
theorem lastTo_some {mg : Nat → MsgV} : ∀ {i s : Nat} {t : Int}, lastTo mg i s = some t → Sorted mg i → ∀ j, j < i → (mg j).fr = s → (mg j).ts ≤ t := by
  intro i
  induction i with
  | zero => intro s t _ _ j hj; omega
  | succ i ih =>
    intro s t h hS j hj e
    unfold lastTo at h
    split at h
    · rename_i hs
      cases h
      by_cases e' : j = i
      · subst e'; omega
      · have := hS j i (by omega) (by omega) (e.trans hs)
        omega
    · rename_i hne
      by_cases e' : j = i
      · subst e'; exact absurd e.symm hne
      · exact ih h (fun a b hab hb => hS a b hab (by omega)) j (by omega) e
theorem Sorted.next {mg : Nat → MsgV} {i : Nat} (h : Sorted mg i) (h2 : ∀ t, lastTo mg i (mg i).fr = some t → t < (mg i).ts) : Sorted mg (i + 1) := by
  intro a b hab hb e
  by_cases e' : b = i
  · subst e'
    cases hl : lastTo mg b (mg b).fr with
    | none => exact absurd e (lastTo_none hl a hab)
    | some t =>
      have h1 := lastTo_some hl h a hab e
      have := h2 t hl
      omega
  · exact h a b hab (by omega) e

set_option maxHeartbeats 1600000 in
theorem runsOK_any (w : World) (a : Option Addr) (n c : Nat) (mg : Nat → MsgV) (pb : Nat → Nat → Nat) (h : MsgsIn w a n mg pb) (hn : n ≤ 4096) (hts : ∀ i, i < n → (Lit.int .i64 (mg i).ts).wf = true) :
    Calls Try.prog 21 #[.slice a n c] w fun e w' => (∃ b : Bool, e = .returned (.bool b) ∧ (b = true → Sorted mg n)) ∧ Below w.heap.size w w' := by
  have hmm := @run_makeMap Try.prog
  have HH := hide h
  have HT := hide hts
  clear h hts
  go_enter Try.func21, Try.ntmps21
  go_upto_block 0 with fail
  clear hmm
  go_wp2
  go_loopg [4, 5, 6] n (fun g v4 v5 v6 wx => ∃ i : Nat, n - i = g ∧ i ≤ n ∧ v4 = .int .i64 i ∧ Hid (Sorted mg i ∧ MapT wx w.heap.size i (lastTo mg i) ∧ Below w.heap.size w wx))
  case atStart => exact ⟨0, rfl, by omega, rfl, hide ⟨fun a b hab hb => by omega, MapT.made w, (Below.refl _ _).alloc (Nat.le_refl _) _⟩⟩
  case round =>
    obtain ⟨i, rfl, hi, rfl, HR⟩ := hrel
    by_cases hlt : i < n
    · have hlt' : (i : Int) < (n : Int) := by omega
      obtain ⟨b, o, rfl, hb, hc⟩ := (HH.out.at hlt)
      have c0 : wr.cell? ⟨b, o + i * 6, none⟩ = some (.int .i64 (mg i).ts) := by rw [Below.cellOf HR.out.2.2 hb]; exact hc i hlt 0 (by omega)
      have c1 : wr.cell? ⟨b, o + i * 6 + 1, none⟩ = some (.int .u16 (mg i).fr) := by rw [Below.cellOf HR.out.2.2 hb]; exact hc i hlt 1 (by omega)
      have hfr := (HH.out.dom i hlt).1
      have hlook := HR.out.2.1.lookup hfr
      have hbr : b < wr.heap.size := Nat.lt_of_lt_of_le hb HR.out.2.2.size
      obtain ⟨w2, hupd, hm2, hg2⟩ := (HR.out.2.1.keep (w' := wr.drew) rfl).update (by unfold maxLen; omega) hfr (HT.out i hlt)
      have HM2 := hide (And.intro hm2 hg2)
      clear hc hm2 hg2
      cases hl : lastTo mg i (mg i).fr with
      | none =>
        rw [hl] at hlook
        simp only [Option.getD_none, Option.isSome_none] at hlook
        have HL := hide hl
        clear hl
        go_upto_region 8 with fail
        go_region
        clear hupd hlook
        go_wp2
        go_roundg (n - (i + 1))
        case measure => omega
        case rel =>
          refine ⟨i + 1, rfl, by omega, by go_num, hide ⟨HR.out.1.next (fun t ht => ?_), ?_, (Below.toDrew HR.out.2.2).grown HM2.out.2 HR.out.2.2.size (fun k hk => by cases hk; omega)⟩⟩
          · rw [HL.out] at ht; cases ht
          · exact HM2.out.1
      | some t =>
        rw [hl] at hlook
        simp only [Option.getD_some, Option.isSome_some] at hlook
        have HL := hide hl
        clear hl
        by_cases hle : (mg i).ts ≤ t
        · have hd : decide ((mg i).ts ≤ t) = true := by simpa using hle
          go_wp2
          go_ret
          exact ⟨⟨_, rfl, fun e => by cases e⟩, HR.out.2.2⟩
        · have hd : decide ((mg i).ts ≤ t) = false := by simpa using hle
          have HLE := hide hle
          clear hle
          go_upto_region 8 with fail
          go_region
          clear hupd hlook
          go_wp2
          go_roundg (n - (i + 1))
          case measure => omega
          case rel =>
            refine ⟨i + 1, rfl, by omega, by go_num, hide ⟨HR.out.1.next (fun t' ht => ?_), ?_, (Below.toDrew HR.out.2.2).grown HM2.out.2 HR.out.2.2.size (fun k hk => by cases hk; omega)⟩⟩
            · rw [HL.out] at ht; cases ht; have := HLE.out; omega
            · exact HM2.out.1
    · have e : i = n := by omega
      subst e
      go_wp2
      go_ret
      exact ⟨⟨_, rfl, fun _ => HR.out.1⟩, HR.out.2.2⟩

end Go.Proofs.Qxb6601345a
