import Derived.Test.Qxb6601345aDisc4
import Derived.Test.Qxb6601345aDrain
namespace Go.Proofs.Qxb6601345a
open Go.RowKit Go.Maps
set_option linter.unusedVariables false
set_option linter.unusedSimpArgs false

set_option maxHeartbeats 800000 in
theorem bytes_disc (w : World) (a : Option Addr) (n c : Nat) (mg : Nat → MsgV) (pb : Nat → Nat → Nat) (s : Nat) (above thr : Int) (h : MsgsIn w a n mg pb) (hn : n ≤ maxLen) : Answers 26 #[.slice a n c, .int .u16 s, .int .i64 above, .int .i64 thr] w := by
  unfold Answers
  unfold maxLen at hn
  have HH := hide h
  clear h
  by_cases p0 : n ≤ 1048576
  · go_enter Try.func26, Try.ntmps26
    go_upto_block 0 with fail
    go_cut [8, 9, 10] from 20 to 42 (fun v8 v9 v10 wx => ∃ z : Nat, v9 = .int .i64 z ∧ z ≤ 1048576 ∧ wx = w)
    case first =>
      go_wp2
      go_loopg [8, 9, 10] n (fun g v8 v9 v10 wx => ∃ z i : Nat, n - i = g ∧ i ≤ n ∧ v9 = .int .i64 z ∧ v10 = .int .i64 i ∧ z ≤ 1048576 ∧ wx = w)
      case atStart => exact ⟨n, 0, rfl, by omega, by go_num, rfl, by omega, rfl⟩
      case round =>
        obtain ⟨z, i, rfl, hi, rfl, rfl, hz, rfl⟩ := hrel
        by_cases hlt : i < n
        · have hlt' : (i : Int) < (n : Int) := by omega
          obtain ⟨b, o, rfl, hb, hc⟩ : ∃ b o, a = some ⟨b, o, none⟩ ∧ b < wr.heap.size ∧ ∀ i, i < n → ∀ c, c < 6 → wr.cell? ⟨b, o + i * 6 + c, none⟩ = (mg i).cells[c]? := by
            rcases HH.out.cells with h' | h'
            · omega
            · exact h'
          have c5 : wr.cell? ⟨b, o + i * 6 + 5, none⟩ = some (.slice (mg i).pa (mg i).pl (mg i).pc) := hc i hlt 5 (by omega)
          have hpl := (HH.out.dom i hlt).2.2.1
          unfold maxLen at hpl
          clear hc
          generalize (mg i).pl = pl at *
          by_cases q0 : pl ≤ 1048576
          · by_cases q1 : z + pl ≤ 1048576
            · go_wp2
              go_roundg (n - (i + 1))
              case measure => omega
              case rel => exact ⟨z + pl, i + 1, rfl, by omega, by go_num, by go_num, q1, rfl⟩
            · go_wp2
              go_ret
              exact ⟨⟨_, rfl⟩, rfl⟩
          · go_wp2
            go_ret
            exact ⟨⟨_, rfl⟩, rfl⟩
        · have e : i = n := by omega
          subst e
          go_wp2
          go_meet
          case rel => exact ⟨z, rfl, hz, rfl⟩
    case rest =>
      obtain ⟨z, rfl, hz, rfl⟩ := hcut
      go_wp2
      go_ret
      exact ⟨⟨_, rfl⟩, rfl⟩
  · go_enter Try.func26, Try.ntmps26
    go_wp2
    go_ret
    exact ⟨⟨_, rfl⟩, rfl⟩

set_option maxHeartbeats 800000 in
theorem bytes_script (w : World) (a : Option Addr) (n c : Nat) (mg : Nat → MsgV) (pb : Nat → Nat → Nat) (a1 : Option Addr) (n1 c1 : Nat) (h : MsgsIn w a n mg pb) (hn : n ≤ maxLen) (hn1 : n1 ≤ maxLen) : Answers 29 #[.slice a n c, .slice a1 n1 c1] w := by
  unfold Answers
  unfold maxLen at hn hn1
  have HH := hide h
  clear h
  by_cases p0 : n ≤ 1048576
  · go_enter Try.func29, Try.ntmps29
    go_upto_block 0 with fail
    go_cut [4, 5, 6] from 16 to 38 (fun v4 v5 v6 wx => ∃ z : Nat, v5 = .int .i64 z ∧ z ≤ 1048576 ∧ wx = w)
    case first =>
      go_wp2
      go_loopg [4, 5, 6] n (fun g v4 v5 v6 wx => ∃ z i : Nat, n - i = g ∧ i ≤ n ∧ v5 = .int .i64 z ∧ v6 = .int .i64 i ∧ z ≤ 1048576 ∧ wx = w)
      case atStart => exact ⟨n, 0, rfl, by omega, by go_num, rfl, by omega, rfl⟩
      case round =>
        obtain ⟨z, i, rfl, hi, rfl, rfl, hz, rfl⟩ := hrel
        by_cases hlt : i < n
        · have hlt' : (i : Int) < (n : Int) := by omega
          obtain ⟨b, o, rfl, hb, hc⟩ : ∃ b o, a = some ⟨b, o, none⟩ ∧ b < wr.heap.size ∧ ∀ i, i < n → ∀ c, c < 6 → wr.cell? ⟨b, o + i * 6 + c, none⟩ = (mg i).cells[c]? := by
            rcases HH.out.cells with h' | h'
            · omega
            · exact h'
          have c5 : wr.cell? ⟨b, o + i * 6 + 5, none⟩ = some (.slice (mg i).pa (mg i).pl (mg i).pc) := hc i hlt 5 (by omega)
          have hpl := (HH.out.dom i hlt).2.2.1
          unfold maxLen at hpl
          clear hc
          generalize (mg i).pl = pl at *
          by_cases q0 : pl ≤ 1048576
          · by_cases q1 : z + pl ≤ 1048576
            · go_wp2
              go_roundg (n - (i + 1))
              case measure => omega
              case rel => exact ⟨z + pl, i + 1, rfl, by omega, by go_num, by go_num, q1, rfl⟩
            · go_wp2
              go_ret
              exact ⟨⟨_, rfl⟩, rfl⟩
          · go_wp2
            go_ret
            exact ⟨⟨_, rfl⟩, rfl⟩
        · have e : i = n := by omega
          subst e
          go_wp2
          go_meet
          case rel => exact ⟨z, rfl, hz, rfl⟩
    case rest =>
      obtain ⟨z, rfl, hz, rfl⟩ := hcut
      by_cases q0 : n1 ≤ 1048576
      · by_cases q1 : z + n1 ≤ 1048576
        · go_wp2
          go_ret
          exact ⟨⟨_, rfl⟩, rfl⟩
        · go_wp2
          go_ret
          exact ⟨⟨_, rfl⟩, rfl⟩
      · go_wp2
        go_ret
        exact ⟨⟨_, rfl⟩, rfl⟩
  · go_enter Try.func29, Try.ntmps29
    go_wp2
    go_ret
    exact ⟨⟨_, rfl⟩, rfl⟩


theorem zdisc_any (N : Nat) (w : World) (q bm : Nat) (lv : Value) (m : Nat) (bk snd : Nat → Nat) (mc : Nat → MsgV) (ids : Nat → List Nat) (rc : Nat → Rec) (at_ : Nat → Nat) (n : Nat) (H : Nat → Nat) (s : Nat) (hs : s < 65536) (above thr : Int)
    (h : QI N w q (.map (some bm)) lv m bk snd mc ids rc at_ n H) (hm : QMap w bm m bk snd) :
    Calls Try.prog 27 #[.pointer (some ⟨q, 0, none⟩), .int .u16 s, .int .i64 above, .int .i64 thr] w fun e w' => e = .returned (.tuple #[]) ∧ Discarded N w q (.map (some bm)) lv m bk snd mc ids s above thr w' := by
  have HC := hide (disc_any N w q bm lv m bk snd mc ids rc at_ n H s hs above thr h hm)
  clear h hm
  go_enter Try.func27, Try.ntmps27
  go_wp2_with fail
  refine Calls.mono HC.out ?_
  rintro e w' ⟨rfl, hD⟩
  have HD := hide hD
  clear hD
  go_wp2
  go_end0
  exact ⟨rfl, HD.out⟩

/-- Message i goes. -/
def gone (mg : Nat → MsgV) (s : Nat) (above thr : Int) (i : Nat) : Bool := decide ((mg i).fr = s) && (decide (above < (mg i).ts) && decide ((mg i).ts ≤ thr))

theorem AliveIn.congr {w : World} {B n : Nat} {al al' : Nat → Bool} (h : AliveIn w B n al) (e : ∀ j, j < n → al' j = al j) : AliveIn w B n al' := by
  obtain ⟨cur, h1, h2, h3⟩ := h
  exact ⟨cur, h1, h2, fun j hj => by rw [e j hj]; exact h3 j hj⟩

def goneTo (mg : Nat → MsgV) (al : Nat → Bool) (s : Nat) (above thr : Int) (i j : Nat) : Bool := if j < i then al j && !gone mg s above thr j else al j

set_option maxHeartbeats 1600000 in
theorem mdisc_any (N : Nat) (w0 w : World) (a : Option Addr) (n c : Nat) (mg : Nat → MsgV) (pb : Nat → Nat → Nat) (B : Nat) (al : Nat → Bool) (s : Nat) (above thr : Int) (h : MsgsIn w0 a n mg pb) (hb0 : Below w0.heap.size w0 w) (hB0 : w0.heap.size ≤ B) (hN : N ≤ B) (hn : n ≤ 4096) (hA : AliveIn w B n al) :
    Calls Try.prog 28 #[.slice a n c, .slice (some ⟨B, 0, none⟩) n n, .int .u16 s, .int .i64 above, .int .i64 thr] w fun e w' => e = .returned (.tuple #[]) ∧ AliveIn w' B n (goneTo mg al s above thr n) ∧ (∀ x, x ≠ B → w'.heap[x]? = w.heap[x]?) ∧ Fr N [4] w w' := by
  have HH := hide h
  have HA := hide hA
  have HB0 := hide hb0
  clear h hA hb0
  go_enter Try.func28, Try.ntmps28
  go_upto_block 0 with fail
  go_wp2
  go_loopg [10] n (fun g v10 wx => ∃ i : Nat, n - i = g ∧ i ≤ n ∧ v10 = .int .i64 i ∧ AliveIn wx B n (goneTo mg al s above thr i) ∧ (∀ x, x ≠ B → wx.heap[x]? = w.heap[x]?) ∧ Fr N [4] w wx)
  case atStart => exact ⟨0, rfl, by omega, rfl, HA.out.congr (fun j hj => by simp [goneTo]), fun _ _ => rfl, Fr.refl _ _ _⟩
  case round =>
    obtain ⟨i, rfl, hi, rfl, hAi, hO, hF⟩ := hrel
    by_cases hlt : i < n
    · have hlt' : (i : Int) < (n : Int) := by omega
      obtain ⟨b, o, rfl, hb, hc⟩ := HH.out.at hlt
      obtain ⟨ca, fa⟩ := hAi.cell hlt
      have eb := (hO b (by omega)).trans (HB0.out.block b hb)
      have c0 : wr.cell? ⟨b, o + i * 6, none⟩ = some (.int .i64 (mg i).ts) := (World.cell?_of_block (a := ⟨b, o + i * 6, none⟩) eb).trans (hc i hlt 0 (by omega))
      have c1 : wr.cell? ⟨b, o + i * 6 + 1, none⟩ = some (.int .u16 (mg i).fr) := (World.cell?_of_block (a := ⟨b, o + i * 6 + 1, none⟩) eb).trans (hc i hlt 1 (by omega))
      have ea : goneTo mg al s above thr i i = al i := by simp [goneTo]
      rw [ea] at ca
      have HK := hide (show al i = false ∨ gone mg s above thr i = false → AliveIn wr B n (goneTo mg al s above thr (i + 1)) from fun e => hAi.congr fun j hj => by
        unfold goneTo
        by_cases e1 : j < i
        · rw [if_pos e1, if_pos (by omega)]
        · by_cases e2 : j = i
          · subst e2
            rw [if_pos (by omega), if_neg (by omega)]
            rcases e with e | e <;> simp [e]
          · rw [if_neg (by omega), if_neg (by omega)])
      have HP := hide (show gone mg s above thr i = true → AliveIn (wr.setCell ⟨B, i, none⟩ (.bool false)) B n (goneTo mg al s above thr (i + 1)) from fun e => (hAi.put hlt false).congr fun j hj => by
        unfold goneTo
        by_cases e2 : j = i
        · subst e2
          simp [e]
        · rw [if_neg e2]
          by_cases e1 : j < i
          · rw [if_pos e1, if_pos (by omega)]
          · rw [if_neg (by omega), if_neg (by omega)])
      have HO := hide hO
      have HF := hide hF
      have HX := hide hAi
      have HG := hide (show gone mg s above thr i = (decide ((mg i).fr = s) && (decide (above < (mg i).ts) && decide ((mg i).ts ≤ thr))) from rfl)
      generalize gone mg s above thr i = gi at HG HK HP
      clear hAi hO hF hc eb ea
      generalize (mg i).ts = t at *
      generalize (mg i).fr = sx at *
      cases hal : al i with
      | false =>
        rw [hal] at ca
        have HL := hide hal
        clear hal
        go_wp2_with fail
        go_roundg (n - (i + 1))
        case measure => omega
        case rel => exact ⟨i + 1, rfl, by omega, by go_num, HK.out (.inl HL.out), HO.out, HF.out⟩
      | true =>
        rw [hal] at ca
        clear hal
        by_cases p0 : sx = s
        · have d0 : ((sx : Int) == (s : Int)) = true := by simp [p0]
          by_cases p1 : above < t
          · have d1 : decide (above < t) = true := by simpa using p1
            by_cases p2 : t ≤ thr
            · have d2 : decide (t ≤ thr) = true := by simpa using p2
              have HG1 := hide (show gi = true by rw [HG.out]; simp [p0, p1, p2])
              go_wp2_with fail
              go_roundg (n - (i + 1))
              case measure => omega
              case rel =>
                obtain ⟨cur, hcu, _⟩ := HX.out
                exact ⟨i + 1, rfl, by omega, by go_num, HP.out HG1.out, fun x hx => (set_other _ hx).trans (HO.out x hx), HF.out.set (o := i) hcu (by simp) hN _⟩
            · have d2 : decide (t ≤ thr) = false := by simpa using p2
              have HG1 := hide (show gi = false by rw [HG.out]; simp [p0, p1, p2])
              go_wp2_with fail
              go_roundg (n - (i + 1))
              case measure => omega
              case rel => exact ⟨i + 1, rfl, by omega, by go_num, HK.out (.inr HG1.out), HO.out, HF.out⟩
          · have d1 : decide (above < t) = false := by simpa using p1
            have HG1 := hide (show gi = false by rw [HG.out]; simp [p0, p1])
            go_wp2_with fail
            go_roundg (n - (i + 1))
            case measure => omega
            case rel => exact ⟨i + 1, rfl, by omega, by go_num, HK.out (.inr HG1.out), HO.out, HF.out⟩
        · have d0 : ((sx : Int) == (s : Int)) = false := by simp; omega
          have HG1 := hide (show gi = false by rw [HG.out]; simp [p0])
          go_wp2_with fail
          go_roundg (n - (i + 1))
          case measure => omega
          case rel => exact ⟨i + 1, rfl, by omega, by go_num, HK.out (.inr HG1.out), HO.out, HF.out⟩
    · have e : i = n := by omega
      subst e
      have HX := hide (And.intro hAi (And.intro hO hF))
      clear hAi hO hF
      go_wp2
      go_end0
      exact ⟨rfl, HX.out⟩

/-- The messages of one sender that are stamped in a span are let go. -/
theorem Flat.discard {n m : Nat} {snd : Nat → Nat} {mg mc : Nat → MsgV} {ids ids' : Nat → List Nat} {al : Nat → Bool} (h : Flat n m snd mg ids al) {s : Nat} {above thr : Int} (hc : ∀ i, i < n → (mc i).ts = (mg i).ts)
    (he : ∀ y, y < m → ids' y = if snd y = s then (ids y).filter (stays mc above thr) else ids y) : Flat n m snd mg ids' (goneTo mg al s above thr n) := by
  have hsub : ∀ y, y < m → ∀ i, i ∈ ids' y → i ∈ ids y := fun y hy i hi => by
    rw [he y hy] at hi
    split at hi
    · exact (List.mem_filter.1 hi).1
    · exact hi
  refine ⟨fun i hi => ?_, fun x hx i hi' => h.lt x hx i (hsub x hx i hi'), h.inj, fun x hx => ?_⟩
  · unfold goneTo
    rw [if_pos hi]
    constructor
    · intro hal
      simp only [Bool.and_eq_true, Bool.not_eq_true'] at hal
      obtain ⟨x, hx, hm⟩ := (h.alive i hi).1 hal.1
      refine ⟨x, hx, ?_⟩
      rw [he x hx]
      split
      · rename_i e
        refine List.mem_filter.2 ⟨hm, ?_⟩
        have hfr := (h.lt x hx i hm).2
        have hg := hal.2
        unfold gone at hg
        unfold stays
        rw [hc i hi]
        simp only [Bool.and_eq_false_iff, decide_eq_false_iff_not, Bool.or_eq_true, decide_eq_true_eq] at hg ⊢
        omega
      · exact hm
    · rintro ⟨x, hx, hm⟩
      have hmi := hsub x hx i hm
      have hfr := (h.lt x hx i hmi).2
      simp only [Bool.and_eq_true, Bool.not_eq_true']
      refine ⟨(h.alive i hi).2 ⟨x, hx, hmi⟩, ?_⟩
      rw [he x hx] at hm
      unfold gone
      simp only [Bool.and_eq_false_iff, decide_eq_false_iff_not]
      split at hm
      · rename_i e
        have hst := (List.mem_filter.1 hm).2
        unfold stays at hst
        rw [hc i hi] at hst
        simp only [Bool.or_eq_true, decide_eq_true_eq] at hst
        omega
      · rename_i e
        left
        rw [hfr]; exact e
  · rw [he x hx]
    split
    · exact List.Pairwise.filter _ (h.sorted x hx)
    · exact h.sorted x hx

end Go.Proofs.Qxb6601345a
