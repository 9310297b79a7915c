import Derived.Test.Qxb6600136aRows
import Derived.Test.Qxb6600136aPlain
import Derived.WalkKit
import Derived.RegionTactic
import Derived.BigRegion
import Derived.Deep.CutBlock
import Derived.Deep.CutRange
namespace Go.Proofs.Qxb6600136a
open Go.RowKit
set_option linter.unusedVariables false
set_option linter.unusedSimpArgs false

theorem isDigit_yes (n : Int) (h1 : 48 ≤ n) (h2 : n ≤ 57) (w : World) :
    Calls Try.prog 25 #[.int .u8 n] w fun e w' => e = .returned (.bool true) ∧ w' = w := by
  go_enter Try.func25, Try.ntmps25
  go_wp2
  go_ret
  exact ⟨rfl, rfl⟩

theorem isDigit_no (n : Int) (h : n < 48 ∨ 57 < n) (w : World) :
    Calls Try.prog 25 #[.int .u8 n] w fun e w' => e = .returned (.bool false) ∧ w' = w := by
  rcases h with h | h
  · go_enter Try.func25, Try.ntmps25
    go_wp2
    go_ret
    exact ⟨rfl, rfl⟩
  · by_cases h' : 48 ≤ n
    · have hd : decide (n ≤ 57) = false := decide_eq_false (by omega)
      go_enter Try.func25, Try.ntmps25
      go_wp2
      go_ret
      exact ⟨rfl, rfl⟩
    · omega

/-- The two blocks while 'number' runs: the lexer (its offset at k), the token (all zero). -/
def lexW (w : World) (q : ByteArray) (k : Nat) : World :=
  (w.alloc (.cells #[.string q, .int .i64 k, .int .i64 0, .int .i64 0] 36)).alloc (.cells #[.int .u8 0, .string { data := #[] }, .int .i64 0, .int .i64 0, .int .i64 0] 39)

theorem drop_at (s : ByteArray) (k : Nat) (h : k < s.size) : s.data.toList.drop k = s[k] :: s.data.toList.drop (k + 1) := by
  rw [List.drop_eq_getElem_cons (by simpa using h)]; rfl

theorem dl_step (q : ByteArray) (p k : Nat) (hlt : k < q.size) (h48 : 48 ≤ (q[k].toNat : Int)) (h57 : (q[k].toNat : Int) ≤ 57)
    (h3 : p + Plain.dl (q.data.toList.drop p) = k + Plain.dl (q.data.toList.drop k)) :
    p + Plain.dl (q.data.toList.drop p) = (k + 1) + Plain.dl (q.data.toList.drop (k + 1)) := by
  rw [drop_at q k hlt] at h3
  have hdd : Plain.isDig q[k] = true := by simp [Plain.isDig]; omega
  simp only [Plain.dl, hdd, if_true] at h3
  omega

theorem dl_stop (q : ByteArray) (p k : Nat) (hlt : k < q.size) (hd : ¬ (48 ≤ (q[k].toNat : Int) ∧ (q[k].toNat : Int) ≤ 57))
    (h3 : p + Plain.dl (q.data.toList.drop p) = k + Plain.dl (q.data.toList.drop k)) :
    k = p + Plain.dl (q.data.toList.drop p) := by
  rw [drop_at q k hlt] at h3
  have hdd : Plain.isDig q[k] = false := by simp [Plain.isDig]; omega
  simp only [Plain.dl, hdd] at h3
  rw [h3]; rfl

theorem dl_end (q : ByteArray) (p k : Nat) (hk : k ≤ q.size) (hlt : ¬ k < q.size)
    (h3 : p + Plain.dl (q.data.toList.drop p) = k + Plain.dl (q.data.toList.drop k)) :
    k = p + Plain.dl (q.data.toList.drop p) := by
  rw [List.drop_of_length_le (by simp; omega) (i := k)] at h3
  rw [h3]; rfl

theorem dl_size (q : ByteArray) (p : Nat) (hp : p ≤ q.size) : p + Plain.dl (q.data.toList.drop p) ≤ q.size := by
  have := Plain.dl_le (q.data.toList.drop p)
  simp at this
  omega

theorem frac_yes (q : ByteArray) (k : Nat) (hlt : k < q.size) (h : (q[k].toNat : Int) = 46) :
    Plain.frac (q.data.toList.drop k) = (1 + Plain.dl (q.data.toList.drop (k + 1)), true) := by
  rw [drop_at q k hlt]
  simp only [Plain.frac]
  rw [if_pos (by omega)]

theorem frac_no (q : ByteArray) (k : Nat) (h : ¬ ∃ hlt : k < q.size, (q[k].toNat : Int) = 46) :
    Plain.frac (q.data.toList.drop k) = (0, false) := by
  by_cases hlt : k < q.size
  · rw [drop_at q k hlt]
    simp only [Plain.frac]
    rw [if_neg (fun h' => h ⟨hlt, by omega⟩)]
  · rw [List.drop_of_length_le (by simp; omega)]; rfl

/-- Stands an exponent's letter at k? -/
def isE (q : ByteArray) (k : Nat) : Bool := if h : k < q.size then decide ((q[k].toNat : Int) = 101 ∨ (q[k].toNat : Int) = 69) else false

theorem isE_yes (q : ByteArray) (k : Nat) (hlt : k < q.size) (h : (q[k].toNat : Int) = 101 ∨ (q[k].toNat : Int) = 69) : isE q k = true := by
  simp only [isE, hlt, dif_pos]; exact decide_eq_true h
theorem isE_no (q : ByteArray) (k : Nat) (h : ¬ ∃ hlt : k < q.size, ((q[k].toNat : Int) = 101 ∨ (q[k].toNat : Int) = 69)) : isE q k = false := by
  by_cases hlt : k < q.size
  · simp only [isE, hlt, dif_pos]; exact decide_eq_false (fun h' => h ⟨hlt, h'⟩)
  · simp [isE, hlt]
theorem isE_lt (q : ByteArray) (k : Nat) (h : isE q k = true) : k < q.size := by
  by_cases hlt : k < q.size
  · exact hlt
  · simp [isE, hlt] at h

theorem expo_no (q : ByteArray) (k : Nat) (h : isE q k = false) : Plain.expo (q.data.toList.drop k) = (0, false) := by
  by_cases hlt : k < q.size
  · rw [drop_at q k hlt]
    simp only [isE, hlt, dif_pos] at h
    have h' := of_decide_eq_false h
    simp only [Plain.expo]
    rw [if_neg (by omega)]
  · rw [List.drop_of_length_le (by simp; omega)]; rfl

theorem expo_yes (q : ByteArray) (k : Nat) (h : isE q k = true) :
    Plain.expo (q.data.toList.drop k) = (if Plain.dl (q.data.toList.drop (k + 1 + Plain.sgn (q.data.toList.drop (k + 1)))) = 0 then (0, false)
      else (1 + Plain.sgn (q.data.toList.drop (k + 1)) + Plain.dl (q.data.toList.drop (k + 1 + Plain.sgn (q.data.toList.drop (k + 1)))), true)) := by
  have hlt := isE_lt q k h
  rw [drop_at q k hlt]
  simp only [isE, hlt, dif_pos] at h
  have h' := of_decide_eq_true h
  simp only [Plain.expo]
  rw [if_pos (by omega)]
  simp only [List.drop_drop]

/-- Stands a sign at k? -/
def isS (q : ByteArray) (k : Nat) : Bool := if h : k < q.size then decide ((q[k].toNat : Int) = 43 ∨ (q[k].toNat : Int) = 45) else false

theorem isS_yes (q : ByteArray) (k : Nat) (hlt : k < q.size) (h : (q[k].toNat : Int) = 43 ∨ (q[k].toNat : Int) = 45) : isS q k = true := by
  simp only [isS, hlt, dif_pos]; exact decide_eq_true h
theorem isS_no (q : ByteArray) (k : Nat) (h : ¬ ∃ hlt : k < q.size, ((q[k].toNat : Int) = 43 ∨ (q[k].toNat : Int) = 45)) : isS q k = false := by
  by_cases hlt : k < q.size
  · simp only [isS, hlt, dif_pos]; exact decide_eq_false (fun h' => h ⟨hlt, h'⟩)
  · simp [isS, hlt]

theorem sgn_no (q : ByteArray) (k : Nat) (h : isS q k = false) : Plain.sgn (q.data.toList.drop k) = 0 := by
  by_cases hlt : k < q.size
  · rw [drop_at q k hlt]
    simp only [isS, hlt, dif_pos] at h
    have h' := of_decide_eq_false h
    simp only [Plain.sgn]
    rw [if_neg (by omega)]
  · rw [List.drop_of_length_le (by simp; omega)]; rfl
theorem sgn_yes (q : ByteArray) (k : Nat) (h : isS q k = true) : Plain.sgn (q.data.toList.drop k) = 1 := by
  by_cases hlt : k < q.size
  · rw [drop_at q k hlt]
    simp only [isS, hlt, dif_pos] at h
    have h' := of_decide_eq_true h
    simp only [Plain.sgn]
    rw [if_pos (by omega)]
  · simp [isS, hlt] at h

theorem expo_digit (q : ByteArray) (x : Nat) (hx : x < q.size) (hd : 48 ≤ (q[x].toNat : Int) ∧ (q[x].toNat : Int) ≤ 57) : Plain.dl (q.data.toList.drop x) ≠ 0 := by
  rw [drop_at q x hx]
  have hdd : Plain.isDig q[x] = true := by simp [Plain.isDig]; omega
  simp [Plain.dl, hdd]
theorem expo_nodigit (q : ByteArray) (x : Nat) (hx : x < q.size) (hd : ¬ (48 ≤ (q[x].toNat : Int) ∧ (q[x].toNat : Int) ≤ 57)) : Plain.dl (q.data.toList.drop x) = 0 := by
  rw [drop_at q x hx]
  have hdd : Plain.isDig q[x] = false := by simp [Plain.isDig]; omega
  simp [Plain.dl, hdd]
theorem expo_noend (q : ByteArray) (x : Nat) (hx : ¬ x < q.size) : Plain.dl (q.data.toList.drop x) = 0 := by
  rw [List.drop_of_length_le (by simp; omega)]; rfl

theorem expo_close1 (w : World) (q : ByteArray) (e2 x k : Nat) (k1 : Int) (hk : k = x + Plain.dl (q.data.toList.drop x)) (hx : x = e2 + 1 + Plain.sgn (q.data.toList.drop (e2 + 1)))
    (h : Plain.expo (q.data.toList.drop e2) = (if Plain.dl (q.data.toList.drop x) = 0 then (0, false)
      else (1 + Plain.sgn (q.data.toList.drop (e2 + 1)) + Plain.dl (q.data.toList.drop x), true))) (hd : Plain.dl (q.data.toList.drop x) ≠ 0) :
    Value.int .u8 5 = .int .u8 (if (Plain.expo (q.data.toList.drop e2)).2 then 5 else k1) ∧ (lexW w q k).drew = (lexW w q (e2 + (Plain.expo (q.data.toList.drop e2)).1)).drew := by
  rw [if_neg hd] at h
  rw [h]
  refine ⟨rfl, ?_⟩
  simp only
  rw [show k = e2 + (1 + Plain.sgn (q.data.toList.drop (e2 + 1)) + Plain.dl (q.data.toList.drop x)) from by omega]

theorem expo_close0 (w : World) (q : ByteArray) (e2 x : Nat) (k1 : Int)
    (h : Plain.expo (q.data.toList.drop e2) = (if Plain.dl (q.data.toList.drop x) = 0 then (0, false)
      else (1 + Plain.sgn (q.data.toList.drop (e2 + 1)) + Plain.dl (q.data.toList.drop x), true))) (hd : Plain.dl (q.data.toList.drop x) = 0) :
    Value.int .u8 k1 = .int .u8 (if (Plain.expo (q.data.toList.drop e2)).2 then 5 else k1) ∧ (lexW w q e2).drew = (lexW w q (e2 + (Plain.expo (q.data.toList.drop e2)).1)).drew := by
  rw [if_pos hd] at h
  rw [h]
  exact ⟨rfl, rfl⟩

/-- Where the token at p ends; its kind. -/
def endAt (q : ByteArray) (p : Nat) : Nat := p + (Plain.nlex (q.data.toList.drop p)).1
def kindAt (q : ByteArray) (p : Nat) : Int := if (Plain.nlex (q.data.toList.drop p)).2 then 5 else 4
def numW (w : World) (q : ByteArray) (p : Nat) : World :=
  ((w.alloc (.cells #[.string q, .int .i64 (endAt q p), .int .i64 0, .int .i64 0] 36)).alloc
    (.cells #[.int .u8 (kindAt q p), .string (q.extract p (endAt q p)), .int .i64 p, .int .i64 (endAt q p), .int .i64 0] 39)).drew.drew

theorem number_close (w : World) (q : ByteArray) (p e1 e2 e3 : Nat) (k1 k2 : Int) (h1 : e1 = p + Plain.dl (q.data.toList.drop p))
    (h2 : e2 = e1 + (Plain.frac (q.data.toList.drop e1)).1) (h3 : e3 = e2 + (Plain.expo (q.data.toList.drop e2)).1)
    (g1 : k1 = if (Plain.frac (q.data.toList.drop e1)).2 then 5 else 4) (g2 : k2 = if (Plain.expo (q.data.toList.drop e2)).2 then 5 else k1) :
    Ending.returned (.agg #[.int .u8 k2, .string (q.extract p e3), .int .i64 p, .int .i64 e3, .int .i64 0]) =
      .returned (.agg #[.int .u8 (kindAt q p), .string (q.extract p (endAt q p)), .int .i64 p, .int .i64 (endAt q p), .int .i64 0]) ∧
    ((w.alloc (.cells #[.string q, .int .i64 e3, .int .i64 0, .int .i64 0] 36)).alloc
      (.cells #[.int .u8 k2, .string (q.extract p e3), .int .i64 p, .int .i64 e3, .int .i64 0] 39)).drew.drew = numW w q p := by
  have he : e3 = endAt q p := by
    subst h3; subst h2; subst h1
    simp only [endAt, Plain.nlex, List.drop_drop, Nat.add_assoc]
  have hk : k2 = kindAt q p := by
    subst g2; subst g1; subst h2; subst h1
    simp only [kindAt, Plain.nlex, List.drop_drop, Nat.add_assoc]
    split <;> rename_i hx <;> simp [hx]
  rw [he, hk]
  exact ⟨rfl, rfl⟩

set_option maxHeartbeats 1600000 in
set_option maxRecDepth 100000 in
theorem number_any (q : ByteArray) (p : Nat) (hq : q.size ≤ 1048576) (hp : p ≤ q.size) (w : World) :
    Calls Try.prog 22 #[.pointer (some ⟨w.heap.size, 0, none⟩)] (w.alloc (.cells #[.string q, .int .i64 p, .int .i64 0, .int .i64 0] 36)) fun e w' =>
      e = .returned (.agg #[.int .u8 (kindAt q p), .string (q.extract p (endAt q p)), .int .i64 p, .int .i64 (endAt q p), .int .i64 0]) ∧ w' = numW w q p := by
  go_enter Try.func22, Try.ntmps22
  go_wp2
  go_region
  go_upto_block 0 with fail
  go_cut [] from 15 to 182 (fun wx => wx = (lexW w q (p + Plain.dl (q.data.toList.drop p))).drew)
  case first =>
    go_wp2
    go_loopg [] (q.size - p) (fun g wr => ∃ k : Nat, g = q.size - k ∧ p ≤ k ∧ k ≤ q.size ∧ p + Plain.dl (q.data.toList.drop p) = k + Plain.dl (q.data.toList.drop k) ∧ wr = (lexW w q k).drew)
    case atStart => exact ⟨p, rfl, Nat.le_refl _, hp, rfl, rfl⟩
    case round =>
      obtain ⟨k, rfl, h1, h2, h3, rfl⟩ := hrel
      have H3 : Hid _ := h3; clear h3
      unfold lexW
      by_cases hlt : k < q.size
      · by_cases hd : 48 ≤ (q[k].toNat : Int) ∧ (q[k].toNat : Int) ≤ 57
        · go_wp2_with (go_at_call 25; refine (isDigit_yes _ hd.1 hd.2 _).mono ?_; rintro e w' ⟨rfl, rfl⟩)
          go_roundg (q.size - (k + 1))
          case measure => omega
          case rel => exact ⟨k + 1, rfl, by omega, by omega, dl_step q p k hlt hd.1 hd.2 H3.out, rfl⟩
        · go_wp2_with (go_at_call 25; refine (isDigit_no _ (by omega) _).mono ?_; rintro e w' ⟨rfl, rfl⟩)
          go_meet
          case rel => rw [← dl_stop q p k hlt hd H3.out]; rfl
      · go_wp2
        go_meet
        case rel => rw [← dl_end q p k h2 hlt H3.out]; rfl
  case rest =>
    subst hcut
    have hs1 := dl_size q p hp
    obtain ⟨e1, he1⟩ : ∃ e, e = p + Plain.dl (q.data.toList.drop p) := ⟨_, rfl⟩
    rw [← he1] at hs1 ⊢
    have HE1 : Hid _ := he1; clear he1
    unfold lexW
    go_step
    go_step
    go_cut [5] from 15 to 182 (fun s5 wx => s5 = .int .u8 (if (Plain.frac (q.data.toList.drop e1)).2 then 5 else 4) ∧ wx = (lexW w q (e1 + (Plain.frac (q.data.toList.drop e1)).1)).drew)
    case first =>
      by_cases hlt : e1 < q.size
      · by_cases hd : (q[e1].toNat : Int) = 46
        · have HF : Hid _ := frac_yes q e1 hlt hd
          have hb : ((q[e1].toNat : Int) == 46) = true := by simp [hd]
          have HD : Hid _ := hd; clear hd
          have hs2 := dl_size q (e1 + 1) (by omega)
          go_wp2
          go_loopg [] (q.size - (e1 + 1)) (fun g wr => ∃ k : Nat, g = q.size - k ∧ (e1 + 1) ≤ k ∧ k ≤ q.size ∧ (e1 + 1) + Plain.dl (q.data.toList.drop (e1 + 1)) = k + Plain.dl (q.data.toList.drop k) ∧ wr = (lexW w q k).drew)
          case atStart => exact ⟨e1 + 1, rfl, Nat.le_refl _, by omega, rfl, rfl⟩
          case round =>
            obtain ⟨k, rfl, h1, h2, h3, rfl⟩ := hrel
            have H3 : Hid _ := h3; clear h3
            unfold lexW
            by_cases hlt : k < q.size
            · by_cases hd : 48 ≤ (q[k].toNat : Int) ∧ (q[k].toNat : Int) ≤ 57
              · go_wp2_with (go_at_call 25; refine (isDigit_yes _ hd.1 hd.2 _).mono ?_; rintro e w' ⟨rfl, rfl⟩)
                go_roundg (q.size - (k + 1))
                case measure => omega
                case rel => exact ⟨k + 1, rfl, by omega, by omega, dl_step q (e1 + 1) k hlt hd.1 hd.2 H3.out, rfl⟩
              · go_wp2_with (go_at_call 25; refine (isDigit_no _ (by omega) _).mono ?_; rintro e w' ⟨rfl, rfl⟩)
                go_meet
                case rel => exact ⟨by rw [HF.out]; rfl, by rw [HF.out, ← Nat.add_assoc, ← dl_stop q (e1 + 1) k hlt hd H3.out]; rfl⟩
            · go_wp2
              go_meet
              case rel => exact ⟨by rw [HF.out]; rfl, by rw [HF.out, ← Nat.add_assoc, ← dl_end q (e1 + 1) k h2 hlt H3.out]; rfl⟩
        · have HF : Hid _ := frac_no q e1 (fun ⟨_, h⟩ => hd h)
          have hb : ((q[e1].toNat : Int) == 46) = false := by simp [hd]
          go_wp2
          go_meet
          case rel => exact ⟨by rw [HF.out]; rfl, by rw [HF.out]; rfl⟩
      · have HF : Hid _ := frac_no q e1 (fun ⟨h, _⟩ => hlt h)
        go_wp2
        go_meet
        case rel => exact ⟨by rw [HF.out]; rfl, by rw [HF.out]; rfl⟩
    case rest =>
      obtain ⟨rfl, rfl⟩ := hcut
      have hs2 : e1 + (Plain.frac (q.data.toList.drop e1)).1 ≤ q.size := by
        have := Plain.frac_le (q.data.toList.drop e1)
        simp at this
        omega
      obtain ⟨e2, he2⟩ : ∃ e, e = e1 + (Plain.frac (q.data.toList.drop e1)).1 := ⟨_, rfl⟩
      rw [← he2] at hs2 ⊢
      have HE2 : Hid _ := he2; clear he2
      obtain ⟨k1, hk1⟩ : ∃ e : Int, e = (if (Plain.frac (q.data.toList.drop e1)).2 then 5 else 4) := ⟨_, rfl⟩
      rw [← hk1]
      have HK1 : Hid _ := hk1; clear hk1
      unfold lexW
      go_step
      go_step
      go_cut [5] from 6 to 182 (fun s5 wx => s5 = .int .u8 (if (Plain.expo (q.data.toList.drop e2)).2 then 5 else k1) ∧ wx = (lexW w q (e2 + (Plain.expo (q.data.toList.drop e2)).1)).drew)
      case first =>
        go_upto_region 10 with fail
        go_cut [108] from 84 to 108 (fun s wx => s = .bool (isE q e2) ∧ wx = (lexW w q e2).drew)
        case first =>
          by_cases hlt : e2 < q.size
          · by_cases hd : (q[e2].toNat : Int) = 101
            · have HB : Hid _ := isE_yes q e2 hlt (Or.inl hd)
              have hb : ((q[e2].toNat : Int) == 101) = true := by simp [hd]
              have HD : Hid _ := hd; clear hd
              go_wp2
              go_meet
              case rel => exact ⟨by rw [HB.out], rfl⟩
            · by_cases hd' : (q[e2].toNat : Int) = 69
              · have HB : Hid _ := isE_yes q e2 hlt (Or.inr hd')
                have hb : ((q[e2].toNat : Int) == 101) = false := by simp [hd]
                have hb' : ((q[e2].toNat : Int) == 69) = true := by simp [hd']
                have HD : Hid _ := hd; clear hd
                have HD' : Hid _ := hd'; clear hd'
                go_wp2
                go_meet
                case rel => exact ⟨by rw [HB.out], rfl⟩
              · have HB : Hid _ := isE_no q e2 (fun ⟨_, h⟩ => h.elim hd hd')
                have hb : ((q[e2].toNat : Int) == 101) = false := by simp [hd]
                have hb' : ((q[e2].toNat : Int) == 69) = false := by simp [hd']
                go_wp2
                go_meet
                case rel => exact ⟨by rw [HB.out], rfl⟩
          · have HB : Hid _ := isE_no q e2 (fun ⟨h, _⟩ => hlt h)
            go_wp2
            go_meet
            case rel => exact ⟨by rw [HB.out], rfl⟩
        case rest =>
          obtain ⟨rfl, rfl⟩ := hcut
          unfold lexW
          cases hE : isE q e2
          · have HX : Hid _ := expo_no q e2 hE
            clear hE
            go_wp2
            go_meet
            case rel => exact ⟨by rw [HX.out]; rfl, by rw [HX.out]; rfl⟩
          · have hlt := isE_lt q e2 hE
            have HX : Hid _ := expo_yes q e2 hE
            clear hE
            go_upto_region 12 with fail
            go_cut [129] from 114 to 129 (fun s wx => s = .bool (isS q (e2 + 1)) ∧ wx = (lexW w q e2).drew)
            case first =>
              by_cases hl1 : e2 + 1 < q.size
              · by_cases hd : (q[e2 + 1].toNat : Int) = 43
                · have HB : Hid _ := isS_yes q (e2 + 1) hl1 (Or.inl hd)
                  have hb : ((q[e2 + 1].toNat : Int) == 43) = true := by simp [hd]
                  have HD : Hid _ := hd; clear hd
                  go_wp2
                  go_meet
                  case rel => exact ⟨by rw [HB.out], rfl⟩
                · by_cases hd' : (q[e2 + 1].toNat : Int) = 45
                  · have HB : Hid _ := isS_yes q (e2 + 1) hl1 (Or.inr hd')
                    have hb : ((q[e2 + 1].toNat : Int) == 43) = false := by simp [hd]
                    have hb' : ((q[e2 + 1].toNat : Int) == 45) = true := by simp [hd']
                    have HD : Hid _ := hd; clear hd
                    have HD' : Hid _ := hd'; clear hd'
                    go_wp2
                    go_meet
                    case rel => exact ⟨by rw [HB.out], rfl⟩
                  · have HB : Hid _ := isS_no q (e2 + 1) (fun ⟨_, h⟩ => h.elim hd hd')
                    have hb : ((q[e2 + 1].toNat : Int) == 43) = false := by simp [hd]
                    have hb' : ((q[e2 + 1].toNat : Int) == 45) = false := by simp [hd']
                    go_wp2
                    go_meet
                    case rel => exact ⟨by rw [HB.out], rfl⟩
              · have HB : Hid _ := isS_no q (e2 + 1) (fun ⟨h, _⟩ => hl1 h)
                go_wp2
                go_meet
                case rel => exact ⟨by rw [HB.out], rfl⟩
            case rest =>
              obtain ⟨rfl, rfl⟩ := hcut
              unfold lexW
              have hs3 : e2 + 1 + Plain.sgn (q.data.toList.drop (e2 + 1)) ≤ q.size := by
                have := Plain.sgn_le (q.data.toList.drop (e2 + 1))
                simp at this
                omega
              go_upto_if 129 with fail
              go_cut [6] from 114 to 131 (fun s wx => s = .int .i64 ((e2 + 1 + Plain.sgn (q.data.toList.drop (e2 + 1)) : Nat) : Int) ∧ wx = (lexW w q e2).drew)
              case first =>
                cases hS : isS q (e2 + 1)
                · have HX : Hid _ := sgn_no q (e2 + 1) hS
                  clear hS
                  go_wp2
                  go_meet
                  case rel => exact ⟨by rw [HX.out]; go_num, rfl⟩
                · have HX : Hid _ := sgn_yes q (e2 + 1) hS
                  clear hS
                  go_wp2
                  go_meet
                  case rel => exact ⟨by rw [HX.out]; go_num, rfl⟩
              case rest =>
                obtain ⟨rfl, rfl⟩ := hcut
                obtain ⟨x, hx⟩ : ∃ x, x = e2 + 1 + Plain.sgn (q.data.toList.drop (e2 + 1)) := ⟨_, rfl⟩
                rw [← hx] at hs3 HX ⊢
                have HXX : Hid _ := hx; clear hx
                unfold lexW
                by_cases hxl : x < q.size
                · by_cases hd : 48 ≤ (q[x].toNat : Int) ∧ (q[x].toNat : Int) ≤ 57
                  · have hs4 := dl_size q x (by omega)
                    have HY : Hid _ := expo_digit q x hxl hd
                    go_wp2_with (go_at_call 25; refine (isDigit_yes _ hd.1 hd.2 _).mono ?_; rintro e w' ⟨rfl, rfl⟩)
                    go_loopg [] (q.size - x) (fun g wr => ∃ k : Nat, g = q.size - k ∧ x ≤ k ∧ k ≤ q.size ∧ x + Plain.dl (q.data.toList.drop x) = k + Plain.dl (q.data.toList.drop k) ∧ wr = (lexW w q k).drew)
                    case atStart => exact ⟨x, rfl, Nat.le_refl _, by omega, rfl, rfl⟩
                    case round =>
                      clear hd
                      obtain ⟨k, rfl, h1, h2, h3, rfl⟩ := hrel
                      have H3 : Hid _ := h3; clear h3
                      unfold lexW
                      by_cases hlt : k < q.size
                      · by_cases hd : 48 ≤ (q[k].toNat : Int) ∧ (q[k].toNat : Int) ≤ 57
                        · go_wp2_with (go_at_call 25; refine (isDigit_yes _ hd.1 hd.2 _).mono ?_; rintro e w' ⟨rfl, rfl⟩)
                          go_roundg (q.size - (k + 1))
                          case measure => omega
                          case rel => exact ⟨k + 1, rfl, by omega, by omega, dl_step q x k hlt hd.1 hd.2 H3.out, rfl⟩
                        · go_wp2_with (go_at_call 25; refine (isDigit_no _ (by omega) _).mono ?_; rintro e w' ⟨rfl, rfl⟩)
                          go_meet
                          case rel => exact expo_close1 w q e2 x k k1 (dl_stop q x k hlt hd H3.out) HXX.out HX.out HY.out
                      · go_wp2
                        go_meet
                        case rel => exact expo_close1 w q e2 x k k1 (dl_end q x k h2 hlt H3.out) HXX.out HX.out HY.out
                  · have HY : Hid _ := expo_nodigit q x hxl hd
                    go_wp2_with (go_at_call 25; refine (isDigit_no _ (by omega) _).mono ?_; rintro e w' ⟨rfl, rfl⟩)
                    go_meet
                    case rel => exact expo_close0 w q e2 x k1 HX.out HY.out
                · have HY : Hid _ := expo_noend q x hxl
                  go_wp2
                  go_meet
                  case rel => exact expo_close0 w q e2 x k1 HX.out HY.out
      case rest =>
        obtain ⟨rfl, rfl⟩ := hcut
        have hs4 : e2 + (Plain.expo (q.data.toList.drop e2)).1 ≤ q.size := by
          have := Plain.expo_le (q.data.toList.drop e2)
          simp at this
          omega
        obtain ⟨e3, he3⟩ : ∃ e, e = e2 + (Plain.expo (q.data.toList.drop e2)).1 := ⟨_, rfl⟩
        rw [← he3] at hs4 ⊢
        obtain ⟨k2, hk2⟩ : ∃ e : Int, e = (if (Plain.expo (q.data.toList.drop e2)).2 then 5 else k1) := ⟨_, rfl⟩
        rw [← hk2]
        have hp3 : p ≤ e3 := by have h1 := HE1.out; have h2 := HE2.out; omega
        have HE3 : Hid _ := he3; clear he3
        have HK2 : Hid _ := hk2; clear hk2
        unfold lexW
        go_wp2
        go_region
        all_goals go_wp2
        all_goals
          refine bodyPost_ret (v := .agg #[.int .u8 k2, .string (q.extract p e3), .int .i64 p, .int .i64 e3, .int .i64 0]) (by simp [results, Try.results22, go_sem]) rfl ?_
          exact number_close w q p e1 e2 e3 k1 k2 HE1.out HE2.out HE3.out HK1.out HK2.out

end Go.Proofs.Qxb6600136a
