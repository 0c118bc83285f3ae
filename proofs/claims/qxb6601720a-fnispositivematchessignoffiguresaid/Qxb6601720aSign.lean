/-
  The walks of isPositive (15, with strings.HasPrefix 16, 17) and figureSign (11).
-/
import Derived.Test.Qxb6601720aWell
import Derived.Lib.Strings
namespace Go.Proofs.Qxb6601720a
open Go.RowKit

/-- No byte before place k is a digit from 1 to 9. -/
def noPos (l : List UInt8) (k : Nat) : Prop := ∀ m, m < k → ¬ (49 ≤ bt l m ∧ bt l m ≤ 57)
theorem noPos_succ {l : List UInt8} {k : Nat} (h : noPos l k) (hk : ¬ (49 ≤ bt l k ∧ bt l k ≤ 57)) : noPos l (k + 1) := fun m hm => by
  rcases Nat.lt_or_ge m k with h' | h'
  · exact h m h'
  · obtain rfl : m = k := by omega
    exact hk
/-- Of the bytes from a on, before b, none is a point. -/
def noDot (l : List UInt8) (a b : Nat) : Prop := ∀ m, a ≤ m → m < b → bt l m ≠ 46
theorem noDot_succ {l : List UInt8} {a k : Nat} (h : noDot l a k) (hk : bt l k ≠ 46) : noDot l a (k + 1) := fun m ha hm => by
  rcases Nat.lt_or_ge m k with h' | h'
  · exact h m ha h'
  · obtain rfl : m = k := by omega
    exact hk
/-- .. all are noughts. -/
def allZ (l : List UInt8) (a b : Nat) : Prop := ∀ m, a ≤ m → m < b → bt l m = 48
theorem allZ_succ {l : List UInt8} {a k : Nat} (h : allZ l a k) (hk : bt l k = 48) : allZ l a (k + 1) := fun m ha hm => by
  rcases Nat.lt_or_ge m k with h' | h'
  · exact h m ha h'
  · obtain rfl : m = k := by omega
    exact hk
theorem allZ_pred {l : List UInt8} {k b : Nat} (h : allZ l (k + 1) b) (hk : bt l k = 48) : allZ l k b := fun m ha hm => by
  rcases Nat.lt_or_ge k m with h' | h'
  · exact h m h' hm
  · obtain rfl : m = k := by omega
    exact hk

theorem hp_empty (s : ByteArray) (w : World) (h : s.size = 0) : Calls Try.prog 17 #[.string s, .string ⟨#[45]⟩] w fun e w' => e = .returned (.bool false) ∧ w' = w := by
  have h1 : decide ((1 : Int) ≤ (s.size : Int)) = false := by simp; omega
  go_enter Try.func17, Try.ntmps17
  go_wp2
  go_ret
  exact ⟨rfl, rfl⟩
theorem pre_law (s : ByteArray) (h : 0 < s.size) : ((s.extract 0 1).toList == [45]) = decide (bt s.data.toList 0 = 45) := by
  have e : (s.extract 0 1).toList = (s.extract 0 1).data.toList := Lib.toList_data _
  have hl : 0 < s.data.toList.length := by simpa using h
  rw [e, Lib.extract_data]
  cases hd : s.data.toList with
  | nil => rw [hd] at hl; simp at hl
  | cons c t =>
    rw [bt_cons_zero]
    simp only [List.drop_zero, Nat.sub_zero, List.take_succ_cons, List.take_zero]
    rw [Bool.eq_iff_iff]
    simp only [beq_iff_eq, List.cons.injEq, and_true, decide_eq_true_eq]
    constructor
    · rintro rfl; rfl
    · intro h; exact UInt8.toNat_inj.1 h
theorem hp_some (s : ByteArray) (w : World) (h : 0 < s.size) (hs : s.size ≤ 1048576) : Calls Try.prog 17 #[.string s, .string ⟨#[45]⟩] w fun e w' => e = .returned (.bool (decide (bt s.data.toList 0 = 45))) ∧ w' = w := by
  have h1 : (1 : Int) ≤ (s.size : Int) := by omega
  have h2 : decide ((1 : Int) ≤ (s.size : Int)) = true := by simp; omega
  go_enter Try.func17, Try.ntmps17
  go_wp2
  go_ret
  exact ⟨ret_b (pre_law s h), rfl⟩

theorem bt_size (s : ByteArray) (k : Nat) (h : k < s.size) : (s[k].toNat : Int) = (bt s.data.toList k : Int) := by
  have h' : k < s.data.toList.length := by simpa using h
  unfold bt
  rw [List.getD_eq_getElem?_getD, List.getElem?_eq_getElem h']
  rfl

/-- isPositive. -/
theorem is_positive (s : ByteArray) (w : World) (hs : s.size ≤ 1048576) : Calls Try.prog 15 #[.string s] w fun e w' => e = .returned (.bool (isPos s.data.toList)) ∧ w' = w := by
  rcases Nat.eq_zero_or_pos s.size with h0 | hpos
  · have HP : Hid (isPos s.data.toList = false) := by
      have : s.data.toList = [] := List.eq_nil_of_length_eq_zero (by simpa using h0)
      rw [this]; rfl
    have H0 : Hid (s.size = 0) := h0
    have hle : s.size ≤ 0 := by omega
    clear h0
    go_enter Try.func15, Try.ntmps15
    go_wp2_with (first | (go_at_call 17; refine (hp_empty s _ H0.out).mono ?_; rintro e w' ⟨rfl, rfl⟩) | go_in)
    refine wp_loop_rounds 1 ?_
    rw [rounds_succ]
    go_wp2
    go_ret
    exact ⟨ret_b HP.out.symm, rfl⟩
  · by_cases h45 : bt s.data.toList 0 = 45
    · have hd : decide (bt s.data.toList 0 = 45) = true := by simp [h45]
      have H : Hid (bt s.data.toList 0 = 45) := h45
      clear h45
      go_enter Try.func15, Try.ntmps15
      go_wp2_with (first | (go_at_call 17; refine (hp_some s _ hpos hs).mono ?_; rintro e w' ⟨rfl, rfl⟩) | go_in)
      go_ret
      exact ⟨ret_b (isPos_minus _ H.out).symm, rfl⟩
    · have hd : decide (bt s.data.toList 0 = 45) = false := by simp [h45]
      have HP : Hid (isPos s.data.toList = anyPos s.data.toList) := isPos_plain _ h45
      go_enter Try.func15, Try.ntmps15
      go_wp2_with (first | (go_at_call 17; refine (hp_some s _ hpos hs).mono ?_; rintro e w' ⟨rfl, rfl⟩) | go_in)
      go_loop [3] (fun a => ∃ k : Nat, k ≤ s.size ∧ a = .int .i64 k ∧ Hid (noPos s.data.toList k)) (fun a => s.size - (intOf a).toNat)
      case atStart => exact ⟨0, Nat.zero_le _, rfl, fun m hm => by omega⟩
      case round =>
        obtain ⟨k, hk, rfl, HK⟩ := hrel
        by_cases hlt : k < s.size
        · have HB := bt_size s k hlt
          have HB : Hid ((s[k].toNat : Int) = (bt s.data.toList k : Int)) := HB
          rcases (show (49 ≤ (s[k].toNat : Int) ∧ (s[k].toNat : Int) ≤ 57) ∨ (s[k].toNat : Int) < 49 ∨ 57 < (s[k].toNat : Int) by omega) with hc | hc | hc
          · have HC : Hid (49 ≤ bt s.data.toList k ∧ bt s.data.toList k ≤ 57) := by have := HB.out; show _ ∧ _; omega
            go_wp2
            go_ret
            exact ⟨ret_b (by rw [HP.out]; exact ((anyPos_iff _).2 ⟨k, by simpa using hlt, HC.out⟩).symm), rfl⟩
          all_goals
            have HC : Hid (¬ (49 ≤ bt s.data.toList k ∧ bt s.data.toList k ≤ 57)) := by have := HB.out; show ¬ _; omega
            go_wp2
            go_round
            case rel => exact ⟨k + 1, by omega, by go_num, noPos_succ HK.out HC.out⟩
            case measure => simp [intOf]; omega
        · go_wp2
          go_ret
          refine ⟨ret_b ?_, rfl⟩
          rw [HP.out]
          cases h : anyPos s.data.toList with
          | false => rfl
          | true =>
            obtain ⟨m, hm, h1⟩ := (anyPos_iff _).1 h
            exact absurd h1 (HK.out m (by simp at hm; omega))

theorem zz_is_positive (s : ByteArray) (w : World) (hs : s.size ≤ 1048576) : Calls Try.prog 10 #[.string s] w fun e w' => e = .returned (.bool (isPos s.data.toList)) ∧ w' = w := by
  go_enter Try.func10, Try.ntmps10
  go_wp2_with (go_at_call 15; refine (is_positive s _ hs).mono ?_; rintro e w' ⟨rfl, rfl⟩)
  go_ret
  exact ⟨rfl, rfl⟩

/-- What holds of the place of the point. -/
def Dot (l : List UInt8) (n i d : Nat) : Prop := noDot l i d ∧ (d < n → bt l d = 46)

set_option maxRecDepth 100000 in
set_option maxHeartbeats 1000000 in
/-- figureSign, behind the sign: 'nz' is what it makes of 'nonzero'. -/
theorem sign_plain (s : ByteArray) (w : World) (hs : s.size ≤ 1048576) (hpos : 0 < s.size) (h45 : bt s.data.toList 0 ≠ 45) (hw : wf s.data.toList = true) :
    Calls Try.prog 11 #[.string s] w fun e w' => (∃ r, e = .returned (.int .i64 r) ∧ (r == 1) = isPos s.data.toList) ∧ w' = w := by
  have HW : Hid (wf s.data.toList = true) := hw
  have H45 : Hid (bt s.data.toList 0 ≠ 45) := h45
  have e45 : ((s[0].toNat : Int) == 45) = false := by rw [bt_size s 0 hpos]; simp only [beq_eq_false_iff_ne]; omega
  have hp : (0 : Int) < (s.size : Int) := by omega
  clear hw h45
  go_enter Try.func11, Try.ntmps11
  go_upto_block 0 with fail
  go_cut [5, 6] (fun a _ wx => wx = w ∧ ∃ d : Nat, d ≤ s.size ∧ a = .int .i64 d ∧ Hid (Dot s.data.toList s.size 0 d))
  case first =>
    go_wp2_with fail
    go_loop [5, 6] (fun a b => ∃ k : Nat, k ≤ s.size ∧ a = .int .i64 s.size ∧ b = .int .i64 k ∧ Hid (noDot s.data.toList 0 k)) (fun _ b => s.size - (intOf b).toNat)
    case atStart => exact ⟨0, Nat.zero_le _, rfl, rfl, fun m _ hm => by omega⟩
    case round =>
      obtain ⟨k, hk, rfl, rfl, HK⟩ := hrel
      by_cases hlt : k < s.size
      · have HB : Hid ((s[k].toNat : Int) = (bt s.data.toList k : Int)) := bt_size s k hlt
        by_cases hc : (s[k].toNat : Int) = 46
        · have HC : Hid (bt s.data.toList k = 46) := by have := HB.out; show _ = _; omega
          have e : ((s[k].toNat : Int) == 46) = true := by simp [hc]
          clear hc
          go_wp2_with fail
          go_meet
          exact ⟨rfl, k, hk, rfl, HK.out, fun _ => HC.out⟩
        · have HC : Hid (bt s.data.toList k ≠ 46) := by have := HB.out; show _ ≠ _; omega
          have e : ((s[k].toNat : Int) == 46) = false := by simp only [beq_eq_false_iff_ne]; exact hc
          clear hc
          go_wp2_with fail
          go_round
          case rel => exact ⟨k + 1, by omega, rfl, by go_num, noDot_succ HK.out HC.out⟩
          case measure => simp [intOf]; omega
      · go_wp2_with fail
        go_meet
        exact ⟨rfl, s.size, Nat.le_refl _, rfl, fun m _ hm => HK.out m (Nat.zero_le _) (by omega), fun h => absurd h (Nat.lt_irrefl _)⟩
  case rest =>
    obtain ⟨hw, d, hd, rfl, HD⟩ := hcut
    obtain rfl := hw.symm
    go_upto_block 2 with fail
    go_cut [7] (fun a wx => wx = w ∧ ∃ k : Nat, k ≤ d ∧ a = .int .i64 k ∧ Hid (allZ s.data.toList 0 k ∧ (k < d → bt s.data.toList k ≠ 48)))
    case first =>
      go_wp2_with fail
      go_loop [7] (fun a => ∃ k : Nat, k ≤ d ∧ a = .int .i64 k ∧ Hid (allZ s.data.toList 0 k)) (fun a => d - (intOf a).toNat)
      case atStart => exact ⟨0, Nat.zero_le _, rfl, fun m _ hm => by omega⟩
      case round =>
        obtain ⟨k, hk, rfl, HK⟩ := hrel
        by_cases hlt : k < d
        · have hlt2 : k < s.size := by omega
          have HB : Hid ((s[k].toNat : Int) = (bt s.data.toList k : Int)) := bt_size s k hlt2
          by_cases hc : (s[k].toNat : Int) = 48
          · have HC : Hid (bt s.data.toList k = 48) := by have := HB.out; show _ = _; omega
            have e : ((s[k].toNat : Int) == 48) = true := by simp [hc]
            clear hc
            go_wp2_with fail
            go_round
            case rel => exact ⟨k + 1, by omega, by go_num, allZ_succ HK.out HC.out⟩
            case measure => simp [intOf]; omega
          · have HC : Hid (bt s.data.toList k ≠ 48) := by have := HB.out; show _ ≠ _; omega
            have e : ((s[k].toNat : Int) == 48) = false := by simp only [beq_eq_false_iff_ne]; exact hc
            clear hc
            go_wp2_with fail
            go_meet
            exact ⟨rfl, k, hk, rfl, HK.out, fun _ => HC.out⟩
        · go_wp2_with fail
          go_meet
          exact ⟨rfl, k, hk, rfl, HK.out, fun h => absurd h hlt⟩
    case rest =>
      obtain ⟨hw, k, hk, rfl, HK⟩ := hcut
      obtain rfl := hw.symm
      have hlen : s.data.toList.length = s.size := by simp
      have HN : Hid (s.data.toList.length = s.size) := hlen
      clear hlen
      by_cases hkd : k < d
      · have d1 : decide ((k : Int) < (d : Int)) = true := by simp only [decide_eq_true_eq]; omega
        have HP : Hid (isPos s.data.toList = true) := sign_int _ HW.out H45.out d k (by rw [HN.out]; exact hd) (fun m hm => HD.out.1 m (Nat.zero_le _) hm) (by rw [HN.out]; exact HD.out.2) hkd (HK.out.2 hkd)
        go_wp2
        go_ret
        exact ⟨⟨1, rfl, by rw [HP.out]; rfl⟩, rfl⟩
      · have d1 : decide ((k : Int) < (d : Int)) = false := by simp only [decide_eq_false_iff_not]; omega
        have HZ : Hid (allZ s.data.toList 0 d) := fun m h1 h2 => HK.out.1 m h1 (by omega)
        by_cases hds : d < s.size
        · have d2 : decide ((d : Int) < (s.size : Int)) = true := by simp only [decide_eq_true_eq]; omega
          go_wp2
          go_loop [9] (fun a => ∃ q : Nat, d + 1 ≤ q ∧ q ≤ s.size ∧ a = .int .i64 q ∧ Hid (allZ s.data.toList q s.size)) (fun a => (intOf a).toNat)
          case atStart => exact ⟨s.size, by omega, Nat.le_refl _, rfl, fun m h1 h2 => by omega⟩
          case round =>
            obtain ⟨q, hq1, hq2, rfl, HQ⟩ := hrel
            by_cases hq : d + 1 < q
            · obtain ⟨p, rfl⟩ : ∃ p, q = p + 1 := ⟨q - 1, by omega⟩
              have hp2 : p < s.size := by omega
              have HB : Hid ((s[p].toNat : Int) = (bt s.data.toList p : Int)) := bt_size s p hp2
              by_cases hc : (s[p].toNat : Int) = 48
              · have HC : Hid (bt s.data.toList p = 48) := by have := HB.out; show _ = _; omega
                have e : ((s[p].toNat : Int) == 48) = true := by simp [hc]
                clear hc
                go_wp2
                go_round
                case rel => exact ⟨p, by omega, by omega, by go_num, allZ_pred HQ.out HC.out⟩
                case measure => simp [intOf]
              · have HC : Hid (bt s.data.toList p ≠ 48) := by have := HB.out; show _ ≠ _; omega
                have e : ((s[p].toNat : Int) == 48) = false := by simp only [beq_eq_false_iff_ne]; exact hc
                clear hc
                have HP : Hid (isPos s.data.toList = true) := sign_frac _ HW.out H45.out d (p + 1) (by rw [HN.out]; exact hds) (fun m hm => HD.out.1 m (Nat.zero_le _) hm) (by rw [HN.out]; exact HD.out.2) (by omega) (by rw [HN.out]; omega) HC.out
                go_wp2
                go_ret
                exact ⟨⟨1, rfl, by rw [HP.out]; rfl⟩, rfl⟩
            · have HP : Hid (isPos s.data.toList = false) := sign_none _ H45.out d (by rw [HN.out]; exact hd) (fun m hm => HD.out.1 m (Nat.zero_le _) hm) (by rw [HN.out]; exact HD.out.2) (fun m hm => HZ.out m (Nat.zero_le _) hm) (fun m h1 h2 => HQ.out m (by omega) (by rw [HN.out] at h2; exact h2))
              go_wp2
              go_ret
              exact ⟨⟨0, rfl, by rw [HP.out]; rfl⟩, rfl⟩
        · have d2 : decide ((d : Int) < (s.size : Int)) = false := by simp only [decide_eq_false_iff_not]; omega
          have HP : Hid (isPos s.data.toList = false) := sign_none _ H45.out d (by rw [HN.out]; exact hd) (fun m hm => HD.out.1 m (Nat.zero_le _) hm) (by rw [HN.out]; exact HD.out.2) (fun m hm => HZ.out m (Nat.zero_le _) hm) (fun m h1 h2 => by rw [HN.out] at h2; omega)
          go_wp2
          go_ret
          exact ⟨⟨0, rfl, by rw [HP.out]; rfl⟩, rfl⟩

set_option maxRecDepth 100000 in
set_option maxHeartbeats 1000000 in
/-- figureSign of a text that opens with a minus: never 1. -/
theorem sign_minus (s : ByteArray) (w : World) (hs : s.size ≤ 1048576) (hpos : 0 < s.size) (h45 : bt s.data.toList 0 = 45) :
    Calls Try.prog 11 #[.string s] w fun e w' => (∃ r, e = .returned (.int .i64 r) ∧ (r == 1) = false) ∧ w' = w := by
  have e45 : ((s[0].toNat : Int) == 45) = true := by rw [bt_size s 0 hpos]; simp only [beq_iff_eq]; omega
  have hp : (0 : Int) < (s.size : Int) := by omega
  clear h45
  go_enter Try.func11, Try.ntmps11
  go_upto_block 0 with fail
  go_cut [5, 6] (fun a _ wx => wx = w ∧ ∃ d : Nat, 1 ≤ d ∧ d ≤ s.size ∧ a = .int .i64 d)
  case first =>
    go_wp2_with fail
    go_loop [5, 6] (fun a b => ∃ k : Nat, 1 ≤ k ∧ k ≤ s.size ∧ a = .int .i64 s.size ∧ b = .int .i64 k) (fun _ b => s.size - (intOf b).toNat)
    case atStart => exact ⟨1, Nat.le_refl _, by omega, rfl, rfl⟩
    case round =>
      obtain ⟨k, hk1, hk, rfl, rfl⟩ := hrel
      by_cases hlt : k < s.size
      · by_cases hc : (s[k].toNat : Int) = 46
        · have e : ((s[k].toNat : Int) == 46) = true := by simp [hc]
          clear hc
          go_wp2_with fail
          go_meet
          exact ⟨rfl, k, hk1, hk, rfl⟩
        · have e : ((s[k].toNat : Int) == 46) = false := by simp only [beq_eq_false_iff_ne]; exact hc
          clear hc
          go_wp2_with fail
          go_round
          case rel => exact ⟨k + 1, by omega, by omega, rfl, by go_num⟩
          case measure => simp [intOf]; omega
      · go_wp2_with fail
        go_meet
        exact ⟨rfl, s.size, by omega, Nat.le_refl _, rfl⟩
  case rest =>
    obtain ⟨hw, d, hd1, hd, rfl⟩ := hcut
    obtain rfl := hw.symm
    go_upto_block 2 with fail
    go_cut [7] (fun a wx => wx = w ∧ ∃ k : Nat, k ≤ d ∧ a = .int .i64 k)
    case first =>
      go_wp2_with fail
      go_loop [7] (fun a => ∃ k : Nat, k ≤ d ∧ a = .int .i64 k) (fun a => d - (intOf a).toNat)
      case atStart => exact ⟨1, hd1, rfl⟩
      case round =>
        obtain ⟨k, hk, rfl⟩ := hrel
        by_cases hlt : k < d
        · have hlt2 : k < s.size := by omega
          by_cases hc : (s[k].toNat : Int) = 48
          · have e : ((s[k].toNat : Int) == 48) = true := by simp [hc]
            clear hc
            go_wp2_with fail
            go_round
            case rel => exact ⟨k + 1, by omega, by go_num⟩
            case measure => simp [intOf]; omega
          · have e : ((s[k].toNat : Int) == 48) = false := by simp only [beq_eq_false_iff_ne]; exact hc
            clear hc
            go_wp2_with fail
            go_meet
            exact ⟨rfl, k, hk, rfl⟩
        · go_wp2_with fail
          go_meet
          exact ⟨rfl, k, hk, rfl⟩
    case rest =>
      obtain ⟨hw, k, hk, rfl⟩ := hcut
      obtain rfl := hw.symm
      by_cases hkd : k < d
      · have d1 : decide ((k : Int) < (d : Int)) = true := by simp only [decide_eq_true_eq]; omega
        go_wp2
        go_ret
        exact ⟨⟨-1, rfl, by decide⟩, rfl⟩
      · have d1 : decide ((k : Int) < (d : Int)) = false := by simp only [decide_eq_false_iff_not]; omega
        by_cases hds : d < s.size
        · have d2 : decide ((d : Int) < (s.size : Int)) = true := by simp only [decide_eq_true_eq]; omega
          go_wp2
          go_loop [9] (fun a => ∃ q : Nat, d + 1 ≤ q ∧ q ≤ s.size ∧ a = .int .i64 q) (fun a => (intOf a).toNat)
          case atStart => exact ⟨s.size, by omega, Nat.le_refl _, rfl⟩
          case round =>
            obtain ⟨q, hq1, hq2, rfl⟩ := hrel
            by_cases hq : d + 1 < q
            · obtain ⟨p, rfl⟩ : ∃ p, q = p + 1 := ⟨q - 1, by omega⟩
              have hp2 : p < s.size := by omega
              by_cases hc : (s[p].toNat : Int) = 48
              · have e : ((s[p].toNat : Int) == 48) = true := by simp [hc]
                clear hc
                go_wp2
                go_round
                case rel => exact ⟨p, by omega, by omega, by go_num⟩
                case measure => simp [intOf]
              · have e : ((s[p].toNat : Int) == 48) = false := by simp only [beq_eq_false_iff_ne]; exact hc
                clear hc
                go_wp2
                go_ret
                exact ⟨⟨-1, rfl, by decide⟩, rfl⟩
            · go_wp2
              go_ret
              exact ⟨⟨0, rfl, by decide⟩, rfl⟩
        · have d2 : decide ((d : Int) < (s.size : Int)) = false := by simp only [decide_eq_false_iff_not]; omega
          go_wp2
          go_ret
          exact ⟨⟨0, rfl, by decide⟩, rfl⟩

/-- figureSign of a well-formed figure: 1 just where it is positive. -/
theorem figure_sign (s : ByteArray) (w : World) (hs : s.size ≤ 1048576) (hw : wf s.data.toList = true) :
    Calls Try.prog 11 #[.string s] w fun e w' => (∃ r, e = .returned (.int .i64 r) ∧ (r == 1) = isPos s.data.toList) ∧ w' = w := by
  have hpos : 0 < s.size := by
    rcases Nat.eq_zero_or_pos s.size with h0 | h
    · have : s.data.toList = [] := List.eq_nil_of_length_eq_zero (by simpa using h0)
      rw [this] at hw; cases hw
    · exact h
  by_cases h45 : bt s.data.toList 0 = 45
  · refine (sign_minus s w hs hpos h45).mono ?_
    rintro e w' ⟨⟨r, rfl, hr⟩, h⟩
    exact ⟨⟨r, rfl, by rw [hr, isPos_minus _ h45]⟩, h⟩
  · exact sign_plain s w hs hpos h45 hw
end Go.Proofs.Qxb6601720a
