/-
  The walks of digitValue (14) and wellFormedFigure (9).
-/
import Derived.Test.Qxb6601720aProg
import Derived.Test.Qxb6601720aFig
import Derived.WalkKit
import Derived.WalkSpells
import Derived.Deep.CutBlock
import Derived.Deep.DeepCutAuto
namespace Go.Proofs.Qxb6601720a
open Go.RowKit

theorem ret_i {k : IntKind} {a b : Int} (h : a = b) : Ending.returned (.int k a) = .returned (.int k b) := by rw [h]
theorem ret_b {a b : Bool} (h : a = b) : Ending.returned (.bool a) = .returned (.bool b) := by rw [h]
theorem drop_at (s : ByteArray) (k : Nat) (h : k < s.size) : s.data.toList.drop k = s[k] :: s.data.toList.drop (k + 1) := by
  rw [List.drop_eq_getElem_cons (by simpa using h)]; rfl
theorem drop_end (s : ByteArray) (k : Nat) (h : ¬ k < s.size) : s.data.toList.drop k = [] := List.drop_eq_nil_of_le (by simpa using h)
theorem idx (s : ByteArray) (k : Nat) (h : k < s.size) (w : World) : (Instr.index 9 (.string s) (.int .i64 (k : Int))).run Try.prog w = .ok (.int .u8 (s[k].toNat : Int)) w := by
  have h1 : (k : Int) < (s.size : Int) := by omega
  go_simp

set_option maxRecDepth 100000 in
theorem dig_yes (c : Int) (w : World) (h0 : 48 ≤ c) (h1 : c ≤ 57) : Calls Try.prog 14 #[.int .u8 c] w fun e w' => e = .returned (.int .i64 (c - 48)) ∧ w' = w := by
  obtain rfl | rfl | rfl | rfl | rfl | rfl | rfl | rfl | rfl | rfl : c = 48 ∨ c = 49 ∨ c = 50 ∨ c = 51 ∨ c = 52 ∨ c = 53 ∨ c = 54 ∨ c = 55 ∨ c = 56 ∨ c = 57 := by omega
  all_goals
    go_enter Try.func14, Try.ntmps14
    go_wp2
    go_ret
    exact ⟨rfl, rfl⟩
set_option maxRecDepth 100000 in
theorem dig_no (c : Int) (w : World) (h : c < 48 ∨ 57 < c) : Calls Try.prog 14 #[.int .u8 c] w fun e w' => e = .returned (.int .i64 (-1)) ∧ w' = w := by
  rcases h with h | h
  all_goals
    go_enter Try.func14, Try.ntmps14
    go_wp2
    go_ret
    exact ⟨rfl, rfl⟩

theorem wf_a1 (s : ByteArray) (h : 0 < s.size) (hc : (s[0].toNat : Int) = 45) : wf s.data.toList = wfB (s.data.toList.drop 1) := by
  have := drop_at s 0 h
  rw [List.drop_zero] at this
  rw [this, wf, if_pos (by omega)]; rfl
theorem wf_a2 (s : ByteArray) (h : 0 < s.size) (hc : ¬ (s[0].toNat : Int) = 45) : wf s.data.toList = wfB (s.data.toList.drop 0) := by
  have := drop_at s 0 h
  rw [List.drop_zero] at this ⊢
  rw [this, wf, if_neg (by omega)]
theorem wf_a3 (s : ByteArray) (h : ¬ 0 < s.size) : wf s.data.toList = wfB (s.data.toList.drop 0) := by
  have := drop_end s 0 h
  rw [List.drop_zero] at this ⊢
  rw [this]; rfl
theorem wf_b0 (s : ByteArray) (i : Nat) (h : dsp (s.data.toList.drop i) = 0) : false = wfB (s.data.toList.drop i) := by
  unfold wfB; rw [if_pos h]
theorem wf_b1 (s : ByteArray) (i j : Nat) (h : dsp (s.data.toList.drop i) ≠ 0) (hj : j = i + dsp (s.data.toList.drop i)) (he : ¬ j < s.size) : true = wfB (s.data.toList.drop i) := by
  unfold wfB; rw [if_neg h, List.drop_drop, ← hj, drop_end s j he]
theorem wf_b2 (s : ByteArray) (i j : Nat) (h : dsp (s.data.toList.drop i) ≠ 0) (hj : j = i + dsp (s.data.toList.drop i)) (he : j < s.size) (hc : ¬ (s[j].toNat : Int) = 46) : false = wfB (s.data.toList.drop i) := by
  unfold wfB; rw [if_neg h, List.drop_drop, ← hj, drop_at s j he]
  simp only
  rw [if_neg (by omega)]
theorem wf_b3 (s : ByteArray) (i j q : Nat) (h : dsp (s.data.toList.drop i) ≠ 0) (hj : j = i + dsp (s.data.toList.drop i)) (he : j < s.size) (hc : (s[j].toNat : Int) = 46) (hq : q = j + 1 + dsp (s.data.toList.drop (j + 1))) :
    (decide ((j : Int) + 1 < (q : Int)) && ((q : Int) == (s.size : Int))) = wfB (s.data.toList.drop i) := by
  unfold wfB; rw [if_neg h, List.drop_drop, ← hj, drop_at s j he]
  simp only
  rw [if_pos (by omega), List.length_drop]
  have e : s.data.toList.length = s.size := by simp
  rw [e, Bool.eq_iff_iff]
  simp only [Bool.and_eq_true, decide_eq_true_eq, beq_iff_eq]
  omega
theorem dsp_room (s : ByteArray) (i : Nat) (hi : i ≤ s.size) : i + dsp (s.data.toList.drop i) ≤ s.size := by
  have := dsp_le (s.data.toList.drop i)
  rw [List.length_drop] at this
  have e : s.data.toList.length = s.size := by simp
  omega

set_option maxRecDepth 100000 in
set_option maxHeartbeats 1000000 in
theorem well (s : ByteArray) (w : World) (hs : s.size ≤ 1048576) :
    Calls Try.prog 9 #[.string s] w fun e w' => e = .returned (.bool (wf s.data.toList)) ∧ w' = w := by
  go_enter Try.func9, Try.ntmps9
  iterate 18 go_step
  go_cut [3] (fun i wx => wx = w ∧ ∃ k : Nat, k ≤ s.size ∧ i = .int .i64 k ∧ Hid (wf s.data.toList = wfB (s.data.toList.drop k)))
  case first =>
    by_cases h : 0 < s.size
    · by_cases hc : (s[0].toNat : Int) = 45
      · have E : Hid ((s[0].toNat : Int) = 45) := hc
        have e : ((s[0].toNat : Int) == 45) = true := by simp [hc]
        clear hc
        go_wp2
        go_meet
        exact ⟨rfl, 1, by omega, rfl, wf_a1 s h E.out⟩
      · have e : ((s[0].toNat : Int) == 45) = false := by simp only [beq_eq_false_iff_ne]; exact hc
        go_wp2
        go_meet
        exact ⟨rfl, 0, by omega, rfl, wf_a2 s h hc⟩
    · go_wp2
      go_meet
      exact ⟨rfl, 0, by omega, rfl, wf_a3 s h⟩
  case rest =>
    obtain ⟨hw, i, hi, rfl, HI⟩ := hcut
    obtain rfl := hw.symm
    go_upto_block 0 with fail
    go_cut [3] (fun a wx => wx = w ∧ ∃ j : Nat, i ≤ j ∧ j ≤ s.size ∧ a = .int .i64 j ∧ Hid (j = i + dsp (s.data.toList.drop i)))
    case first =>
      go_wp2_with fail
      go_loop [3] (fun a => ∃ k : Nat, i ≤ k ∧ k ≤ s.size ∧ a = .int .i64 k ∧ Hid (k + dsp (s.data.toList.drop k) = i + dsp (s.data.toList.drop i))) (fun a => s.size - (intOf a).toNat)
      case atStart => exact ⟨i, Nat.le_refl _, hi, rfl, rfl⟩
      case round =>
        obtain ⟨k, hik, hk, rfl, HK⟩ := hrel
        by_cases hlt : k < s.size
        · have HD : Hid (s.data.toList.drop k = s[k] :: s.data.toList.drop (k + 1)) := drop_at s k hlt
          rcases (show (48 ≤ (s[k].toNat : Int) ∧ (s[k].toNat : Int) ≤ 57) ∨ ((s[k].toNat : Int) < 48 ∨ 57 < (s[k].toNat : Int)) by omega) with hc | hc
          · go_wp2_with (go_at_call 14; refine (dig_yes _ _ hc.1 hc.2).mono ?_; rintro e w' ⟨rfl, rfl⟩)
            go_round
            case rel =>
              refine ⟨k + 1, by omega, by omega, by go_num, ?_⟩
              have h1 := HK.out
              rw [HD.out, dsp_yes (by omega)] at h1
              show k + 1 + _ = _
              omega
            case measure => simp [intOf]; omega
          · have HC : Hid ((s[k].toNat : Int) < 48 ∨ 57 < (s[k].toNat : Int)) := hc
            clear hc
            go_wp2_with (go_at_call 14; refine (dig_no _ _ HC.out).mono ?_; rintro e w' ⟨rfl, rfl⟩)
            go_meet
            refine ⟨rfl, k, hik, hk, rfl, ?_⟩
            have h1 := HK.out
            have := HC.out
            rw [HD.out, dsp_no (by omega)] at h1
            exact h1
        · have HE : Hid (s.data.toList.drop k = []) := drop_end s k hlt
          go_wp2_with fail
          go_meet
          refine ⟨rfl, k, hik, hk, rfl, ?_⟩
          have h1 := HK.out
          rw [HE.out] at h1
          exact h1
    case rest =>
      obtain ⟨hw, j, hij, hj, rfl, HJ⟩ := hcut
      obtain rfl := hw.symm
      by_cases he : j = i
      · have h0 : dsp (s.data.toList.drop i) = 0 := by have := HJ.out; omega
        have H0 : Hid (dsp (s.data.toList.drop i) = 0) := h0
        have e1 : ((j : Int) == (i : Int)) = true := by simp [he]
        clear h0 he
        go_wp2
        go_ret
        exact ⟨ret_b (by rw [HI.out]; exact wf_b0 s i H0.out), rfl⟩
      · have h0 : dsp (s.data.toList.drop i) ≠ 0 := by have := HJ.out; omega
        have H0 : Hid (dsp (s.data.toList.drop i) ≠ 0) := h0
        have e1 : ((j : Int) == (i : Int)) = false := by simp only [beq_eq_false_iff_ne]; omega
        clear h0 he
        by_cases hlt : j < s.size
        · have e2 : ((j : Int) == (s.size : Int)) = false := by simp only [beq_eq_false_iff_ne]; omega
          by_cases hc : (s[j].toNat : Int) = 46
          · have E : Hid ((s[j].toNat : Int) = 46) := hc
            have e3 : ((s[j].toNat : Int) != 46) = false := by simp [hc]
            clear hc
            go_upto_block 2 with fail
            go_cut [3] (fun a wx => wx = w ∧ ∃ q : Nat, j + 1 ≤ q ∧ q ≤ s.size ∧ a = .int .i64 q ∧ Hid (q = j + 1 + dsp (s.data.toList.drop (j + 1))))
            case first =>
              go_wp2_with fail
              go_loop [3] (fun a => ∃ k : Nat, j + 1 ≤ k ∧ k ≤ s.size ∧ a = .int .i64 k ∧ Hid (k + dsp (s.data.toList.drop k) = j + 1 + dsp (s.data.toList.drop (j + 1)))) (fun a => s.size - (intOf a).toNat)
              case atStart => exact ⟨j + 1, Nat.le_refl _, by omega, by go_num, rfl⟩
              case round =>
                obtain ⟨k, hik, hk, rfl, HK⟩ := hrel
                by_cases hlt : k < s.size
                · have HD : Hid (s.data.toList.drop k = s[k] :: s.data.toList.drop (k + 1)) := drop_at s k hlt
                  rcases (show (48 ≤ (s[k].toNat : Int) ∧ (s[k].toNat : Int) ≤ 57) ∨ ((s[k].toNat : Int) < 48 ∨ 57 < (s[k].toNat : Int)) by omega) with hc | hc
                  · go_wp2_with (go_at_call 14; refine (dig_yes _ _ hc.1 hc.2).mono ?_; rintro e w' ⟨rfl, rfl⟩)
                    go_round
                    case rel =>
                      refine ⟨k + 1, by omega, by omega, by go_num, ?_⟩
                      have h1 := HK.out
                      rw [HD.out, dsp_yes (by omega)] at h1
                      show k + 1 + _ = _
                      omega
                    case measure => simp [intOf]; omega
                  · have HC : Hid ((s[k].toNat : Int) < 48 ∨ 57 < (s[k].toNat : Int)) := hc
                    clear hc
                    go_wp2_with (go_at_call 14; refine (dig_no _ _ HC.out).mono ?_; rintro e w' ⟨rfl, rfl⟩)
                    go_meet
                    refine ⟨rfl, k, hik, hk, rfl, ?_⟩
                    have h1 := HK.out
                    have := HC.out
                    rw [HD.out, dsp_no (by omega)] at h1
                    exact h1
                · have HE : Hid (s.data.toList.drop k = []) := drop_end s k hlt
                  go_wp2_with fail
                  go_meet
                  refine ⟨rfl, k, hik, hk, rfl, ?_⟩
                  have h1 := HK.out
                  rw [HE.out] at h1
                  exact h1
            case rest =>
              obtain ⟨hw, q, hjq, hq, rfl, HQ⟩ := hcut
              obtain rfl := hw.symm
              have HF : Hid ((decide ((j : Int) + 1 < (q : Int)) && ((q : Int) == (s.size : Int))) = wf s.data.toList) := by rw [HI.out]; exact wf_b3 s i j q H0.out HJ.out hlt E.out HQ.out
              by_cases hg : j + 1 < q
              · have d : decide ((j : Int) + 1 < (q : Int)) = true := by simp only [decide_eq_true_eq]; omega
                have HF : Hid (((q : Int) == (s.size : Int)) = wf s.data.toList) := by have := HF.out; rw [d, Bool.true_and] at this; exact this
                go_wp2
                go_ret
                exact ⟨ret_b HF.out, rfl⟩
              · have d : decide ((j : Int) + 1 < (q : Int)) = false := by simp only [decide_eq_false_iff_not]; omega
                have HF : Hid (false = wf s.data.toList) := by have := HF.out; rw [d, Bool.false_and] at this; exact this
                go_wp2
                go_ret
                exact ⟨ret_b HF.out, rfl⟩
          · have e3 : ((s[j].toNat : Int) != 46) = true := by simp only [bne_iff_ne, ne_eq]; exact hc
            have E : Hid (¬ (s[j].toNat : Int) = 46) := hc
            clear hc
            go_wp2
            go_ret
            exact ⟨ret_b (by rw [HI.out]; exact wf_b2 s i j H0.out HJ.out hlt E.out), rfl⟩
        · have e2 : ((j : Int) == (s.size : Int)) = true := by simp only [beq_iff_eq]; omega
          go_wp2
          go_ret
          exact ⟨ret_b (by rw [HI.out]; exact wf_b1 s i j H0.out HJ.out hlt), rfl⟩
end Go.Proofs.Qxb6601720a
