/-
  The walks of digitsFrom (34), isJSONNumber (29), fmtb1NumberAutomaton (14).
-/
import Derived.Test.Qxb6000674aProg
import Derived.Test.Qxb6000674aNum
import Derived.WalkKit
import Derived.WalkSpells
import Derived.Deep.DeepCutAuto
namespace Go.Proofs.Qxb6000674a
open Go.RowKit

theorem ret_i {k : IntKind} {a b : Int} (h : a = b) : Ending.returned (.int k a) = .returned (.int k b) := by rw [h]
theorem ret_b {a b : Bool} (h : a = b) : Ending.returned (.bool a) = .returned (.bool b) := by rw [h]

theorem digits_from (s : ByteArray) (i : Nat) (w : World) (hs : s.size ≤ 1048576) (hi : i ≤ s.size) :
    Calls Try.prog 34 #[.string s, .int .i64 i] w fun e w' => e = .returned (.int .i64 (dfrom s.data.toList i)) ∧ w' = w := by
  go_enter Try.func34, Try.ntmps34
  go_wp2
  go_loop [1] (fun j => ∃ k : Nat, i ≤ k ∧ k ≤ s.size ∧ j = .int .i64 k ∧ Hid (k + dsp (s.data.toList.drop k) = i + dsp (s.data.toList.drop i))) (fun j => s.size - (intOf j).toNat)
  case atStart => exact ⟨i, Nat.le_refl _, hi, rfl, rfl⟩
  case round =>
    obtain ⟨k, hik, hk, rfl, HK⟩ := hrel
    by_cases hlt : k < s.size
    · have HD : Hid (s.data.toList.drop k = s[k] :: s.data.toList.drop (k + 1)) := drop_at s k hlt
      rcases (show (48 ≤ (s[k].toNat : Int) ∧ (s[k].toNat : Int) ≤ 57) ∨ (s[k].toNat : Int) < 48 ∨ 57 < (s[k].toNat : Int) by omega) with hc | hc | hc
      · go_wp2
        go_round
        case rel =>
          refine ⟨k + 1, by omega, by omega, by go_num, ?_⟩
          have h1 := HK.out
          rw [HD.out, dsp_yes (by omega)] at h1
          show k + 1 + _ = _
          omega
        case measure => simp [intOf]; omega
      all_goals
        have h0 : dsp (s.data.toList.drop k) = 0 := by rw [HD.out, dsp_no (by omega)]
        have H0 : Hid (dsp (s.data.toList.drop k) = 0) := h0
        clear h0
        by_cases he : k = i
        · have E : Hid (k = i) := he
          have e1 : ((k : Int) == (i : Int)) = true := by simp [he]
          clear he
          go_wp2
          go_ret
          refine ⟨ret_i ?_, rfl⟩
          have h1 := HK.out; have h2 := H0.out; have h3 := E.out
          rw [dfrom, if_pos (by omega)]
        · have e1 : ((k : Int) == (i : Int)) = false := by simp; omega
          go_wp2
          go_ret
          refine ⟨ret_i ?_, rfl⟩
          have h1 := HK.out; have h2 := H0.out
          rw [dfrom, if_neg (by omega)]; omega
    · have h0 : dsp (s.data.toList.drop k) = 0 := by rw [drop_end s k hlt]; rfl
      have H0 : Hid (dsp (s.data.toList.drop k) = 0) := h0
      clear h0
      by_cases he : k = i
      · have E : Hid (k = i) := he
        have e1 : ((k : Int) == (i : Int)) = true := by simp [he]
        clear he
        go_wp2
        go_ret
        refine ⟨ret_i ?_, rfl⟩
        have h1 := HK.out; have h2 := H0.out; have h3 := E.out
        rw [dfrom, if_pos (by omega)]
      · have e1 : ((k : Int) == (i : Int)) = false := by simp; omega
        go_wp2
        go_ret
        refine ⟨ret_i ?_, rfl⟩
        have h1 := HK.out; have h2 := H0.out
        rw [dfrom, if_neg (by omega)]; omega

end Go.Proofs.Qxb6000674a
