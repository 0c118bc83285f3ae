/-
  'Rows.FnIsPositiveMatchesSignOfFigureSaid' proved; the frame is the given shell's.
-/
import Derived.Test.Qxb6601720aRows
import Derived.Test.Qxb6601720aHead
import Derived.WalkKit
import Derived.ProofKit
import Derived.OpenShut
import Derived.ShutString
import Derived.Test.Qxb6601720aSign
namespace Go.Proofs.Qxb6601720a.fnIsPositiveMatchesSignOfFigure
open Go.ChangeShapes Go.WideShapes Go.ChangeAt Go.RowKit
open Go.ChangeMaps (open_string shut_string)
set_option linter.unusedVariables false      -- a walk need not use every 'w<i>' (that an integer argument fits its kind)

theorem own : ownKnob Try.prog.godebug = none := by kernel_rfl

/-! ### STEP 1: THE WALK -/
theorem bytes8 (s : ByteArray) (w : World) (hm : s.size ≤ maxLen) : Calls Try.prog 8 #[.string s] w fun e w' => e = .returned (.bool (decide (s.size ≤ 1048576))) ∧ w' = w := by
  unfold maxLen at hm
  by_cases h : s.size ≤ 1048576
  all_goals
    go_enter Try.func8, Try.ntmps8
    go_wp2
    go_ret
    exact ⟨by simp [h], rfl⟩

theorem walk (a0 : ByteArray) (w0 : a0.size ≤ maxLen) (w : World) :
    Calls Try.prog 4 #[.string a0] w fun e w' => e = .returned (.bool true) ∧ Grown w w' := by
  by_cases h : a0.size ≤ 1048576
  · have hd : decide (a0.size ≤ 1048576) = true := by simp; omega
    by_cases hw : wf a0.data.toList = true
    · have HW : Hid (wf a0.data.toList = true) := hw
      go_enter Try.func4, Try.ntmps4
      go_wp2_with (first
        | (go_at_call 8; refine (bytes8 a0 _ w0).mono ?_; rintro e w' ⟨rfl, rfl⟩)
        | (go_at_call 9; refine (well a0 _ h).mono ?_; rintro e w' ⟨rfl, rfl⟩)
        | (go_at_call 10; refine (zz_is_positive a0 _ h).mono ?_; rintro e w' ⟨rfl, rfl⟩)
        | (go_at_call 11; refine (figure_sign a0 _ h HW.out).mono ?_; rintro e w' ⟨⟨r, rfl, hr⟩, rfl⟩; have HR : Hid ((r == 1) = isPos a0.data.toList) := hr; clear hr))
      go_ret
      exact ⟨ret_b (by rw [HR.out]; simp), Grown.refl _⟩
    · have hw' : wf a0.data.toList = false := by simpa using hw
      clear hw
      go_enter Try.func4, Try.ntmps4
      go_wp2_with (first
        | (go_at_call 8; refine (bytes8 a0 _ w0).mono ?_; rintro e w' ⟨rfl, rfl⟩)
        | (go_at_call 9; refine (well a0 _ h).mono ?_; rintro e w' ⟨rfl, rfl⟩))
      go_ret
      exact ⟨rfl, Grown.refl _⟩
  · have hd : decide (a0.size ≤ 1048576) = false := by simp; omega
    go_enter Try.func4, Try.ntmps4
    go_wp2_with (first | (go_at_call 8; refine (bytes8 a0 _ w0).mono ?_; rintro e w' ⟨rfl, rfl⟩))
    go_ret
    exact ⟨rfl, Grown.refl _⟩

/-! ### THE ROW's STEP: WRITTEN OUT: LEAVE IT -/
set_option maxRecDepth 100000 in
theorem lifted (os : Os) (started : os.Started) (H : Type) (enc : TypeId × Value → H) :
    ReturnsInHanded {} Try.checked os 4 .any (Rows.fnIsPositiveMatchesSignOfFigureSpec.pre6 enc Try.prog Try.f4 Rows.fnIsPositiveMatchesSignOfFigureRow.domain false) (Rows.fnIsPositiveMatchesSignOfFigureSpec.post enc Try.prog Try.f4 false true false false) := by
  refine returnsInHanded_of_change (C := Try.checked) own started (by kernel_rfl) Try.func4
    (ChangeSpec.witness6 (enc := enc) (C := Try.checked) false ⟨#[], #[.string ByteArray.empty], []⟩ 8 (by kernel_rfl) (by kernel_rfl) (by kernel_rfl) (by kernel_rfl)) ?_
  intro W base args ds gs before hval0 hW hcnd _
  have hval : ∀ (j : Nat) t v, Try.f4.params[j]? = some t → args[j]? = some v → Value.okWide Try.prog W .any base t v := hval0
  have hW' := hW
  obtain ⟨p, q, hA0, hV, rfl, hfz, hnd⟩ := hW
  have hA : DataW.TrodAll enc Try.prog W 0 (fun _ => true) true Try.f4.params.toList args.toList ds p := hA0
  rw [Try.params4] at hA hval
  obtain ⟨v0, vs0, d0, ds0, p0, q0, hargs, rfl, rfl, h0, r0⟩ := trodAll_cons hA
  obtain ⟨rfl, rfl, rfl⟩ := trodAll_nil r0
  obtain rfl : args = #[v0] := by cases args; simp_all
  obtain ⟨rfl, rfl⟩ := trodVars_none hV
  obtain ⟨a0, rfl, rfl, rfl, w0⟩ := open_string Try.underlying9 (hval 0 9 v0 rfl rfl) h0
  clear hA0 hval0
  simp only [List.append_nil] at hW'
  refine (walk a0 w0 W).mono fun e W' ⟨he, hg⟩ => ?_
  subst he
  exact ⟨_, rfl, post_of_same (pa := []) (pv := []) hW' (fun _ _ _ => (trodAll_cons_mk (shut_bool Try.underlying4 _) trodAll_mk0)) (fun sp _ => (trodAll_cons_mk (shut_string Try.underlying9 w0) trodAll_mk0)) (fun _ _ => rfl) rfl
    (hg.frame _) hg.2.1 (ok_one (by kernel_rfl) rfl (okWide_bool_mk Try.underlying4 _))⟩

theorem closed : joinedFacts Try.prog 4 Try.f4 Rows.fnIsPositiveMatchesSignOfFigureSpec Rows.fnIsPositiveMatchesSignOfFigureRow = true := by
  unfold joinedFacts
  simp only [Bool.and_eq_true]
  repeat' refine And.intro ?_ ?_
  all_goals first | rw [may_] | (rw [final_]; as_aux_lemma => kernel_rfl) | (rw [make_]; as_aux_lemma => kernel_rfl) | (as_aux_lemma => kernel_rfl)

theorem over : Rows.fnIsPositiveMatchesSignOfFigureRow.holds Try.pinned (OpenSpec.ofChange Rows.fnIsPositiveMatchesSignOfFigureSpec) :=
  OpenClaim.holds_of_wide 4 Try.f4 rfl rfl rfl rfl rfl rfl rfl ⟨rfl, rfl, rfl, rfl, rfl⟩ rfl rfl rfl rfl rfl (by kernel_rfl) Try.func4 closed
    (of_decide_eq_true (by kernel_rfl)) (by unfold Func.isWrapper; first | (rw [if_pos (by decide +kernel)]; kernel_rfl) | (rw [if_neg (by decide +kernel)]; exact ⟨rfl, rfl⟩))
    (fun os started H enc _ => lifted os started H enc)

/-- ████ THE STATEMENT ████ -/
theorem proved : Rows.FnIsPositiveMatchesSignOfFigureSaid :=
  over
#print axioms proved
end Go.Proofs.Qxb6601720a.fnIsPositiveMatchesSignOfFigure
