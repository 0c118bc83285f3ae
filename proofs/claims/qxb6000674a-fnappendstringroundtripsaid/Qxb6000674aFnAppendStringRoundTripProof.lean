/-
  'Rows.FnAppendStringRoundTripSaid' proved; the frame is the given shell's.
-/
import Derived.Test.Qxb6000674aRows
import Derived.Test.Qxb6000674aHead
import Derived.WalkKit
import Derived.ProofKit
import Derived.OpenShut
import Derived.ShutString
import Derived.Test.Qxb6000674aDecode
namespace Go.Proofs.Qxb6000674a.fnAppendStringRoundTrip
open Go.ChangeShapes Go.WideShapes Go.ChangeAt Go.RowKit
open Go.ChangeMaps (open_string shut_string)
set_option linter.unusedVariables false      -- a walk need not use every 'w<i>' (that an integer argument fits its kind)

theorem own : ownKnob Try.prog.godebug = none := by kernel_rfl

/-! ### STEP 1: THE WALK -/
theorem ret_bool' {a b : Bool} (h : a = b) : Ending.returned (.bool a) = .returned (.bool b) := by rw [h]
theorem bytes17 (s : ByteArray) (w : World) (hm : s.size ≤ maxLen) : Calls Try.prog 17 #[.string s] w fun e w' => e = .returned (.bool (decide (s.size ≤ 1048576))) ∧ w' = w := by
  unfold maxLen at hm
  by_cases h : s.size ≤ 1048576
  all_goals
    go_enter Try.func17, Try.ntmps17
    go_wp2
    go_ret
    exact ⟨by simp [h], rfl⟩

/-- What appendString has made, as decode wants it. -/
theorem made {w wa : World} {l : List Int} {g cap : Nat} (h : Held w [] 0 l (.slice (some ⟨g, 0, none⟩) l.length cap) wa) : g < wa.heap.size ∧ (∀ i, i < l.length → wa.cell? ⟨g, i, none⟩ = some (.int .u8 (l.getD i 0))) ∧ Below w.heap.size w wa := by
  obtain ⟨g1, c1, e1, o1, b1, l1⟩ := h
  simp only [Nat.zero_add, List.nil_append] at o1
  refine ⟨?_, fun i hi => ?_, b1⟩
  · rcases o1.2 with ⟨h, _⟩ | ⟨g', _, cur, h, _, hh, _⟩
    · simp at h
    · simp at h
      obtain ⟨hlt, _⟩ := Array.getElem?_eq_some_iff.1 hh
      omega
  · rw [o1.cellAt i (by omega)]
    simp [bs, hi]

theorem walk (a0 : ByteArray) (w0 : a0.size ≤ maxLen) (w : World) :
    Calls Try.prog 6 #[.string a0] w fun e w' => e = .returned (.bool true) ∧ Below w.heap.size w w' := by
  by_cases h : a0.size ≤ 1048576
  · have hd : decide (a0.size ≤ 1048576) = true := by simp; omega
    go_enter Try.func6, Try.ntmps6
    go_wp2_with (first
      | (go_at_call 17; refine (bytes17 a0 _ w0).mono ?_; rintro e w' ⟨rfl, hw⟩; obtain rfl := hw.symm)
      | (go_at_call 18; refine (zz_append_string none 0 [] a0 _ (by omega) h (fun _ => rfl) rfl (by intro b hb; cases hb)).mono ?_; rintro e wa ⟨va, rfl, hheld⟩; obtain ⟨ga, capa, hva⟩ := hheld.form0; rw [hva] at hheld ⊢; have HA : Hid _ := hheld; clear hheld hva)
      | (go_at_call 19; refine (decode ga capa _ a0 wa h rfl (made HA.out).1 (made HA.out).2.1).mono ?_; rintro e w2 ⟨rfl, hbel⟩))
    go_ret
    exact ⟨ret_bool' (by simp), (made HA.out).2.2.trans (hbel.mono (made HA.out).2.2.size)⟩
  · have hd : decide (a0.size ≤ 1048576) = false := by simp; omega
    go_enter Try.func6, Try.ntmps6
    go_wp2_with (first | (go_at_call 17; refine (bytes17 a0 _ w0).mono ?_; rintro e w' ⟨rfl, rfl⟩))
    go_ret
    exact ⟨rfl, Below.refl _ _⟩

/-! ### THE ROW's STEP: WRITTEN OUT: LEAVE IT -/
set_option maxRecDepth 100000 in
theorem lifted (os : Os) (started : os.Started) (H : Type) (enc : TypeId × Value → H) :
    ReturnsInHanded {} Try.checked os 6 .any (Rows.fnAppendStringRoundTripSpec.pre6 enc Try.prog Try.f6 Rows.fnAppendStringRoundTripRow.domain false) (Rows.fnAppendStringRoundTripSpec.post enc Try.prog Try.f6 false true false false) := by
  refine returnsInHanded_of_change (C := Try.checked) own started (by kernel_rfl) Try.func6
    (ChangeSpec.witness6 (enc := enc) (C := Try.checked) false ⟨#[], #[.string ByteArray.empty], []⟩ 8 (by kernel_rfl) (by kernel_rfl) (by kernel_rfl) (by kernel_rfl)) ?_
  intro W base args ds gs before hval0 hW hcnd _
  have hval : ∀ (j : Nat) t v, Try.f6.params[j]? = some t → args[j]? = some v → Value.okWide Try.prog W .any base t v := hval0
  have hW' := hW
  obtain ⟨p, q, hA0, hV, rfl, hfz, hnd⟩ := hW
  have hA : DataW.TrodAll enc Try.prog W 0 (fun _ => true) true Try.f6.params.toList args.toList ds p := hA0
  rw [Try.params6] at hA hval
  obtain ⟨v0, vs0, d0, ds0, p0, q0, hargs, rfl, rfl, h0, r0⟩ := trodAll_cons hA
  obtain ⟨rfl, rfl, rfl⟩ := trodAll_nil r0
  obtain rfl : args = #[v0] := by cases args; simp_all
  obtain ⟨rfl, rfl⟩ := trodVars_none hV
  obtain ⟨a0, rfl, rfl, rfl, w0⟩ := open_string Try.underlying9 (hval 0 9 v0 rfl rfl) h0
  clear hA0 hval0
  simp only [List.append_nil] at hW'
  refine (walk a0 w0 W).mono fun e W' ⟨he, hg⟩ => ?_
  subst he
  exact ⟨_, rfl, _, _, _, [], [], [], hW', trodAll_cons_mk (shut_bool Try.underlying4 _) trodAll_mk0, trodAll_cons_mk (shut_string Try.underlying9 w0) trodAll_mk0, rfl, hg.frame _, fun h => by cases h⟩

theorem closed : joinedFacts Try.prog 6 Try.f6 Rows.fnAppendStringRoundTripSpec Rows.fnAppendStringRoundTripRow = true := by
  unfold joinedFacts
  simp only [Bool.and_eq_true]
  repeat' refine And.intro ?_ ?_
  all_goals first | rw [may_] | (rw [final_]; as_aux_lemma => kernel_rfl) | (rw [make_]; as_aux_lemma => kernel_rfl) | (as_aux_lemma => kernel_rfl)

theorem over : Rows.fnAppendStringRoundTripRow.holds Try.pinned (OpenSpec.ofChange Rows.fnAppendStringRoundTripSpec) :=
  OpenClaim.holds_of_wide 6 Try.f6 rfl rfl rfl rfl rfl rfl rfl ⟨rfl, rfl, rfl, rfl, rfl⟩ rfl rfl rfl rfl rfl (by kernel_rfl) Try.func6 closed
    (of_decide_eq_true (by kernel_rfl)) (by unfold Func.isWrapper; first | (rw [if_pos (by decide +kernel)]; kernel_rfl) | (rw [if_neg (by decide +kernel)]; exact ⟨rfl, rfl⟩))
    (fun os started H enc _ => lifted os started H enc)

/-- ████ THE STATEMENT ████ -/
theorem proved : Rows.FnAppendStringRoundTripSaid :=
  over
#print axioms proved
end Go.Proofs.Qxb6000674a.fnAppendStringRoundTrip
