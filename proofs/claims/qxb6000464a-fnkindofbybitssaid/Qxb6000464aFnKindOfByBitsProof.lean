/-
  'Rows.FnKindOfByBitsSaid' proved; the frame is the given shell's.
-/
import Derived.Test.Qxb6000464aRows
import Derived.Test.Qxb6000464aHead
import Derived.WalkKit
import Derived.ProofKit
import Derived.OpenShut
import Derived.ShutString
import Derived.ChangeOld
import Derived.Below
import Derived.Test.Qxb6000464aClone
namespace Go.Proofs.Qxb6000464a.fnKindOfByBits
open Go.ChangeShapes Go.WideShapes Go.ChangeAt Go.RowKit
open Go.ChangeMaps (open_string shut_string)
set_option linter.unusedVariables false

theorem own : ownKnob Try.prog.godebug = none := by kernel_rfl
theorem laidOut : laidOutB Try.prog = true := by kernel_rfl

/-- WHAT THE WALK IS TOLD OF A SLICE OF INTEGERS THAT CAME IN: it is nil; or it leads to a row of 'cap' cells, the numbers 'zs' (the first 'len' are its elements, the rest its spare room), each fitting its kind. -/
def IsRow (k : IntKind) (w : World) (a : Option Addr) (len cap : Nat) (zs : List Int) : Prop :=
  (a = none ∧ len = 0 ∧ cap = 0 ∧ zs = []) ∨
  ∃ x, a = some x ∧ len ≤ cap ∧ cap ≤ maxLen ∧ zs.length = cap ∧ (∀ i, i < zs.length → w.cell? (x.add i) = some (.int k (zs.getD i 0))) ∧ ∀ n ∈ zs, (Lit.int k n).wf = true

/-! ### STEP 1: THE WALK -/
theorem ret_bool {a b : Bool} (h : a = b) : Ending.returned (.bool a) = .returned (.bool b) := by rw [h]

/-! The plain law: the octet's bit fields against its ranges, a lemma a way. -/
theorem k1 {z : Int} (h0 : 0 ≤ z) (h : (z / 4 == 0) = true) : (kindV z == 1) = true := by
  simp only [beq_iff_eq] at *
  unfold kindV; rw [if_pos (by omega)]
theorem k2 {z : Int} (h : 5 ≤ z / 4) (h' : z / 4 ≤ 15) : (kindV z == 2) = true := by
  simp only [beq_iff_eq] at *
  unfold kindV; rw [if_neg (by omega), if_pos (by omega)]
theorem k3 {z : Int} (h : (z / 64 == 2) = true) : (kindV z == 3) = true := by
  simp only [beq_iff_eq] at *
  unfold kindV; rw [if_neg (by omega), if_neg (by omega), if_pos (by omega)]
theorem k0 {z : Int} (h : 15 < z / 4) (h' : (z / 64 == 2) = false) : (kindV z == 0) = true := by
  simp only [beq_iff_eq, beq_eq_false_iff_ne, ne_eq] at *
  unfold kindV; rw [if_neg (by omega), if_neg (by omega), if_neg (by omega)]
theorem k0' {z : Int} (h0 : 0 ≤ z) (h : (z / 4 == 0) = false) (h' : z / 4 < 5) : (kindV z == 0) = true := by
  simp only [beq_iff_eq, beq_eq_false_iff_ne, ne_eq] at *
  unfold kindV; rw [if_neg (by omega), if_neg (by omega), if_neg (by omega)]

/-- An empty datagram. -/
theorem walk_empty (a : Option Addr) (c : Nat) (w : World) :
    Calls Try.prog 3 #[.slice a 0 c] w fun e w' => e = .returned (.bool true) ∧ Below w.heap.size w w' := by
  rcases a with _ | x
  · -- no capacity is asked of a nil slice: the clone looks at the address alone
    have q : ∀ (w : World) (a : Option Addr) (n c : Nat), (binOp .eql 22 (.slice a n c) (.slice none 0 0)).run Try.prog w = .ok (.bool a.isNone) w := fun w a n c => Lib.run_eql_slice_nil w _ _ a n c _ _ Try.underlying22
    go_enter Try.func3, Try.ntmps3
    go_wp2_with (first | (go_at_call 10; refine (bytes10 _ 0 _ _ (by decide)).mono ?_; rintro e w' ⟨rfl, rfl⟩) | (go_at_call 12; refine (kind_none _ _ _).mono ?_; rintro e w' ⟨rfl, rfl⟩) | go_in)
    go_ret
    exact ⟨rfl, Below.refl _ _⟩
  · go_enter Try.func3, Try.ntmps3
    go_wp2_with (first | (go_at_call 10; refine (bytes10 _ 0 _ _ (by decide)).mono ?_; rintro e w' ⟨rfl, rfl⟩) | (go_at_call 11; refine (clone_empty _ _ _).mono ?_; rintro e w' ⟨rfl, hsz, hbel⟩) | (go_at_call 12; refine (kind_none _ _ _).mono ?_; rintro e w' ⟨rfl, rfl⟩))
    go_ret
    exact ⟨rfl, hbel⟩

theorem walk_long (a : Option Addr) (n c : Nat) (w : World) (hn : 1048576 < n) (hm : n ≤ maxLen) :
    Calls Try.prog 3 #[.slice a n c] w fun e w' => e = .returned (.bool true) ∧ Below w.heap.size w w' := by
  have hd : decide (n ≤ 1048576) = false := by simp; omega
  go_enter Try.func3, Try.ntmps3
  go_wp2_with (first | (go_at_call 10; refine (bytes10 _ _ _ _ hm).mono ?_; rintro e w' ⟨rfl, rfl⟩))
  go_ret
  exact ⟨rfl, Below.refl _ _⟩

theorem walk_some (b off n c : Nat) (zs : Nat → Int) (w : World) (hn : 0 < n) (hm : n ≤ 1048576) (hc : ∀ i, i < n → w.cell? ⟨b, off + i, none⟩ = some (.int .u8 (zs i))) (h0 : 0 ≤ zs 0) (h1 : zs 0 ≤ 255) :
    Calls Try.prog 3 #[.slice (some ⟨b, off, none⟩) n c] w fun e w' => e = .returned (.bool true) ∧ Below w.heap.size w w' := by
  have hd : decide (n ≤ 1048576) = true := by simp; omega
  go_enter Try.func3, Try.ntmps3
  go_wp2_with (first | (go_at_call 10; refine (bytes10 _ _ _ _ (by unfold maxLen; omega)).mono ?_; rintro e w' ⟨rfl, rfl⟩) | (go_at_call 11; refine (clone_some _ _ _ _ _ _ hm hc).mono ?_; rintro e w' ⟨rfl, hrow, hsz, hbel⟩; have hc0 := hrow.cell hn) | (go_at_call 12; refine (kind_some _ _ _ _ _ _ hn hm h0 h1 hc0).mono ?_; rintro e w' ⟨rfl, rfl⟩))
  all_goals go_ret
  · exact ⟨ret_bool (k1 h0 ‹_›), by assumption⟩
  · exact ⟨ret_bool (k2 ‹_› ‹_›), by assumption⟩
  · exact ⟨ret_bool (k3 ‹_›), by assumption⟩
  · exact ⟨ret_bool (k0 ‹_› ‹_›), by assumption⟩
  · exact ⟨ret_bool (k0' h0 ‹_› ‹_›), by assumption⟩

theorem walk (a0 : Option Addr) (len0 cap0 : Nat) (z0 : List Int) (w : World) (w0 : IsRow .u8 w a0 len0 cap0 z0) :
    Calls Try.prog 3 #[.slice a0 len0 cap0] w fun e w' => e = .returned (.bool true) ∧ Below w.heap.size w w' := by
  rcases w0 with ⟨rfl, rfl, rfl, rfl⟩ | ⟨x, rfl, hl, hm, hz, hcell, hwf⟩
  · exact walk_empty _ _ _
  · by_cases hlong : 1048576 < len0
    · exact walk_long _ _ _ _ hlong (by unfold maxLen at *; omega)
    · rcases Nat.eq_zero_or_pos len0 with rfl | hpos
      · exact walk_empty _ _ _
      · obtain ⟨b, off, spot⟩ := x
        have hspot : spot = none := by simpa [Addr.add] using World.cell?_spot (hcell 0 (by omega))
        subst hspot
        have b0 : 0 ≤ z0.getD 0 0 ∧ z0.getD 0 0 ≤ 255 := by
          have := range_u8 hwf 0
          simpa using this
        exact walk_some b off len0 cap0 (fun i => z0.getD i 0) w hpos (by omega) (fun i hi => by rw [← add_plain]; exact hcell i (by omega)) b0.1 b0.2

/-! ### THE ROW's STEP: WRITTEN OUT: LEAVE IT -/
set_option maxRecDepth 100000 in
theorem lifted (os : Os) (started : os.Started) (H : Type) (enc : TypeId × Value → H) :
    ReturnsInHanded {} Try.checked os 3 .any (Rows.fnKindOfByBitsSpec.pre6 enc Try.prog Try.f3 Rows.fnKindOfByBitsRow.domain false) (Rows.fnKindOfByBitsSpec.post enc Try.prog Try.f3 false true false false) := by
  refine returnsInHanded_of_change (C := Try.checked) own started (by kernel_rfl) Try.func3
    (ChangeSpec.witness6 (enc := enc) (C := Try.checked) false ⟨#[], #[.slice none 0 0], []⟩ 8 (by kernel_rfl) (by kernel_rfl) (by kernel_rfl) (by kernel_rfl)) ?_
  intro W base args ds gs before hval0 hW hcnd _
  have hval : ∀ (j : Nat) t v, Try.f3.params[j]? = some t → args[j]? = some v → Value.okWide Try.prog W .any base t v := hval0
  have hW' := hW
  obtain ⟨p, q, hA0, hV, rfl, hfz, hnd⟩ := hW
  have hA : DataW.TrodAll enc Try.prog W 0 (fun _ => true) true Try.f3.params.toList args.toList ds p := hA0
  rw [Try.params3] at hA hval
  obtain ⟨v0, vs0, d0, ds0, p0, q0, hargs, rfl, rfl, h0, r0⟩ := trodAll_cons hA
  obtain ⟨rfl, rfl, rfl⟩ := trodAll_nil r0
  obtain rfl : args = #[v0] := by cases args; simp_all
  obtain ⟨rfl, rfl⟩ := trodVars_none hV
  obtain ⟨a0, len0, cap0, rfl⟩ := okWide_slice Try.underlying22 (hval 0 22 v0 rfl rfl)
  have k0 := h0
  have lt0 : ∀ x ∈ p0, x.block < W.heap.size := by obtain ⟨m, hm⟩ := k0; exact DataW.trod_lt m _ _ _ hm
  obtain ⟨z0, w0⟩ : ∃ zs, IsRow .u8 W a0 len0 cap0 zs := by
    obtain ⟨fuel, hf⟩ := h0
    rcases open_ints Try.underlying22 Try.underlying5 (by kernel_rfl) hf with ⟨hcs, _⟩ | ⟨x, l, c, zs, hcs, _, hl, hm, hz, _, hcell, hwz⟩
    · simp [Value.cells] at hcs
      obtain ⟨rfl, rfl, rfl⟩ := hcs
      exact ⟨[], .inl ⟨rfl, rfl, rfl, rfl⟩⟩
    · simp [Value.cells] at hcs
      obtain ⟨rfl, rfl, rfl⟩ := hcs
      exact ⟨zs, .inr ⟨_, rfl, hl, hm, by simpa using hz, hcell, hwz⟩⟩
  clear hA0 hval0
  refine (walk a0 len0 cap0 z0 W w0).mono fun e W' ⟨he, bel⟩ => ?_
  subst he
  exact ⟨_, rfl, _, _, _, [], _, [], hW', trodAll_mk1 (shut_bool Try.underlying4 _), (trodAll_cons_mk (Below.trod laidOut (by kernel_rfl) (of_decide_eq_true (by kernel_rfl)) k0 bel lt0) trodAll_mk0), rfl, bel.frame _, fun h => by cases h⟩

theorem closed : joinedFacts Try.prog 3 Try.f3 Rows.fnKindOfByBitsSpec Rows.fnKindOfByBitsRow = true := by
  unfold joinedFacts
  simp only [Bool.and_eq_true]
  repeat' refine And.intro ?_ ?_
  all_goals first | rw [may_] | (rw [final_]; as_aux_lemma => kernel_rfl) | (rw [make_]; as_aux_lemma => kernel_rfl) | (as_aux_lemma => kernel_rfl)

theorem over : Rows.fnKindOfByBitsRow.holds Try.pinned (OpenSpec.ofChange Rows.fnKindOfByBitsSpec) :=
  OpenClaim.holds_of_wide 3 Try.f3 rfl rfl rfl rfl rfl rfl rfl ⟨rfl, rfl, rfl, rfl, rfl⟩ rfl rfl rfl rfl rfl (by kernel_rfl) Try.func3 closed
    (of_decide_eq_true (by kernel_rfl)) (by unfold Func.isWrapper; first | (rw [if_pos (by decide +kernel)]; kernel_rfl) | (rw [if_neg (by decide +kernel)]; exact ⟨rfl, rfl⟩))
    (fun os started H enc _ => lifted os started H enc)

/-- ████ THE STATEMENT ████ -/
theorem proved : Rows.FnKindOfByBitsSaid := over
#print axioms proved
end Go.Proofs.Qxb6000464a.fnKindOfByBits
