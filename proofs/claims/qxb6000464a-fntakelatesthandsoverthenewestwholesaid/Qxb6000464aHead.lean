/-
  The three closed facts of every row of this seat that read the dump's head: reckoned over its words, so that the kernel need not turn a long text into a list of signs again and again (10.8 GB by 'kernel_rfl' at a head of 828 signs).
-/
import Derived.Test.Qxb6000464aRows
import Derived.ProofKit
namespace Go.Proofs.Qxb6000464a

set_option maxRecDepth 100000 in
theorem head_ : ∃ L, Try.prog.initOrder.toList = L ∧ (behindMainWord (wordsSigns L)).head? = some "cut".toList := ⟨_, String.toList_ofList, by kernel_rfl⟩
theorem strip_ (rest : List (List Char)) : stripLifts liftWords ("cut".toList :: rest) = ([], "cut".toList :: rest) := by kernel_rfl

theorem words_ : ∃ rest, behindMainWord (wordsSigns Try.prog.initOrder.toList) = "cut".toList :: rest := by
  obtain ⟨L, h1, h2⟩ := head_
  rw [← h1] at h2
  generalize behindMainWord (wordsSigns Try.prog.initOrder.toList) = W at h2
  cases W with
  | nil => cases h2
  | cons c r => simp only [List.head?_cons, Option.some.injEq] at h2; subst h2; exact ⟨r, rfl⟩

theorem may_gen (P : Program) {rest : List (List Char)} (h : behindMainWord (wordsSigns P.initOrder.toList) = "cut".toList :: rest) (hl : P.laysLater = false) (hb : P.bearsReflect = false) (hd : P.doorFits [] = true) : P.mayEnter = true := by
  unfold Program.mayEnter
  rw [h]
  have e := strip_ rest
  generalize "cut".toList = c at e ⊢
  simp only [e]
  rw [hl, hb, hd]
  simp

theorem lifts_gen (P : Program) {rest : List (List Char)} (h : behindMainWord (wordsSigns P.initOrder.toList) = "cut".toList :: rest) : P.headLifts = [] := by
  unfold Program.headLifts
  rw [h]
  have e := strip_ rest
  generalize "cut".toList = c at e ⊢
  simp only [e]
  simp

theorem final_gen (P : Program) {rest : List (List Char)} (h : behindMainWord (wordsSigns P.initOrder.toList) = "cut".toList :: rest) : P.liftsFinal = false := by
  unfold Program.liftsFinal
  rw [lifts_gen P h, h]
  have : (("cut".toList : List Char) == "carried".toList) = false := by kernel_rfl
  generalize "cut".toList = c at this ⊢
  simp only [List.head?_cons, Option.some_beq_some, this, Bool.false_and, Bool.false_or]
  simp

theorem make_gen (P : Program) {rest : List (List Char)} (h : behindMainWord (wordsSigns P.initOrder.toList) = "cut".toList :: rest) : P.make = some .cut := by
  unfold Program.make
  rw [h]
  have e1 : (("cut".toList : List Char) == "gc".toList) = false := by kernel_rfl
  have e2 : (("cut".toList : List Char) == "spec".toList) = false := by kernel_rfl
  generalize "cut".toList = c at e1 e2 ⊢
  simp only [e1, e2]
  simp

theorem may_ : Try.prog.mayEnter = true := by obtain ⟨r, h⟩ := words_; exact may_gen _ h (by kernel_rfl) (by kernel_rfl) (by kernel_rfl)
theorem final_ : Try.prog.liftsFinal = false := by obtain ⟨r, h⟩ := words_; exact final_gen _ h
theorem make_ : Try.prog.make = some .cut := by obtain ⟨r, h⟩ := words_; exact make_gen _ h

end Go.Proofs.Qxb6000464a
