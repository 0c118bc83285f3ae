/-
  The walks of zzCloneBytes (11), KindOf (12), zzBytes (10).
-/
import Derived.Test.Qxb6000464aProg
import Derived.WalkKit
import Derived.WalkSpells
import Derived.Deep.OwnRows
import Derived.Below
namespace Go.Proofs.Qxb6000464a
open Go.RowKit Go.Deep

theorem Try.info5 : (Try.prog.info? 5).map (fun i => (i.zero, i.size, i.bytes)) = some (some (.int .u8 0), 1, 1) := by kernel_rfl

theorem rowStep {wr : World} {b : Nat} {n k : Nat} {f : Nat → Value} (h : wr.rowIs b 5 n (fun j => if j < k then f j else .int .u8 0)) :
    (wr.setCell ⟨b, k, none⟩ (f k)).rowIs b 5 n (fun j => if j < k + 1 then f j else .int .u8 0) := by
  refine (h.set k (f k)).congr fun i hi => ?_
  by_cases e : i = k
  · subst e; simp
  · rw [if_neg e]
    by_cases l : i < k
    · rw [if_pos l, if_pos (by omega)]
    · rw [if_neg l, if_neg (by omega)]

theorem clone_nil (w : World) : Calls Try.prog 11 #[.slice none 0 0] w fun e w' => e = .returned (.slice none 0 0) ∧ w' = w := by
  have q : ∀ (w : World) (a : Option Addr) (n c : Nat), (binOp .eql 22 (.slice a n c) (.slice none 0 0)).run Try.prog w = .ok (.bool a.isNone) w := fun w a n c => Lib.run_eql_slice_nil w _ _ a n c _ _ Try.underlying22
  go_enter Try.func11, Try.ntmps11
  go_wp2
  go_ret
  exact ⟨rfl, rfl⟩

/-- A byte slice that is not nil: a new row with the same bytes. -/
theorem clone_some (b off n c : Nat) (zs : Nat → Int) (w : World) (hn : n ≤ 1048576) (hc : ∀ i, i < n → w.cell? ⟨b, off + i, none⟩ = some (.int .u8 (zs i))) :
    Calls Try.prog 11 #[.slice (some ⟨b, off, none⟩) n c] w fun e w' => e = .returned (.slice (some ⟨w.heap.size, 0, none⟩) n n) ∧ w'.rowIs w.heap.size 5 n (fun i => .int .u8 (zs i)) ∧ w'.heap.size = w.heap.size + 1 ∧ Below w.heap.size w w' := by
  have q : ∀ (w : World) (a : Option Addr) (n c : Nat), (binOp .eql 22 (.slice a n c) (.slice none 0 0)).run Try.prog w = .ok (.bool a.isNone) w := fun w a n c => Lib.run_eql_slice_nil w _ _ a n c _ _ Try.underlying22
  have hmk := run_make_row' (P := Try.prog) 22 5 (.int .u8 0) 1 Try.underlying22 Try.info5 rfl .i64 .i64 n (by omega) (by omega)
  have hcb : ∀ i, i < n → b < w.heap.size := fun i hi => World.block_lt_of_cell? _ _ (hc i hi)
  go_enter Try.func11, Try.ntmps11
  go_wp2
  go_loopw [4] (fun i wr => ∃ k : Nat, k ≤ n ∧ i = .int .i64 k ∧ wr.rowIs w.heap.size 5 n (fun j => if j < k then .int .u8 (zs j) else .int .u8 0) ∧ wr.heap.size = w.heap.size + 1 ∧ Below w.heap.size w wr) (fun i _ => n - (intOf i).toNat)
  case atStart => exact ⟨0, Nat.zero_le _, rfl, (World.rowIs_made w _ n 5).congr (fun i hi => by simp), by simp, (Below.refl _ _).alloc (Nat.le_refl _) _⟩
  case round =>
    obtain ⟨k, hk, rfl, hrow, hsz, hbel⟩ := hrel
    by_cases hlt : k < n
    · have hx : wr.cell? ⟨b, off + k, none⟩ = some (.int .u8 (zs k)) := (hbel.cell (hcb k hlt)).trans (hc k hlt)
      have hy := hrow.cell hlt
      have hf := hrow.frozen k
      have R := rowStep (f := fun j => .int .u8 (zs j)) hrow
      have hne := hcb k hlt
      go_wp2
      go_roundw
      case rel => exact ⟨k + 1, by omega, by go_num, R, by simpa using hsz, hbel.setCell (Nat.le_refl _) _⟩
      case measure => simp [intOf]; omega
    · go_wp2
      go_ret
      exact ⟨rfl, hrow.congr (fun i hi => by rw [if_pos (by omega)]), hsz, hbel⟩

/-- An empty byte slice that is not nil, at whatever address. -/
theorem clone_empty (x : Addr) (c : Nat) (w : World) :
    Calls Try.prog 11 #[.slice (some x) 0 c] w fun e w' => e = .returned (.slice (some ⟨w.heap.size, 0, none⟩) 0 0) ∧ w'.heap.size = w.heap.size + 1 ∧ Below w.heap.size w w' := by
  have q : ∀ (w : World) (a : Option Addr) (n c : Nat), (binOp .eql 22 (.slice a n c) (.slice none 0 0)).run Try.prog w = .ok (.bool a.isNone) w := fun w a n c => Lib.run_eql_slice_nil w _ _ a n c _ _ Try.underlying22
  have hmk := run_make_row' (P := Try.prog) 22 5 (.int .u8 0) 1 Try.underlying22 Try.info5 rfl .i64 .i64 0 (by omega) (by omega)
  simp only [Int.natCast_zero] at hmk
  go_enter Try.func11, Try.ntmps11
  go_wp2
  refine wp_loop_rounds 1 ?_
  rw [rounds_succ]
  go_wp2
  go_ret
  exact ⟨rfl, by simp, (Below.refl _ _).alloc (Nat.le_refl _) _⟩

theorem ret_int {k : IntKind} {a b : Int} (h : a = b) : Ending.returned (.int k a) = .returned (.int k b) := by rw [h]

/-- KindOf as a plain function of the first octet. -/
def kindV (z : Int) : Int := if z ≤ 3 then 1 else if 20 ≤ z ∧ z ≤ 63 then 2 else if 128 ≤ z ∧ z ≤ 191 then 3 else 0

/-- KindOf at a datagram with a first octet. -/
theorem kind_some (b off n c : Nat) (z : Int) (w : World) (hn : 0 < n) (hm : n ≤ 1048576) (h0 : 0 ≤ z) (h1 : z ≤ 255) (hc : w.cell? ⟨b, off, none⟩ = some (.int .u8 z)) :
    Calls Try.prog 12 #[.slice (some ⟨b, off, none⟩) n c] w fun e w' => e = .returned (.int .u8 (kindV z)) ∧ w' = w := by
  rcases (show z ≤ 3 ∨ (3 < z ∧ z < 20) ∨ (20 ≤ z ∧ z ≤ 63) ∨ (63 < z ∧ z < 128) ∨ (128 ≤ z ∧ z ≤ 191) ∨ 191 < z by omega) with h | h | h | h | h | h
  all_goals
    go_enter Try.func12, Try.ntmps12
    go_wp2
    go_ret
    refine ⟨ret_int ?_, rfl⟩
    unfold kindV
    first
    | (rw [if_pos (by omega)]; done)
    | (rw [if_neg (by omega), if_pos (by omega)]; done)
    | (rw [if_neg (by omega), if_neg (by omega), if_pos (by omega)]; done)
    | (rw [if_neg (by omega), if_neg (by omega), if_neg (by omega)]; done)

theorem kind_none (a : Option Addr) (c : Nat) (w : World) :
    Calls Try.prog 12 #[.slice a 0 c] w fun e w' => e = .returned (.int .u8 0) ∧ w' = w := by
  go_enter Try.func12, Try.ntmps12
  go_wp2
  go_ret
  exact ⟨rfl, rfl⟩

theorem bytes10 (a : Option Addr) (n c : Nat) (w : World) (hm : n ≤ maxLen) :
    Calls Try.prog 10 #[.slice a n c] w fun e w' => e = .returned (.bool (decide (n ≤ 1048576))) ∧ w' = w := by
  unfold maxLen at hm
  by_cases h : n ≤ 1048576
  · go_enter Try.func10, Try.ntmps10
    go_wp2
    go_ret
    exact ⟨by simp [h], rfl⟩
  · go_enter Try.func10, Try.ntmps10
    go_wp2
    go_ret
    exact ⟨by simp [h], rfl⟩
end Go.Proofs.Qxb6000464a
