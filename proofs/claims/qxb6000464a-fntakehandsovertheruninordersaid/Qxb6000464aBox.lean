/-
  The Inbox in memory; the walks of whole (39) and skipTo (40).
-/
import Derived.Test.Qxb6000464aProg
import Derived.WalkKit
import Derived.WalkSpells
import Derived.Maps.RangeWalk
import Derived.Maps.OwnOps
import Derived.Deep.QuietTactic
import Derived.BigQuiet
import Derived.Deep.OwnRows
import Derived.Deep.AppendLies
namespace Go.Proofs.Qxb6000464a
open Go.RowKit Go.Maps

/-- How an element of 'pending' reads: nil, or the number of the block that it leads to. -/
def ptrE : Value → Option (DataW Unit × List MemPlace)
  | .pointer none => some (.nil, [])
  | .pointer (some ⟨g, 0, none⟩) => some (.lit (.int .i64 (g : Int)), [])
  | _ => none
theorem ptrE_nil : ptrE (.pointer none) = some (.nil, []) := rfl
theorem ptrE_some (g : Nat) : ptrE (.pointer (some ⟨g, 0, none⟩)) = some (.lit (.int .i64 (g : Int)), []) := rfl
theorem ptrE_inv {v : Value} {y : DataW Unit × List MemPlace} (h : ptrE v = some y) : (v = .pointer none ∧ y = (.nil, [])) ∨ ∃ g : Nat, v = .pointer (some ⟨g, 0, none⟩) ∧ y = (.lit (.int .i64 (g : Int)), []) := by
  unfold ptrE at h
  split at h
  · exact .inl ⟨rfl, by cases h; rfl⟩
  · exact .inr ⟨_, rfl, by cases h; rfl⟩
  · cases h

theorem law46 : Keyed Try.prog 46 := int_keyed Try.underlying46
theorem zero36 (w : World) : (zeroValue 36).run Try.prog w = .ok (.pointer none) w := by kernel_rfl

/-- What the map reads as at a key: where the assembly of the message last put there lies. -/
def encP (c : Nat) (zd : DataW Unit) : Option Nat → DataW Unit
  | none => zd
  | some i => .lit (.int .i64 ((c + i : Nat) : Int))
def Reads (c : Nat) (D : DataW Unit) (F : Int → Option Nat) : Prop := ∀ (s : Int) (zd : DataW Unit), D.atKey (.int .u16 s) zd = encP c zd (F s)

/-- The Inbox at block ib, its map at ib + 1, the assembly of put i at ib + 2 + i. -/
structure Box (w0 : World) (ib n : Nat) (A : Nat → Option Addr) (L : Nat → Nat) (len : Nat → Int) (nx : Int) (lat : Bool) (F : Int → Option Nat) (wr : World) : Prop where
  c0 : wr.cell? ⟨ib, 0, none⟩ = some (.int .u16 nx)
  f0 : wr.frozen? ⟨ib, 0, none⟩ = false
  c2 : wr.cell? ⟨ib, 2, none⟩ = some (.bool lat)
  c3 : wr.cell? ⟨ib, 3, none⟩ = some (.map (some (ib + 1)))
  own : ∃ D, wr.ownsMap Try.prog 46 ptrE (ib + 1) n D ∧ Reads (ib + 2) D F
  a0 : ∀ i, i < n → wr.cell? ⟨ib + 2 + i, 0, none⟩ = some (.int .u8 ((i : Int) % 256))
  a1 : ∀ i, i < n → wr.cell? ⟨ib + 2 + i, 1, none⟩ = some (.int .u16 ((i : Int) % 65536))
  a2 : ∀ i, i < n → wr.cell? ⟨ib + 2 + i, 2, none⟩ = some (.int .i64 (len i))
  a3 : ∀ i, i < n → wr.cell? ⟨ib + 2 + i, 3, none⟩ = some (.slice (A i) (L i) (L i))
  sz : ib + 2 + n ≤ wr.heap.size
  old : Below ib w0 wr
  rng : ∀ s i, F s = some i → i < n

/-- Nothing at or below the assemblies has turned: the box stands. -/
theorem Box.kept {w0 : World} {ib n : Nat} {A : Nat → Option Addr} {L : Nat → Nat} {len : Nat → Int} {nx : Int} {lat : Bool} {F : Int → Option Nat} {wr w1 : World} (h : Box w0 ib n A L len nx lat F wr) (hb : Below (ib + 2 + n) wr w1) : Box w0 ib n A L len nx lat F w1 := by
  obtain ⟨D, hown, hr⟩ := h.own
  have hlt := hown.lt
  refine ⟨?_, ?_, ?_, ?_, ⟨D, ?_, hr⟩, fun i hi => ?_, fun i hi => ?_, fun i hi => ?_, fun i hi => ?_, Nat.le_trans h.sz hb.size, h.old.trans (hb.mono (by omega)), h.rng⟩
  · rw [hb.cell (p := ⟨ib, 0, none⟩) (by show ib < _; omega)]; exact h.c0
  · rw [hb.frozen (p := ⟨ib, 0, none⟩) (by show ib < _; omega)]; exact h.f0
  · rw [hb.cell (p := ⟨ib, 2, none⟩) (by show ib < _; omega)]; exact h.c2
  · rw [hb.cell (p := ⟨ib, 3, none⟩) (by show ib < _; omega)]; exact h.c3
  · obtain ⟨es, clock, hm, rest⟩ := hown
    exact ⟨es, clock, (hb.block (ib + 1) (by omega)).trans hm, rest⟩
  · rw [hb.cell (p := ⟨ib + 2 + i, 0, none⟩) (by show ib + 2 + i < _; omega)]; exact h.a0 i hi
  · rw [hb.cell (p := ⟨ib + 2 + i, 1, none⟩) (by show ib + 2 + i < _; omega)]; exact h.a1 i hi
  · rw [hb.cell (p := ⟨ib + 2 + i, 2, none⟩) (by show ib + 2 + i < _; omega)]; exact h.a2 i hi
  · rw [hb.cell (p := ⟨ib + 2 + i, 3, none⟩) (by show ib + 2 + i < _; omega)]; exact h.a3 i hi
theorem Box.drewN {w0 : World} {ib n : Nat} {A : Nat → Option Addr} {L : Nat → Nat} {len : Nat → Int} {nx : Int} {lat : Bool} {F : Int → Option Nat} {wr : World} (h : Box w0 ib n A L len nx lat F wr) (k : Nat) : Box w0 ib n A L len nx lat F (wr.drewN k) := by
  induction k with
  | zero => exact h
  | succ k ih => exact ih.kept (Below.refl _ _).drew
theorem Box.alloc {w0 : World} {ib n : Nat} {A : Nat → Option Addr} {L : Nat → Nat} {len : Nat → Int} {nx : Int} {lat : Bool} {F : Int → Option Nat} {wr : World} (h : Box w0 ib n A L len nx lat F wr) (o : Obj) : Box w0 ib n A L len nx lat F (wr.alloc o) :=
  h.kept ((Below.refl _ _).alloc h.sz o)

/-- whole. -/
theorem whole_any (g : Nat) (x : Option Addr) (l c : Nat) (len : Int) (w : World) (h3 : w.cell? ⟨g, 3, none⟩ = some (.slice x l c)) (h2 : w.cell? ⟨g, 2, none⟩ = some (.int .i64 len)) :
    Calls Try.prog 39 #[.pointer (some ⟨g, 0, none⟩)] w fun e w' => e = .returned (.bool (decide (len ≤ (l : Int)))) ∧ ∃ m, w' = w.drewN m := by
  go_enter Try.func39, Try.ntmps39
  go_wp2
  go_quiet (fail)
  go_wp2
  go_ret
  exact ⟨rfl, _, rfl⟩

/-! ### skipTo -/
/-- The shape of an element. -/
def mkP : Option Nat → Value
  | none => .pointer none
  | some g => .pointer (some ⟨g, 0, none⟩)
def datP : Option Nat → DataW Unit
  | none => .nil
  | some g => .lit (.int .i64 (g : Int))
theorem ptrE_mkP (c : Option Nat) : ptrE (mkP c) = some (datP c, []) := by cases c <;> rfl

/-- The step of a range over 'pending'. -/
theorem next_box {w : World} {ops : Array Oper} {rest : List Oper} {o : Oper} {a : Act} {Q : Exit → Act → World → Prop} (hg : o.guard = none) (it : Operand) (hop : o.op = Op.next it false) (b r n : Nat) (D : DataW Unit) (left : Lit → Bool) (cnt : Nat)
    (hit : a.eval it = .pointer (some ⟨r, 0, none⟩)) (h : w.ranges Try.prog 46 ptrE b r n D left cnt)
    (hDone : (∀ kl, left kl = false) → wpList Try.prog ops Q rest (a.put o.dst (.tuple #[.bool false])) w)
    (hMore : ∀ (x : Int) (c : Option Nat) (w' : World) (cnt' : Nat), (Lit.int .u16 x).wf = true → left (.int .u16 x) = true → (∀ zd, D.atKey (.int .u16 x) zd = datP c) → w'.ranges Try.prog 46 ptrE b r n D (fun z => left z && !z.sameKey (.int .u16 x)) cnt' → cnt' < cnt →
      w.grownBy w' (some r) → (Instr.entry (.pointer (some ⟨r, 0, none⟩))).run Try.prog w' = .ok (.tuple #[.int .u16 x, mkP c]) w' → wpList Try.prog ops Q rest (a.put o.dst (.tuple #[.bool true, .int .u16 x, mkP c])) w') :
    wpList Try.prog ops Q (o :: rest) a w := by
  refine wpList_next_ranges w hg it hop 46 law46 ptrE (Value.int .u16) mkP (fun key kl hkey => ?_) (fun v y hv => ?_) b r n D left cnt hit h (fun _ hl => hDone hl) ?_
  · obtain ⟨x, rfl, _⟩ := Maps.keyOf_int_inv Try.underlying46 hkey
    exact ⟨x, rfl⟩
  · rcases ptrE_inv hv with ⟨rfl, _⟩ | ⟨g, rfl, _⟩
    · exact ⟨none, rfl⟩
    · exact ⟨some g, rfl⟩
  · intro x c kl y w' cnt' hkey hlk hv hat hrg hlt hgr _ hen
    obtain ⟨x', ex, rfl, hwx⟩ := Maps.keyOf_int_inv Try.underlying46 hkey
    cases ex
    rw [ptrE_mkP] at hv
    cases hv
    exact hMore x c w' cnt' hwx hlk hat hrg hlt hgr hen

/-- What is left of the map behind the struck keys. -/
def Skim (c : Nat) (seq : Int) (F : Int → Option Nat) (left : Lit → Bool) (D : DataW Unit) : Prop := ∀ (s : Int) (zd : DataW Unit), D.atKey (.int .u16 s) zd = encP c zd (if s < seq ∧ left (.int .u16 s) = false then none else F s)

theorem same_u16 (s x : Int) : (Lit.int .u16 s).sameKey (.int .u16 x) = decide (s = x) := by
  by_cases h : s = x
  · subst h; rw [WideAt.sameKey_self (show WideAt.IsKeyLit (Lit.int .u16 s) from trivial)]; simp
  · rw [sameKey_ne (by intro e; cases e; exact h rfl)]; simp [h]

theorem skim_del {c : Nat} {seq x : Int} {F : Int → Option Nat} {left : Lit → Bool} {D : DataW Unit} (h : Skim c seq F left D) (hx : x < seq) : Skim c seq F (fun z => left z && !z.sameKey (.int .u16 x)) (D.del (.int .u16 x)) := by
  intro s zd
  by_cases e : s = x
  · subst e
    rw [atKey_del_same]
    simp [same_u16, hx, encP]
  · rw [atKey_del_other (by intro e'; cases e'; exact e rfl), h s zd]
    simp [same_u16, e]
theorem skim_stay {c : Nat} {seq x : Int} {F : Int → Option Nat} {left : Lit → Bool} {D : DataW Unit} (h : Skim c seq F left D) (hx : ¬ x < seq) : Skim c seq F (fun z => left z && !z.sameKey (.int .u16 x)) D := by
  intro s zd
  rw [h s zd]
  by_cases e : s = x
  · subst e; simp [hx]
  · simp [same_u16, e]
theorem skim_start {c : Nat} {seq : Int} {F : Int → Option Nat} {D : DataW Unit} (h : Reads c D F) : Skim c seq F (Maps.has D) D := by
  intro s zd
  rw [h s zd]
  by_cases hh : Maps.has D (.int .u16 s) = false
  · have e := h s .nil
    rw [atKey_of_not_has hh] at e
    have : F s = none := by cases hF : F s with
      | none => rfl
      | some i => rw [hF] at e; cases e
    simp [this, encP]
  · simp [hh]
/-- The map behind skipTo. -/
def cutF (seq : Int) (F : Int → Option Nat) : Int → Option Nat := fun s => if s < seq then none else F s
theorem skim_end {c : Nat} {seq : Int} {F : Int → Option Nat} {left : Lit → Bool} {D : DataW Unit} (h : Skim c seq F left D) (hl : ∀ kl, left kl = false) : Reads c D (cutF seq F) := by
  intro s zd
  rw [h s zd]
  unfold cutF
  by_cases hs : s < seq <;> simp [hs, hl]

/-- Only the map and what is new has turned. -/
theorem Box.turned {w0 : World} {ib n : Nat} {A : Nat → Option Addr} {L : Nat → Nat} {len : Nat → Int} {nx : Int} {lat : Bool} {F F' : Int → Option Nat} {wr w1 : World} {D : DataW Unit} (h : Box w0 ib n A L len nx lat F wr) (hg : wr.grownBy w1 (some (ib + 1)))
    (hown : w1.ownsMap Try.prog 46 ptrE (ib + 1) n D) (hr : Reads (ib + 2) D F') (hrng : ∀ s i, F' s = some i → i < n) : Box w0 ib n A L len nx lat F' w1 := by
  have hs := h.sz
  have hc : ∀ b o, b < ib + 2 + n → b ≠ ib + 1 → w1.cell? ⟨b, o, none⟩ = wr.cell? ⟨b, o, none⟩ := fun b o h1 h2 => World.cell?_of_block (hg.block b (by omega) (by simp; exact h2))
  refine ⟨?_, ?_, ?_, ?_, ⟨D, hown, hr⟩, fun i hi => ?_, fun i hi => ?_, fun i hi => ?_, fun i hi => ?_, Nat.le_trans h.sz hg.size, ?_, hrng⟩
  · rw [hc ib 0 (by omega) (by omega)]; exact h.c0
  · rw [World.frozen?_of_block (a := ⟨ib, 0, none⟩) (hg.block ib (by omega) (by simp))]; exact h.f0
  · rw [hc ib 2 (by omega) (by omega)]; exact h.c2
  · rw [hc ib 3 (by omega) (by omega)]; exact h.c3
  · rw [hc (ib + 2 + i) 0 (by omega) (by omega)]; exact h.a0 i hi
  · rw [hc (ib + 2 + i) 1 (by omega) (by omega)]; exact h.a1 i hi
  · rw [hc (ib + 2 + i) 2 (by omega) (by omega)]; exact h.a2 i hi
  · rw [hc (ib + 2 + i) 3 (by omega) (by omega)]; exact h.a3 i hi
  · exact h.old.trans ⟨hg.os, hg.tape, hg.output, hg.size, fun k hk => hg.block k (by omega) (by simp; omega)⟩

/-- in.next = seq. -/
theorem Box.setNext {w0 : World} {ib n : Nat} {A : Nat → Option Addr} {L : Nat → Nat} {len : Nat → Int} {nx : Int} {lat : Bool} {F : Int → Option Nat} {wr : World} (h : Box w0 ib n A L len nx lat F wr) (seq : Int) : Box w0 ib n A L len seq lat F (wr.setCell ⟨ib, 0, none⟩ (.int .u16 seq)) := by
  have hlt : ib < wr.heap.size := by have := h.sz; omega
  have ho : ∀ b o, (b, o) ≠ (ib, 0) → (wr.setCell ⟨ib, 0, none⟩ (.int .u16 seq)).cell? ⟨b, o, none⟩ = wr.cell? ⟨b, o, none⟩ := fun b o hne => by
    rw [World.cell?_setCell_other]
    intro e; cases e; exact hne rfl
  obtain ⟨D, hown, hr⟩ := h.own
  refine ⟨?_, ?_, ?_, ?_, ⟨D, hown.setCell (by show ib + 1 ≠ ib; omega) _, hr⟩, fun i hi => ?_, fun i hi => ?_, fun i hi => ?_, fun i hi => ?_, by simpa using h.sz, h.old.setCell (Nat.le_refl _) _, h.rng⟩
  · exact World.cell?_setCell_same' _ _ _ (by rw [h.c0]; rfl)
  · rw [World.frozen?_setCell]; exact h.f0
  · rw [ho _ _ (by simp)]; exact h.c2
  · rw [ho _ _ (by simp)]; exact h.c3
  · rw [ho _ _ (by simp; omega)]; exact h.a0 i hi
  · rw [ho _ _ (by simp)]; exact h.a1 i hi
  · rw [ho _ _ (by simp)]; exact h.a2 i hi
  · rw [ho _ _ (by simp)]; exact h.a3 i hi

/-- All but the Inbox and its map is as it was. -/
def Far (ib : Nat) (w w' : World) : Prop := w.heap.size ≤ w'.heap.size ∧ ∀ k, k < w.heap.size → k ≠ ib → k ≠ ib + 1 → w'.heap[k]? = w.heap[k]?
theorem Far.cell {ib : Nat} {w w' : World} (h : Far ib w w') {b o : Nat} (hb : b < w.heap.size) (h1 : b ≠ ib) (h2 : b ≠ ib + 1) : w'.cell? ⟨b, o, none⟩ = w.cell? ⟨b, o, none⟩ := World.cell?_of_block (h.2 b hb h1 h2)
theorem Far.frozen {ib : Nat} {w w' : World} (h : Far ib w w') {b o : Nat} (hb : b < w.heap.size) (h1 : b ≠ ib) (h2 : b ≠ ib + 1) : w'.frozen? ⟨b, o, none⟩ = w.frozen? ⟨b, o, none⟩ := World.frozen?_of_block (h.2 b hb h1 h2)

set_option maxRecDepth 100000 in
theorem skip_to {w0 : World} {ib n : Nat} {A : Nat → Option Addr} {L : Nat → Nat} {len : Nat → Int} {nx : Int} {lat : Bool} {F : Int → Option Nat} (seq : Int) (w : World) (h : Box w0 ib n A L len nx lat F w) :
    Calls Try.prog 40 #[.pointer (some ⟨ib, 0, none⟩), .int .u16 seq] w fun e w' => e = .returned (.tuple #[]) ∧ Box w0 ib n A L len seq lat (cutF seq F) w' ∧ Far ib w w' := by
  obtain ⟨D, hown, hr⟩ := h.own
  have hc3 := h.c3
  have HB : Hid (Box w0 ib n A L len nx lat F w) := h
  have HR : Hid (Reads (ib + 2) D F) := hr
  have hib : ib < w.heap.size := by have := h.sz; omega
  clear hr h
  go_enter Try.func40, Try.ntmps40
  go_wp2_with (first
    | (at_range; refine wpList_range_own _ rfl _ 67 rfl 46 36 law46 Try.underlying67 _ (ib + 1) n _ rfl hown ?_; intro w1 hrg0 hg0 hs0)
    | go_in)
  go_frame
  go_loopw [4] (fun _ wr => ∃ (left : Lit → Bool) (cnt : Nat) (D' : DataW Unit), wr.ranges Try.prog 46 ptrE (ib + 1) w.heap.size n D' left cnt ∧ Hid (Skim (ib + 2) seq F left D') ∧ w.grownBy wr (some (ib + 1)))
    (fun _ wr => wr.rangeLeft (ib + 1) w.heap.size)
  case atStart => exact ⟨_, _, D, hrg0, skim_start HR.out, hg0.but _⟩
  case round =>
    obtain ⟨left, cnt, D', hrg, HS, hgw⟩ := hrel
    clear hrg0 hg0 hs0
    go_wp2_with (first
      | (at_next; refine next_box rfl _ rfl (ib + 1) w.heap.size n _ _ _ rfl hrg ?_ ?_)
      | go_in)
    · intro hl0
      have hB : Box w0 ib n A L len nx lat (cutF seq F) wr := HB.out.turned hgw hrg.owns (skim_end HS.out hl0) (fun s i hs => by
        unfold cutF at hs
        split at hs
        · cases hs
        · exact HB.out.rng s i hs)
      have hf := hB.f0
      have hc := hB.c0
      go_wp2
      go_end0
      exact ⟨rfl, hB.setNext seq, by simpa using hgw.size, fun k hk h1 h2 => (Below.heap_setCell _ _ _ _ h1).trans (hgw.block k hk (by simp; exact h2))⟩
    · intro x c w2 cnt1 hwx hlx hat hrg1 hlt hg1 hen
      have hgw1 := hgw.andThen hg1 (fun j hj => by cases hj; exact Or.inl (Nat.le_refl _))
      have hc3' : w2.cell? ⟨ib, 3, none⟩ = some (.map (some (ib + 1))) := (hgw1.cell_far ⟨ib, 3, none⟩ hib (by simp)).trans hc3
      by_cases hx : x < seq
      · go_wp2_with (first
          | (at_delete; refine wpList_delete_ranges _ rfl _ _ 67 46 rfl 36 law46 Try.underlying67 _ (ib + 1) w.heap.size n _ _ _ rfl hrg1 _ _ rfl (keyOf_int_mk Try.underlying46 hwx) ?_; intro w3 cnt2 hrg2 hle hturn; go_frame)
          | go_in)
        rw [strike_twice] at hrg2
        go_roundw
        case rel => exact ⟨_, cnt2, _, hrg2, skim_del HS.out hx, hgw1.andThen hturn.grown (fun j hj => by cases hj; exact Or.inr rfl)⟩
        case measure => rw [hrg2.left_eq, hrg.left_eq]; omega
      · go_wp2
        go_roundw
        case rel => exact ⟨_, cnt1, D', hrg1, skim_stay HS.out hx, hgw1⟩
        case measure => rw [hrg1.left_eq, hrg.left_eq]; exact hlt
end Go.Proofs.Qxb6000464a
