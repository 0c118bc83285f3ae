/-
  From the row's reading of the arguments to what the walks of the two laws of Take ask.
-/
import Derived.Test.Qxb6000464aOrder
import Derived.OpenShut
import Derived.ProofKit
namespace Go.Proofs.Qxb6000464a
open Go.RowKit Go.ChangeShapes Go.WideShapes Go.ChangeAt

/-- A slice of integers that came in (the shell's word). -/
def IsRow (k : IntKind) (w : World) (a : Option Addr) (len cap : Nat) (zs : List Int) : Prop :=
  (a = none ∧ len = 0 ∧ cap = 0 ∧ zs = []) ∨
  ∃ x, a = some x ∧ len ≤ cap ∧ cap ≤ maxLen ∧ zs.length = cap ∧ (∀ i, i < zs.length → w.cell? (x.add i) = some (.int k (zs.getD i 0))) ∧ ∀ n ∈ zs, (Lit.int k n).wf = true
/-- A slice of slices of bytes that came in. -/
def IsRows (w : World) (a : Option Addr) (len cap : Nat) (A : Nat → Option Addr) (L C : Nat → Nat) (Z : Nat → List Int) : Prop :=
  (a = none ∧ len = 0 ∧ cap = 0) ∨
  ∃ x, a = some x ∧ len ≤ cap ∧ cap ≤ maxLen ∧ ∀ r, r < cap → w.cell? (x.add r) = some (.slice (A r) (L r) (C r)) ∧ L r ≤ C r ∧ (A r = none → C r = 0) ∧ ∀ a', A r = some a' → ∀ c, c < C r → w.cell? (a'.add c) = some (.int .u8 ((Z r).getD c 0))

theorem plain_of {w : World} {x : Addr} {v : Value} (h : w.cell? (x.add 0) = some v) : x = ⟨x.block, x.off, none⟩ := by
  obtain ⟨b, off, spot⟩ := x
  have hspot : spot = none := by simpa [Addr.add] using World.cell?_spot h
  subst hspot
  rfl

theorem view_of {k : IntKind} {w : World} {a : Option Addr} {len cap : Nat} {zs : List Int} (h : IsRow k w a len cap zs) :
    View k w a len (fun i => zs.getD i 0) ∧ (a = none → len = 0 ∧ cap = 0) ∧ len ≤ maxLen ∧ ∀ i, i < len → (Lit.int k (zs.getD i 0)).wf = true := by
  rcases h with ⟨rfl, rfl, rfl, rfl⟩ | ⟨x, rfl, hl, hm, hz, hcell, hwf⟩
  · exact ⟨fun h => absurd h (Nat.lt_irrefl _), fun _ => ⟨rfl, rfl⟩, Nat.zero_le _, fun i hi => by omega⟩
  · refine ⟨fun hpos => ?_, fun h => by (cases h), by omega, fun i hi => ?_⟩
    · have hx := plain_of (hcell 0 (by omega))
      refine ⟨x.block, x.off, by rw [← hx], fun i hi => ?_⟩
      have := hcell i (by omega)
      rw [hx, add_plain] at this
      exact this
    · have hi' : i < zs.length := by omega
      have : zs.getD i 0 = zs[i] := by simp [hi']
      rw [this]
      exact hwf _ (List.getElem_mem hi')

theorem args_of {w : World} {a1 a2 a3 : Option Addr} {n1 n2 n3 c1 c2 c3 : Nat} {z1 z2 : List Int} {A : Nat → Option Addr} {L C : Nat → Nat} {Z : Nat → List Int} (h1 : IsRow .u16 w a1 n1 c1 z1) (h2 : IsRow .i64 w a2 n2 c2 z2) (h3 : IsRows w a3 n3 c3 A L C Z) :
    Args w a1 a2 a3 n1 n2 n3 c1 c2 c3 (fun i => z1.getD i 0) (fun i => z2.getD i 0) A L C (fun r c => (Z r).getD c 0) := by
  obtain ⟨v1, g1, m1, q1⟩ := view_of h1
  obtain ⟨v2, g2, m2, _⟩ := view_of h2
  rcases h3 with ⟨rfl, rfl, rfl⟩ | ⟨x, rfl, hl, hm, hx⟩
  · exact ⟨m1, m2, Nat.zero_le _, v1, v2, fun h => absurd h (Nat.lt_irrefl _), g1, g2, fun _ => ⟨rfl, rfl⟩, q1, fun i hi => by omega, fun i hi => by omega⟩
  · refine ⟨m1, m2, by omega, v1, v2, fun hpos => ?_, g1, g2, fun h => by (cases h), q1, fun i hi hpos => ?_, fun i hi hn => ?_⟩
    · have hp := plain_of (hx 0 (by omega)).1
      refine ⟨x.block, x.off, by rw [← hp], fun i hi => ?_⟩
      have := (hx i (by omega)).1
      rw [hp, add_plain] at this
      exact this
    · obtain ⟨_, hlc, hnil, hc⟩ := hx i (by omega)
      cases hA : A i with
      | none => have := hnil hA; omega
      | some y =>
        have hcy := hc y hA
        have hp := plain_of (hcy 0 (by omega))
        refine ⟨y.block, y.off, by rw [← hp], fun c hcl => ?_⟩
        have := hcy c (by omega)
        rw [hp, add_plain] at this
        exact this
    · obtain ⟨_, hlc, hnil, hc⟩ := hx i (by omega)
      have := hnil hn
      exact ⟨by omega, this⟩
end Go.Proofs.Qxb6000464a
