/-
  The run of takes, plain: no Go in sight but the names of Box's parts.
-/
import Derived.Test.Qxb6000464aFill
import Derived.Test.Qxb6000464aTake
namespace Go.Proofs.Qxb6000464a
open Go.RowKit Go.Maps

/-- No more different numbers below n than n. -/
theorem pigeon : ∀ (n : Nat) (l : List Nat), l.Nodup → (∀ x ∈ l, x < n) → l.length ≤ n
  | 0, l, _, h => by
    cases l with
    | nil => simp
    | cons a t => exact absurd (h a List.mem_cons_self) (by omega)
  | n + 1, l, hd, h => by
    have h1 := pigeon n (l.erase n) (hd.erase n) (fun x hx => by
      have hx' := (hd.mem_erase_iff).1 hx
      have := h x hx'.2
      have := hx'.1
      omega)
    have h2 : l.length ≤ (l.erase n).length + 1 := by
      by_cases hm : n ∈ l
      · rw [List.length_erase_of_mem hm]; omega
      · rw [List.erase_of_not_mem hm]; omega
    omega

/-- The j-th seq of a run that begins at next. -/
def seqAt (next : Int) (j : Nat) : Int := if next + j ≤ 65535 then next + j else next + j - 65536
theorem seqAt_inj {next : Int} {i j : Nat} (hi : i ≤ 4096) (hj : j ≤ 4096) (h : seqAt next i = seqAt next j) : i = j := by
  unfold seqAt at h
  split at h <;> split at h <;> omega

/-- A run that has used up all n puts finds no more. -/
theorem used_up {next : Int} {n : Nat} {q : Nat → Int} (hn : n ≤ 4096) (hgot : ∀ j, j < n → lastPut q (seqAt next j) n ≠ none) : lastPut q (seqAt next n) n = none := by
  cases hl : lastPut q (seqAt next n) n with
  | none => rfl
  | some i0 =>
    have hex : ∀ j, j < n + 1 → ∃ i, lastPut q (seqAt next j) n = some i := fun j hj => by
      rcases Nat.lt_or_ge j n with h | h
      · cases hh : lastPut q (seqAt next j) n with
        | none => exact absurd hh (hgot j h)
        | some i => exact ⟨i, rfl⟩
      · obtain rfl : j = n := by omega
        exact ⟨i0, hl⟩
    have hfun : ∀ j, ∃ i, j < n + 1 → lastPut q (seqAt next j) n = some i := fun j => by
      by_cases hj : j < n + 1
      · obtain ⟨i, hi⟩ := hex j hj; exact ⟨i, fun _ => hi⟩
      · exact ⟨0, fun h => absurd h hj⟩
    let f : Nat → Nat := fun j => Classical.choose (hfun j)
    have hf : ∀ j, j < n + 1 → lastPut q (seqAt next j) n = some (f j) := fun j hj => Classical.choose_spec (hfun j) hj
    have hnd : ((List.range (n + 1)).map f).Nodup := by
      rw [List.nodup_iff_pairwise_ne, List.pairwise_map]
      refine List.Pairwise.imp_of_mem ?_ (List.nodup_iff_pairwise_ne.1 List.nodup_range)
      intro a b ha hb hne he
      have ha' := List.mem_range.1 ha
      have hb' := List.mem_range.1 hb
      have h1 := lastPut_lt (hf a ha')
      have h2 := lastPut_lt (hf b hb')
      rw [he] at h1
      exact hne (seqAt_inj (by omega) (by omega) (h1.2.symm.trans h2.2))
    have := pigeon n _ hnd (fun x hx => by
      obtain ⟨j, hj, rfl⟩ := List.mem_map.1 hx
      exact (lastPut_lt (hf j (List.mem_range.1 hj))).1)
    simp at this
    omega

/-- Where the run stands after t takes. -/
structure Run (next : Int) (n : Nat) (q : Nat → Int) (t : Nat) (cur : Int) (F : Int → Option Nat) : Prop where
  at_ : cur = seqAt next t
  wrap : next + t ≤ 65535 ∨ next = 65535
  all : t = 0 → ∀ s, F s = lastPut q s n
  up : ∀ s, cur ≤ s → F s = lastPut q s n
  low : 0 < t → next ≠ 65535 → ∀ s, s < cur → F s = none
  got : ∀ j, j < t → lastPut q (seqAt next j) n ≠ none

theorem Run.start {next : Int} {n : Nat} {q : Nat → Int} (h1 : next ≤ 65535) : Run next n q 0 next (fun s => lastPut q s n) :=
  ⟨by unfold seqAt; rw [if_pos (by omega)]; omega, .inl (by omega), fun _ _ => rfl, fun _ _ => rfl, fun h => by omega, fun j hj => by omega⟩

theorem Run.range {next : Int} {n : Nat} {q : Nat → Int} {t : Nat} {cur : Int} {F : Int → Option Nat} (h : Run next n q t cur F) (h0 : 0 ≤ next) (ht : t ≤ 4096) : 0 ≤ cur ∧ cur ≤ 65535 := by
  have hat := h.at_
  have hw := h.wrap
  unfold seqAt at hat
  split at hat <;> omega

/-- One take more. -/
theorem Run.step {next : Int} {n : Nat} {q : Nat → Int} {t : Nat} {cur : Int} {F : Int → Option Nat} (h : Run next n q t cur F) (h0 : 0 ≤ next) (hn : next ≤ 65535) (ht : t < n) (hn4 : n ≤ 4096) (hF : lastPut q cur n ≠ none) (hgo : ¬ (cur = 65535 ∧ next ≠ 65535)) :
    Run next n q (t + 1) (succ16 cur) (cutF (succ16 cur) F) := by
  have hr := h.range h0 (by omega)
  have hat := h.at_
  have hw := h.wrap
  by_cases hc : cur = 65535
  · have hnx : next = 65535 := Classical.byContradiction fun hne => hgo ⟨hc, hne⟩
    subst hnx
    have ht0 : t = 0 := by
      unfold seqAt at hat
      split at hat <;> omega
    subst ht0
    have hs : succ16 cur = 0 := by unfold succ16; rw [if_pos hc]
    rw [hs]
    refine ⟨by unfold seqAt; rw [if_neg (by omega)]; omega, .inr rfl, fun h => by omega, fun s hs => ?_, fun _ h => absurd rfl h, fun j hj => ?_⟩
    · unfold cutF; rw [if_neg (by omega)]; exact h.all rfl s
    · obtain rfl : j = 0 := by omega
      rw [← hat]; exact hF
  · have hs : succ16 cur = cur + 1 := by unfold succ16; rw [if_neg hc]
    rw [hs]
    refine ⟨?_, ?_, fun h => by omega, fun s hs => ?_, fun _ _ s hs => ?_, fun j hj => ?_⟩
    · unfold seqAt at hat ⊢
      split at hat <;> split <;> omega
    · unfold seqAt at hat
      split at hat <;> omega
    · unfold cutF; rw [if_neg (by omega)]; exact h.up s (by omega)
    · unfold cutF; rw [if_pos hs]
    · rcases Nat.lt_or_ge j t with h' | h'
      · exact h.got j h'
      · obtain rfl : j = t := by omega
        rw [← hat]; exact hF

/-- The next take finds nothing whole. -/
def Stuck (L : Nat → Nat) (len : Nat → Int) (cur : Int) (F : Int → Option Nat) : Prop := F cur = none ∨ ∃ i, F cur = some i ∧ ¬ len i ≤ (L i : Int)

theorem Run.full {L : Nat → Nat} {len : Nat → Int} {next : Int} {n : Nat} {q : Nat → Int} {cur : Int} {F : Int → Option Nat} (h : Run next n q n cur F) (hn4 : n ≤ 4096) : Stuck L len cur F := by
  left
  rw [h.up cur (Int.le_refl _), h.at_]
  exact used_up hn4 h.got
theorem Run.past {L : Nat → Nat} {len : Nat → Int} {next : Int} {n : Nat} {q : Nat → Int} {t : Nat} {cur : Int} {F : Int → Option Nat} (h : Run next n q t cur F) (h0 : 0 ≤ next) (hn : next ≤ 65535) (hc : cur = 65535) (hne : next ≠ 65535) : Stuck L len (succ16 cur) (cutF (succ16 cur) F) := by
  left
  have hs : succ16 cur = 0 := by unfold succ16; rw [if_pos hc]
  have hat := h.at_
  rw [hs]
  unfold cutF
  rw [if_neg (by omega)]
  refine h.low ?_ hne 0 (by omega)
  unfold seqAt at hat
  split at hat <;> omega
theorem Run.hole {L : Nat → Nat} {len : Nat → Int} {next : Int} {n : Nat} {q : Nat → Int} {t : Nat} {cur : Int} {F : Int → Option Nat} (h : Run next n q t cur F) (hl : lastPut q cur n = none) : Stuck L len cur F := .inl (by rw [h.up cur (Int.le_refl _)]; exact hl)
theorem Run.short {L : Nat → Nat} {len : Nat → Int} {next : Int} {n : Nat} {q : Nat → Int} {t : Nat} {cur : Int} {F : Int → Option Nat} (h : Run next n q t cur F) {i : Nat} (hl : lastPut q cur n = some i) (hw : ¬ len i ≤ (L i : Int)) : Stuck L len cur F := .inr ⟨i, by rw [h.up cur (Int.le_refl _)]; exact hl, hw⟩

/-- Take where nothing whole is next. -/
theorem take_no {w0 : World} {ib n : Nat} {A : Nat → Option Addr} {L : Nat → Nat} {len : Nat → Int} {nx : Int} {F : Int → Option Nat} (w : World) (h : Box w0 ib n A L len nx false F w) (h0 : 0 ≤ nx) (h1 : nx ≤ 65535) (hs : Stuck L len nx F) :
    Calls Try.prog 33 #[.pointer (some ⟨ib, 0, none⟩)] w fun e w' => e = .returned (.tuple #[noMsg, .bool false]) ∧ Box w0 ib n A L len nx false F w' := by
  rcases hs with hs | ⟨i, hF, hw⟩
  · exact take_hole w h h0 h1 hs
  · exact take_short w h h0 h1 i hF hw
end Go.Proofs.Qxb6000464a
