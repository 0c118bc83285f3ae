/-
  The walk of appendString (30) and its alias ZZAppendString (18).
-/
import Derived.Test.Qxb6000674aProg
import Derived.Test.Qxb6000674aEsc
import Derived.WalkKit
import Derived.WalkSpells
import Derived.Deep.AppendLies
import Derived.Deep.RegionHeld3
import Derived.Below
namespace Go.Proofs.Qxb6000674a
open Go.RowKit

theorem Try.info5 : (Try.prog.info? 5).map (fun i => (i.zero, i.size, i.bytes)) = some (some (.int .u8 0), 1, 1) := by kernel_rfl

/-- The cells of bytes. -/
def bs (l : List Int) : List Value := l.map (Value.int .u8)
theorem bs_len (l : List Int) : (bs l).length = l.length := by simp [bs]
theorem bs_append (l m : List Int) : bs (l ++ m) = bs l ++ bs m := by simp [bs]
theorem bs_one (l : List Int) : ∀ u ∈ bs l, u.oneCell' = true := by
  intro u hu; simp [bs] at hu; obtain ⟨a, _, rfl⟩ := hu; rfl

/-- The relation of the loop. -/
def Held (w : World) (olds : List Value) (n : Nat) (l : List Int) (v : Value) (wr : World) : Prop :=
  ∃ g cap, v = .slice (some ⟨g, 0, none⟩) (n + l.length) cap ∧ wr.ownsRow (w.heap.size + 1) 5 1 v (n + l.length) (olds ++ bs l) ∧ Below w.heap.size w wr ∧ w.heap.size < wr.heap.size

theorem Held.form1 {w wr : World} {olds : List Value} {n : Nat} {l : List Int} {v : Value} (h : Held w olds n l v wr) : ∃ g cap, v = .slice (some ⟨g, 0, none⟩) (n + l.length) cap := by
  obtain ⟨g, cap, hv, _⟩ := h
  exact ⟨g, cap, hv⟩
theorem Held.form0 {w wr : World} {olds : List Value} {l : List Int} {v : Value} (h : Held w olds 0 l v wr) : ∃ g cap, v = .slice (some ⟨g, 0, none⟩) l.length cap := by
  obtain ⟨g, cap, hv, _⟩ := h
  exact ⟨g, cap, by rw [hv, Nat.zero_add]⟩
theorem Held.alloc {w wr : World} {olds : List Value} {n : Nat} {l : List Int} {v : Value} (h : Held w olds n l v wr) (o : Obj) : Held w olds n l v (wr.alloc o) := by
  obtain ⟨g, cap, hv, ho, hb, hlt⟩ := h
  exact ⟨g, cap, hv, ho.alloc _, hb.alloc (by omega) o, by simp; omega⟩
theorem Held.drew {w wr : World} {olds : List Value} {n : Nat} {l : List Int} {v : Value} (h : Held w olds n l v wr) : Held w olds n l v wr.drew := by
  obtain ⟨g, cap, hv, ho, hb, hlt⟩ := h
  exact ⟨g, cap, hv, ho.drew, hb.drew, hlt⟩
theorem Held.put {w wr : World} {olds : List Value} {n : Nat} {l m : List Int} {v : Value} (h : Held w olds n l v wr) (e : l = m) : Held w olds n m v wr := e ▸ h

theorem Held.step {w wx w1 : World} {olds : List Value} {n : Nat} {l : List Int} {v : Value} {news : List Int} {g' cap' m : Nat} (h : Held w olds n l v wx) (hm : news.length = m)
    (hown : w1.ownsRow (w.heap.size + 1) 5 1 (.slice (some ⟨g', 0, none⟩) (n + l.length + m) cap') (n + l.length + m) ((olds ++ bs l) ++ bs news)) (hgrow : wx.grownBy w1 v.ownBlock) :
    Held w olds n (l ++ news) (.slice (some ⟨g', 0, none⟩) (n + l.length + m) cap') w1 := by
  obtain ⟨g, cap, rfl, ho, hb, hlt⟩ := h
  subst hm
  have e : n + l.length + news.length = n + (l ++ news).length := by simp; omega
  refine ⟨g', cap', by rw [e], by rw [← e, bs_append, ← List.append_assoc]; exact hown, ?_, ?_⟩
  · refine hb.grown hgrow (by omega) ?_
    intro k hk
    simp [Value.ownBlock] at hk
    obtain ⟨_, h2⟩ := ho
    rcases h2 with ⟨h2, _⟩ | ⟨g2, cap2, cur, hv, hg2, _⟩
    · simp at h2
    · simp at hv; omega
  · have := hgrow.size; omega

/-- append onto what is held, at a plain region's list. -/
theorem app_law {w wx : World} {ops : Array Oper} {rest : List Oper} {o : Oper} {a : Act} {Q : Exit → Act → World → Prop} {olds : List Value} {n : Nat} {l : List Int} {v : Value} (hgd : o.guard = none) (s x : Operand)
    (ho : o.op = .call { callee := .builtin .append, args := #[s, x], argTypes := #[24, 24] }) (hs : a.eval s = v) (h : Held w olds n l v wx) (B : Nat) (cs : Array Value) (fr : Nat × Nat) (hb : wx.heap[B]? = some (.cells cs 5 fr))
    (news : List Int) (m c : Nat) (hx : a.eval x = .slice (some ⟨B, 0, none⟩) m c) (hcs : cs.toList = bs news) (hm : news.length = m) (h0 : 0 < m) (hbd : n + l.length + m ≤ 100000000)
    (hK : ∀ v' w1, Held w olds n (l ++ news) v' w1 → wpList Try.prog ops Q rest (a.put o.dst v') w1) : wpList Try.prog ops Q (o :: rest) a wx := by
  obtain ⟨i0, hi, hz0, hz1, hz2⟩ := info_parts Try.info5
  have h' := h
  obtain ⟨g, cap, rfl, hown, hbel, hlt⟩ := h'
  refine wpList_append_lies (P := Try.prog) wx hgd s x 24 ho (w.heap.size + 1) 5 i0 (.int .u8 0) 1 1 Try.underlying24 hi hz0 hz1 hz2 rfl (by decide) _ _ _ hs hown ⟨B, 0, none⟩ m c (bs news) hx (by rw [bs_len, hm]; omega)
    (fun j u hu => World.news_of_block hb j u (by rw [hcs]; exact hu)) (bs_one _) h0 (by unfold maxLen; omega) (by omega) (by omega) wx.heap.size rfl ?_
  intro g' cap' w1 h1 h2 _ _
  exact hK _ _ (h.step hm h1 h2)

/-- append onto what is held, at a step of a region that draws. -/
theorem app_step {w wx : World} {ops : Array Oper} {o : Oper} {a : Act} {K : Act → World → Prop} {Q : Exit → Act → World → Prop} {E : Prop} {olds : List Value} {n : Nat} {l : List Int} {v : Value} (hgd : o.guard = none) (s x : Operand)
    (ho : o.op = .call { callee := .builtin .append, args := #[s, x], argTypes := #[24, 24] }) (hs : a.eval s = v) (h : Held w olds n l v wx) (B : Nat) (cs : Array Value) (fr : Nat × Nat) (hb : wx.heap[B]? = some (.cells cs 5 fr))
    (news : List Int) (m c : Nat) (hx : a.eval x = .slice (some ⟨B, 0, none⟩) m c) (hcs : cs.toList = bs news) (hm : news.length = m) (h0 : 0 < m) (hbd : n + l.length + m ≤ 100000000)
    (hK : ∀ v' w1, Held w olds n (l ++ news) v' w1 → K (a.put o.dst v') w1) :
    if Region.wanted o (yielded ops a.tmps) = true then Oper.wp Try.prog o a wx K Q else E := by
  obtain ⟨i0, hi, hz0, hz1, hz2⟩ := info_parts Try.info5
  have h' := h
  obtain ⟨g, cap, rfl, hown, hbel, hlt⟩ := h'
  refine step_append_lies (P := Try.prog) wx hgd s x 24 ho (w.heap.size + 1) 5 i0 (.int .u8 0) 1 1 Try.underlying24 hi hz0 hz1 hz2 rfl (by decide) _ _ _ hs hown ⟨B, 0, none⟩ m c (bs news) hx (by rw [bs_len, hm]; omega)
    (fun j u hu => World.news_of_block hb j u (by rw [hcs]; exact hu)) (bs_one _) h0 (by unfold maxLen; omega) (by omega) (by omega) wx.heap.size rfl ?_
  intro g' cap' w1 h1 h2 _ _
  exact hK _ _ (h.step hm h1 h2)

theorem held_first {w w1 : World} {n : Nat} {olds : List Value} {v : Value} (o : Obj) (hlo : olds.length = n) (hown : w1.ownsRow (w.heap.size + 1) 5 1 v (n + 1) (olds ++ bs [34])) (hgrow : (w.alloc o).grownBy w1 none) : Held w olds n [34] v w1 := by
  obtain ⟨g, cap, hv, hg, hlt⟩ := hown.form (by omega)
  refine ⟨g, cap, hv, hown, ((Below.refl _ _).alloc (Nat.le_refl _) o).grown hgrow (by simp) (fun k hk => by cases hk), by omega⟩

/-- The table of digits. -/
def hexS : ByteArray := { data := #[48, 49, 50, 51, 52, 53, 54, 55, 56, 57, 97, 98, 99, 100, 101, 102] }

theorem hex_at : ∀ m : Nat, (h : m < 16) → ((hexS[m]'h).toNat : Int) = hexd m := by decide

theorem hex_index (c : Int) (w : World) (h0 : 0 ≤ c) (h1 : c < 16) : (Instr.index 9 (.string { data := #[48, 49, 50, 51, 52, 53, 54, 55, 56, 57, 97, 98, 99, 100, 101, 102] }) (.int .u8 c)).run Try.prog w = .ok (.int .u8 (hexd c)) w := by
  go_simp
  have := hex_at c.toNat (by omega)
  rw [show ((c.toNat : Nat) : Int) = c by omega] at this
  rw [← this]; rfl

theorem and15 (c : Nat) (h : c < 256) : bits .and .u8 (c : Int) 15 = (c : Int) % 16 := by
  have := u8_and_nat c 15 h (by decide)
  rw [show ((15 : Nat) : Int) = 15 from rfl] at this
  rw [this, Nat.and_two_pow_sub_one_eq_mod c 4]; rfl

set_option maxHeartbeats 1000000 in
theorem append_string (ao : Option Addr) (n : Nat) (olds : List Value) (s : ByteArray) (w : World) (hn : n ≤ 1048576) (hs : s.size ≤ 1048576) (hnone : ao = none → n = 0) (hlo : olds.length = n)
    (holds : ∀ b, ao = some b → ∀ j u, olds[j]? = some u → w.cell? (b.add j) = some u) :
    Calls Try.prog 30 #[.slice ao n n, .string s] w fun e w' => ∃ v, e = .returned v ∧ Held w olds n (lit s.data.toList) v w' := by
  obtain ⟨i0, hi, hz0, hz1, hz2⟩ := info_parts Try.info5
  have holds' : ∀ b, ao = some b → ∀ j u, olds[j]? = some u → (w.alloc (.cells #[.int .u8 34] 5)).cell? (b.add j) = some u := fun b hb j u hu => cell_later ((Below.refl _ _).alloc (Nat.le_refl _) _) (holds b hb j u hu)
  have HL : Hid (olds.length = n) := hlo
  clear hlo holds
  go_enter Try.func30, Try.ntmps30
  go_wp2_with (first | (at_builtin; refine wpList_append_grows _ rfl _ _ 24 rfl 5 i0 (.int .u8 0) 1 1 Try.underlying24 hi hz0 hz1 hz2 rfl (by decide) ao n n olds rfl (fun h => ⟨hnone h, hnone h⟩) (by rw [HL.out]; omega) holds' ⟨w.heap.size, 0, none⟩ 1 1 (bs [34]) rfl rfl (World.news_of_block (heap_alloc_new _ _)) (bs_one _) (by omega) (by unfold maxLen; omega) (by omega) ?_; intro v1 w1 hown1 hgrow1; have hh1 := held_first _ HL.out (by simpa using hown1) hgrow1; clear hown1 hgrow1 holds'))
  go_loopw [0, 5] (fun v i wr => ∃ k : Nat, k ≤ s.size ∧ i = .int .i64 k ∧ Held w olds n (34 :: encL (s.data.toList.take k)) v wr) (fun _ i _ => s.size - (intOf i).toNat)
  case atStart => exact ⟨0, Nat.zero_le _, rfl, hh1⟩
  case round =>
    obtain ⟨k, hk, rfl, hh⟩ := hrel
    have hlen := encL_len (s.data.toList.take k)
    have htk : (s.data.toList.take k).length ≤ k := List.length_take_le _ _
    have hbd : n + (34 :: encL (s.data.toList.take k)).length + 6 ≤ 100000000 := by simp only [List.length_cons]; omega
    have HB : Hid (n + (34 :: encL (s.data.toList.take k)).length + 6 ≤ 100000000) := hbd
    clear hbd hlen htk hh1
    by_cases hlt : k < s.size
    · have HS : Hid (encL (s.data.toList.take (k + 1)) = encL (s.data.toList.take k) ++ esc (s[k].toNat : Int)) := encL_step s k hlt
      have h0 : 0 ≤ (s[k].toNat : Int) := by omega
      have h255 : (s[k].toNat : Int) ≤ 255 := by have := s[k].toNat_lt; omega
      rcases (show (34 ≤ (s[k].toNat : Int) ∧ (s[k].toNat : Int) ≤ 34) ∨ (92 ≤ (s[k].toNat : Int) ∧ (s[k].toNat : Int) ≤ 92) ∨ (10 ≤ (s[k].toNat : Int) ∧ (s[k].toNat : Int) ≤ 10) ∨ (13 ≤ (s[k].toNat : Int) ∧ (s[k].toNat : Int) ≤ 13) ∨ (9 ≤ (s[k].toNat : Int) ∧ (s[k].toNat : Int) ≤ 9)
          ∨ ((s[k].toNat : Int) ≤ 8 ∨ (11 ≤ (s[k].toNat : Int) ∧ (s[k].toNat : Int) ≤ 12) ∨ (14 ≤ (s[k].toNat : Int) ∧ (s[k].toNat : Int) ≤ 31)) ∨ ((32 ≤ (s[k].toNat : Int) ∧ (s[k].toNat : Int) ≤ 33) ∨ (35 ≤ (s[k].toNat : Int) ∧ (s[k].toNat : Int) ≤ 91) ∨ 93 ≤ (s[k].toNat : Int)) by omega) with hc | hc | hc | hc | hc | hc | hc
      · go_wp2_with (first | (at_builtin; refine app_law rfl _ _ rfl rfl (hh.alloc _) wr.heap.size _ _ (heap_alloc_new _ _) [92, 34] 2 2 rfl rfl rfl (by decide) (by have := HB.out; omega) ?_; intro v' w2 hh2))
        go_roundw
        case rel => exact ⟨k + 1, by omega, by go_num, hh2.put (by rw [HS.out, esc_quote (by omega), show (s[k].toNat : Int) = 34 from by omega]; rfl)⟩
        case measure => simp [intOf]; omega
      · have e34 : ((s[k].toNat : Int) == 34) = false := by simp only [beq_eq_false_iff_ne]; omega
        go_wp2_with (first | (at_builtin; refine app_law rfl _ _ rfl rfl (hh.alloc _) wr.heap.size _ _ (heap_alloc_new _ _) [92, (s[k].toNat : Int)] 2 2 rfl rfl rfl (by decide) (by have := HB.out; omega) ?_; intro v' w2 hh2))
        go_roundw
        case rel => exact ⟨k + 1, by omega, by go_num, hh2.put (by rw [HS.out, esc_quote (by omega)]; rfl)⟩
        case measure => simp [intOf]; omega
      · have e34 : ((s[k].toNat : Int) == 34) = false := by simp only [beq_eq_false_iff_ne]; omega
        have e92 : ((s[k].toNat : Int) == 92) = false := by simp only [beq_eq_false_iff_ne]; omega
        go_wp2_with (first | (at_builtin; refine app_law rfl _ _ rfl rfl (hh.alloc _) wr.heap.size _ _ (heap_alloc_new _ _) [92, 110] 2 2 rfl rfl rfl (by decide) (by have := HB.out; omega) ?_; intro v' w2 hh2))
        go_roundw
        case rel => exact ⟨k + 1, by omega, by go_num, hh2.put (by rw [HS.out, esc_n (by omega)]; rfl)⟩
        case measure => simp [intOf]; omega
      · have e34 : ((s[k].toNat : Int) == 34) = false := by simp only [beq_eq_false_iff_ne]; omega
        have e92 : ((s[k].toNat : Int) == 92) = false := by simp only [beq_eq_false_iff_ne]; omega
        go_wp2_with (first | (at_builtin; refine app_law rfl _ _ rfl rfl (hh.alloc _) wr.heap.size _ _ (heap_alloc_new _ _) [92, 114] 2 2 rfl rfl rfl (by decide) (by have := HB.out; omega) ?_; intro v' w2 hh2))
        go_roundw
        case rel => exact ⟨k + 1, by omega, by go_num, hh2.put (by rw [HS.out, esc_r (by omega)]; rfl)⟩
        case measure => simp [intOf]; omega
      · have e34 : ((s[k].toNat : Int) == 34) = false := by simp only [beq_eq_false_iff_ne]; omega
        have e92 : ((s[k].toNat : Int) == 92) = false := by simp only [beq_eq_false_iff_ne]; omega
        go_wp2_with (first | (at_builtin; refine app_law rfl _ _ rfl rfl (hh.alloc _) wr.heap.size _ _ (heap_alloc_new _ _) [92, 116] 2 2 rfl rfl rfl (by decide) (by have := HB.out; omega) ?_; intro v' w2 hh2))
        go_roundw
        case rel => exact ⟨k + 1, by omega, by go_num, hh2.put (by rw [HS.out, esc_t (by omega)]; rfl)⟩
        case measure => simp [intOf]; omega
      · rcases hc with hc | hc | hc
        all_goals
          have e34 : ((s[k].toNat : Int) == 34) = false := by simp only [beq_eq_false_iff_ne]; omega
          have e92 : ((s[k].toNat : Int) == 92) = false := by simp only [beq_eq_false_iff_ne]; omega
          go_wp2_with fail
          have ha := and15 s[k].toNat s[k].toNat_lt
          have g1 : (0 : Int) ≤ (s[k].toNat : Int) % 16 := by omega
          have g2 : (s[k].toNat : Int) % 16 < 16 := by omega
          have g3 : (0 : Int) ≤ (s[k].toNat : Int) / 16 := by omega
          have g4 : (s[k].toNat : Int) / 16 < 16 := by omega
          have x1 := fun wx => hex_index ((s[k].toNat : Int) / 16) wx g3 g4
          have x2 := fun wx => hex_index ((s[k].toNat : Int) % 16) wx g1 g2
          go_region_held3 (fun w' => True) (trivial) ((refine app_step (by rfl) _ _ (by rfl) (by rfl) ((hh.alloc _).drew) wr.heap.size _ _ (heap_alloc_new _ _) [92, 117, 48, 48, hexd ((s[k].toNat : Int) / 16), hexd ((s[k].toNat : Int) % 16)] 6 6 (by rfl) (by rfl) rfl (by decide) (by have := HB.out; omega) ?_; intro v' w2 hh2))
          all_goals
            go_wp2
            go_roundw
            case rel => exact ⟨k + 1, by omega, by go_num, hh2.put (by rw [HS.out, esc_ctl (by omega) (by omega) (by omega) (by omega)]; rfl)⟩
            case measure => simp [intOf]; omega
      · rcases hc with hc | hc | hc
        all_goals
          have e34 : ((s[k].toNat : Int) == 34) = false := by simp only [beq_eq_false_iff_ne]; omega
          have e92 : ((s[k].toNat : Int) == 92) = false := by simp only [beq_eq_false_iff_ne]; omega
          go_wp2_with (first | (at_builtin; refine app_law rfl _ _ rfl rfl (hh.alloc _) wr.heap.size _ _ (heap_alloc_new _ _) [(s[k].toNat : Int)] 1 1 rfl rfl rfl (by decide) (by have := HB.out; omega) ?_; intro v' w2 hh2))
          go_roundw
          case rel => exact ⟨k + 1, by omega, by go_num, hh2.put (by rw [HS.out, esc_plain (by omega) (by omega) (by omega)]; rfl)⟩
          case measure => simp [intOf]; omega
    · go_wp2_with (first | (at_builtin; refine app_law rfl _ _ rfl rfl (hh.alloc _) wr.heap.size _ _ (heap_alloc_new _ _) [34] 1 1 rfl rfl rfl (by decide) (by have := HB.out; omega) ?_; intro v' w2 hh2))
      go_ret
      exact ⟨_, rfl, hh2.put (by unfold lit; rw [List.take_of_length_le (by simp; omega)]; rfl)⟩

/-- What is held, said without the old world's marks. -/
theorem zz_append_string (ao : Option Addr) (n : Nat) (olds : List Value) (s : ByteArray) (w : World) (hn : n ≤ 1048576) (hs : s.size ≤ 1048576) (hnone : ao = none → n = 0) (hlo : olds.length = n)
    (holds : ∀ b, ao = some b → ∀ j u, olds[j]? = some u → w.cell? (b.add j) = some u) :
    Calls Try.prog 18 #[.slice ao n n, .string s] w fun e w' => ∃ v, e = .returned v ∧ Held w olds n (lit s.data.toList) v w' := by
  have HL : Hid (olds.length = n) := hlo
  have HO : Hid (∀ b, ao = some b → ∀ j u, olds[j]? = some u → w.cell? (b.add j) = some u) := holds
  clear hlo holds
  go_enter Try.func18, Try.ntmps18
  go_wp2_with (go_at_call 30; refine (append_string ao n olds s w hn hs hnone HL.out HO.out).mono ?_; rintro e w' ⟨v, rfl, hh⟩)
  go_ret
  exact ⟨_, rfl, hh⟩
end Go.Proofs.Qxb6000674a
