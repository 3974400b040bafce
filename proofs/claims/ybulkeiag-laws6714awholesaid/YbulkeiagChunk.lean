/-
  FOR LawS6714AWhole: (Run).End, (Runs).appendChunk.
-/
import Derived.Test.YbulkeiagBase
namespace Go.Proofs.Ybulkeiag
open Go.RowKit

set_option maxHeartbeats 400000 in
theorem end_any (f c : Int) (w : World) (hf : 0 ≤ f ∧ f ≤ 256) (hc : 0 ≤ c ∧ c ≤ 256) :
    Calls Yba.prog 13 #[.agg #[.int .i64 f, .int .i64 c]] w fun e w' => e = .returned (.int .i64 (f + c)) ∧ w' = w.alloc (.cells #[.int .i64 f, .int .i64 c] 39) := by
  go_enter Yba.func13, Yba.ntmps13
  go_wp2
  go_ret
  exact ⟨rfl, rfl⟩

theorem grownBy_alloc_then {w w' : World} {o : Obj} {row : Option Nat} (h : (w.alloc o).grownBy w' row) : w.grownBy w' row :=
  ⟨h.os, h.tape, h.output, by have := h.size; simp at this; omega, fun k hk hn => (h.block k (by simp; omega) hn).trans (Below.heap_alloc _ _ _ hk)⟩
theorem two_oneCell (i : Int) : ∀ u ∈ [Value.int .i64 i, .int .i64 1], u.oneCell' = true := by
  intro u hu
  simp at hu
  rcases hu with rfl | rfl <;> rfl

set_option maxHeartbeats 800000 in
theorem chunk_nil (base : Nat) (v : Value) (i : Int) (w : World) (h : RRow w base v []) (hb : base ≤ w.heap.size) :
    Calls Yba.prog 9 #[v, .int .i64 i] w fun e w' => ∃ v', e = .returned v' ∧ RRow w' base v' [(i, 1)] ∧ w.grownBy w' v.ownBlock := by
  obtain ⟨i0, hi0, hz0, hz1, hz2⟩ := info_parts info39
  obtain ⟨a, c, rfl⟩ : ∃ a c, v = .slice a 0 c := by
    rcases h.shape with ⟨rfl, _⟩ | ⟨g, cap, rfl, _⟩
    · exact ⟨_, _, rfl⟩
    · exact ⟨_, _, rfl⟩
  go_enter Yba.func9, Yba.ntmps9
  go_wp2_with (at_builtin; refine wpList_append_own _ rfl _ _ 25 rfl base 39 i0 (.agg #[.int .i64 0, .int .i64 0]) 2 16 Yba.underlying25 hi0 hz0 hz1 hz2 rfl (by decide) _ 0 [] rfl (World.ownsRow.alloc h _) ⟨w.heap.size, 0, none⟩ 1 1 [.int .i64 i, .int .i64 1] rfl rfl (cell_two_new _ _ _ _) (two_oneCell i) (by unfold maxLen; omega) (by omega) (by simp; omega) ?_; intro v' w1 ho hg _)
  go_ret
  exact ⟨v', rfl, ho, grownBy_alloc_then hg⟩

set_option maxHeartbeats 800000 in
theorem chunk_hit (base g cap : Nat) (rs : List RunP) (f c i : Int) (w : World) (h : RRow w base (.slice (some ⟨g, 0, none⟩) (rs.length + 1) cap) (rs ++ [(f, c)])) (hl : rs.length ≤ 1000) (hf : 0 ≤ f ∧ f ≤ 256) (hc : 0 ≤ c ∧ c ≤ 256) (hi : f + c = i) :
    Calls Yba.prog 9 #[.slice (some ⟨g, 0, none⟩) (rs.length + 1) cap, .int .i64 i] w fun e w' => e = .returned (.slice (some ⟨g, 0, none⟩) (rs.length + 1) cap) ∧ RRow w' base (.slice (some ⟨g, 0, none⟩) (rs.length + 1) cap) (rs ++ [(f, c + 1)]) ∧ w.grownBy w' (some g) := by
  have hn : (rs ++ [(f, c)]).length = rs.length + 1 := by simp
  have h' : RRow w base (.slice (some ⟨g, 0, none⟩) (rs ++ [(f, c)]).length cap) (rs ++ [(f, c)]) := by rw [hn]; exact h
  obtain ⟨k0, k1⟩ := h'.at (k := rs.length) (f := f) (c := c) (by simp)
  have ho : w.ownsRow base 39 2 (.slice (some ⟨g, 0, none⟩) (rs.length + 1) cap) (rs.length + 1) (flat (rs ++ [(f, c)])) := by have := h; unfold RRow at this; rw [hn] at this; exact this
  have hgl := (ho.lt g rfl).2
  have f1 := ho.frozenAt (rs.length * 2 + 1)
  obtain ⟨hs1, hs2⟩ := ho.stored (rs.length * 2 + 1) (.int .i64 (c + 1))
  rw [flat_bump] at hs1
  have HS1 : Hid (RRow ((w.setCell ⟨g, rs.length * 2 + 1, none⟩ (.int .i64 (c + 1))).alloc (.cells #[.int .i64 f, .int .i64 c] 39)) base (.slice (some ⟨g, 0, none⟩) (rs.length + 1) cap) (rs ++ [(f, c + 1)])) := by
    have := World.ownsRow.alloc hs1 (.cells #[.int .i64 f, .int .i64 c] 39)
    unfold RRow Hid
    simpa using this
  have HS2 : Hid (w.grownBy ((w.setCell ⟨g, rs.length * 2 + 1, none⟩ (.int .i64 (c + 1))).alloc (.cells #[.int .i64 f, .int .i64 c] 39)) (some g)) :=
    ⟨hs2.os, hs2.tape, hs2.output, by have := hs2.size; simp at this ⊢, fun k hk hn => (Below.heap_alloc _ _ _ (by have := hs2.size; omega)).trans (hs2.block k hk hn)⟩
  have hib : (f + c == i) = true := by simp [hi]
  clear hi hs1 hs2 ho h h' hn
  go_enter Yba.func9, Yba.ntmps9
  go_wp2_with (go_at_call 13; refine (end_any f c _ hf hc).mono ?_; rintro e w' ⟨rfl, rfl⟩)
  go_ret
  exact ⟨rfl, HS1.out, HS2.out⟩

set_option maxHeartbeats 800000 in
theorem chunk_miss (base g cap : Nat) (rs : List RunP) (f c i : Int) (w : World) (h : RRow w base (.slice (some ⟨g, 0, none⟩) (rs.length + 1) cap) (rs ++ [(f, c)])) (hb : base ≤ w.heap.size) (hl : rs.length ≤ 1000) (hf : 0 ≤ f ∧ f ≤ 256) (hc : 0 ≤ c ∧ c ≤ 256) (hi : f + c ≠ i) :
    Calls Yba.prog 9 #[.slice (some ⟨g, 0, none⟩) (rs.length + 1) cap, .int .i64 i] w fun e w' => ∃ v', e = .returned v' ∧ RRow w' base v' (rs ++ [(f, c)] ++ [(i, 1)]) ∧ w.grownBy w' (some g) := by
  obtain ⟨i0, hi0, hz0, hz1, hz2⟩ := info_parts info39
  have hn : (rs ++ [(f, c)]).length = rs.length + 1 := by simp
  have h' : RRow w base (.slice (some ⟨g, 0, none⟩) (rs ++ [(f, c)]).length cap) (rs ++ [(f, c)]) := by rw [hn]; exact h
  obtain ⟨k0, k1⟩ := h'.at (k := rs.length) (f := f) (c := c) (by simp)
  have ho : w.ownsRow base 39 2 (.slice (some ⟨g, 0, none⟩) (rs.length + 1) cap) (rs.length + 1) (flat (rs ++ [(f, c)])) := by have := h; unfold RRow at this; rw [hn] at this; exact this
  have hib : (f + c == i) = false := beq_eq_false_iff_ne.2 hi
  clear hi h h' hn
  go_enter Yba.func9, Yba.ntmps9
  go_wp2_with (first
    | (go_at_call 13; refine (end_any f c _ hf hc).mono ?_; rintro e w' ⟨rfl, rfl⟩)
    | (at_builtin; refine wpList_append_own _ rfl _ _ 25 rfl base 39 i0 (.agg #[.int .i64 0, .int .i64 0]) 2 16 Yba.underlying25 hi0 hz0 hz1 hz2 rfl (by decide) _ (rs.length + 1) _ rfl (World.ownsRow.alloc (World.ownsRow.alloc ho _) _) ⟨w.heap.size + 1, 0, none⟩ 1 1 [.int .i64 i, .int .i64 1] rfl rfl (by have := cell_two_new (w.alloc (.cells #[.int .i64 f, .int .i64 c] 39)) (.int .i64 i) (.int .i64 1) 39; simpa using this) (two_oneCell i) (by unfold maxLen; omega) (by omega) (by simp; omega) ?_; intro v' w1 ho1 hg1 _))
  go_ret
  refine ⟨v', rfl, ?_, grownBy_alloc_then (grownBy_alloc_then hg1)⟩
  have hn2 : (rs ++ [(f, c)] ++ [(i, 1)]).length = rs.length + 1 + 1 := by simp
  unfold RRow
  rw [flat_append, hn2]
  exact ho1

/-- '(Runs).appendChunk': the row holds the runs with i added. -/
theorem chunk_any (base : Nat) (v : Value) (rs : List RunP) (i : Int) (w : World) (h : RRow w base v rs) (hb : base ≤ w.heap.size) (hl : rs.length ≤ 1000) (hs : Small rs) :
    Calls Yba.prog 9 #[v, .int .i64 i] w fun e w' => ∃ v', e = .returned v' ∧ RRow w' base v' (addR rs i) ∧ w.grownBy w' v.ownBlock := by
  rcases snoc_cases rs with rfl | ⟨rs', f, c, rfl⟩
  · rw [addR_nil]
    exact chunk_nil base v i w h hb
  · have hsm := hs (f, c) (by simp)
    simp only at hsm
    have hl' : rs'.length ≤ 1000 := by simp at hl; omega
    rcases h.shape with ⟨_, hn⟩ | ⟨g, cap, rfl, _, _⟩
    · simp at hn
    · have hn : (rs' ++ [(f, c)]).length = rs'.length + 1 := by simp
      rw [hn] at h ⊢
      by_cases e : f + c = i
      · rw [addR_hit e]
        refine (chunk_hit base g cap rs' f c i w h hl' ⟨hsm.1, hsm.2.1⟩ ⟨hsm.2.2.1, hsm.2.2.2.1⟩ e).mono ?_
        rintro _ w' ⟨rfl, h1, h2⟩
        exact ⟨_, rfl, h1, h2⟩
      · rw [addR_miss e]
        exact chunk_miss base g cap rs' f c i w h hb hl' ⟨hsm.1, hsm.2.1⟩ ⟨hsm.2.2.1, hsm.2.2.2.1⟩ e

end Go.Proofs.Ybulkeiag
