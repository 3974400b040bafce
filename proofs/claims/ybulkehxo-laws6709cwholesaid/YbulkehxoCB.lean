/-
  FOR LawS6709CWhole: the lines, sorted.
-/
import Derived.Test.YbulkehxoCState
namespace Go.Proofs.Ybulkehxo
open Go.RowKit

theorem info3 : (Yba.prog.info? 3).map (fun i => (i.zero, i.size, i.bytes)) = some (some (.int .i64 0), 1, 8) := by kernel_rfl

set_option maxRecDepth 1000000 in
set_option maxHeartbeats 4000000 in
theorem stageB (D : Dat) (w0 : World) (hI : Inp D w0) (Q : Exit → Act → World → Prop) (ev : Value) (a : Act) (w1 : World) (hs : St1 D w0 ev a w1)
    (hK : ∀ vl a w, St2 D w0 ev vl a w → (cutAt 8 (lawCode Yba.f4)).wp Yba.prog Q a w) : (cutAt 5 (lawCode Yba.f4)).wp Yba.prog Q a w1 := by
  have hsz := hI.sz
  obtain ⟨i3, hi3, hz0, hz1, hz2⟩ := info_parts info3
  obtain ⟨t, rfl, ht⟩ := frame_open a hs.fr.size hs.fr.defers
  have t0 := ht 0 _ hs.fr.h0
  have t1 := ht 1 _ hs.fr.h1
  have t2 := ht 2 _ hs.fr.h2
  have t3 := ht 3 _ hs.fr.h3
  have t9 := ht 9 _ hs.h9
  have t10 := ht 10 _ hs.h10
  have hE := hs.er
  have hB := hs.bl
  clear ht hs
  have e : cutAt 5 (lawCode Yba.f4) = .seq (itemAt 5 (lawCode Yba.f4)) (.seq (itemAt 6 (lawCode Yba.f4)) (.seq (itemAt 7 (lawCode Yba.f4)) (cutAt 8 (lawCode Yba.f4)))) := rfl
  rw [e]
  clear e
  generalize cutAt 8 (lawCode Yba.f4) = c8 at hK ⊢
  conv => arg 2; arg 1; whnf
  conv => arg 2; arg 2; arg 1; whnf
  conv => arg 2; arg 2; arg 2; arg 1; whnf
  unfold frm
  rw [t0, t1, t2, t3, t9, t10]
  clear t0 t1 t2 t3 t9 t10
  go_wp2_with fail
  go_loopw [13, 62] (fun v i wr => ∃ k : Nat, k ≤ D.N ∧ i = .int .i64 k ∧ wr.ownsRow w1.heap.size 3 1 v (dueL D k).length (lineRow ((dueL D k).map (lnR D))) ∧ Below w1.heap.size w1 wr) (fun _ i _ => D.N - (intOf i).toNat)
  case atStart => exact ⟨0, Nat.zero_le _, rfl, ⟨rfl, .inl ⟨rfl, rfl⟩⟩, Below.refl _ _⟩
  case round =>
    obtain ⟨k, hk, rfl, hrow, hBr⟩ := hrel
    by_cases hlt : k < D.N
    · obtain ⟨b, o, ha3, hb, -, -, -, -, -, c5, c6, -⟩ := hI.s3 k hlt
      obtain ⟨l0, l1⟩ := hI.lw k hlt
      rw [ha3]
      have hBw := hB.trans (below_down hBr hB.size)
      have d5 := (World.cell?_of_block (a := ⟨b, o + k * 8 + 5, none⟩) (hBw.block b hb)).trans c5
      have d6 := (World.cell?_of_block (a := ⟨b, o + k * 8 + 6, none⟩) (hBw.block b hb)).trans c6
      have hdl := dueL_len D k
      cases hd : (D.rw k).due
      · rw [hd] at d6
        go_wp2_with fail
        go_roundw
        case rel => exact ⟨k + 1, hlt, by simp, by rw [dueL_succ, hd]; simpa using hrow, hBr⟩
        case measure => simp [intOf]; omega
      · rw [hd] at d6
        have h0 := Int.emod_nonneg (D.rw k).line (show (D.n : Int) + 1 ≠ 0 by omega)
        have h1 := Int.emod_lt_of_pos (D.rw k).line (show 0 < (D.n : Int) + 1 by omega)
        have hw6 : wrap64 ((D.rw k).line % ((D.n : Int) + 1)) = lnR D k := by
          unfold lnR wrap64
          omega
        have hs1 := hBr.size
        clear h0 h1
        go_wp2_with (at_builtin; refine wpList_append_lies _ rfl _ _ 51 rfl w1.heap.size 3 i3 _ 1 8 Yba.underlying51 hi3 hz0 hz1 hz2 rfl (by decide) _ _ _ rfl (World.ownsRow.alloc hrow _) ⟨wr.heap.size, 0, none⟩ 1 1 [.int .i64 (lnR D k)] rfl rfl (cell_one_new _ _ _) (ints_oneCell .i64 [lnR D k]) (by decide) (by unfold maxLen; omega) (by omega) (by simp; omega) _ rfl ?_; intro g cap w5 ho5 hg5 hat hlt5)
        have hown := hrow.alloc (.cells #[.int .i64 (lnR D k)] 3)
        have hB5 : Below w1.heap.size w1 w5 := (hBr.alloc (by omega) _).trans (below_grown hown hg5 (by simp; omega))
        go_roundw
        case rel => exact ⟨k + 1, hlt, by simp, by rw [dueL_succ, hd]; simpa [lineRow] using ho5, hB5⟩
        case measure => simp [intOf]; omega
    · obtain rfl : k = D.N := by omega
      have hdl := dueL_len D D.N
      obtain ⟨av, cv, rfl⟩ := own_shape hrow
      go_wp2_with (go_at_call 11; refine (sort_any w1.heap.size (dueL D D.N).length _ _ _ (List.length_map _) hrow (by omega)).mono ?_; rintro e W ⟨rfl, hrow2, hg2⟩)
      have hB2 : Below w1.heap.size w1 W := hBr.trans (below_grown hrow hg2 hBr.size)
      have hrow3 := ownsRow_base hrow2 hB.size
      have hE2 := ownsRow_below hE hB2
      have hB3 := hB.trans (below_down hB2 hB.size)
      refine hK (.slice av (dueL D D.N).length cv) _ _ ?_
      exact ⟨⟨rfl, rfl, rfl, rfl, rfl, rfl⟩, rfl, rfl, rfl, hE2, hrow3, hB3⟩
end Go.Proofs.Ybulkehxo
