/-
  FOR LawS6709BWhole: slices.Delete(s, i, i+1) on a row of ints of the call's own.
-/
import Derived.Test.YbulkehxoBSlices
import Derived.Deep.RegionLaw
import Derived.Lib.SliceRun
namespace Go.Proofs.Ybulkehxo
open Go.RowKit

theorem zero24 (w : World) : (zeroValue 24).run Yba.prog w = .ok (.int .i64 0) w := by kernel_rfl

/-! ### a row's block behind a run of stores -/
theorem setCells_block (g : Nat) (t : TypeId) : ∀ (vs : List Value) (o : Nat) (w : World) (cur : Array Value), w.heap[g]? = some (.cells cur t (0, 0)) →
    ∃ cur', (w.setCells g o vs).heap[g]? = some (.cells cur' t (0, 0)) ∧ cur'.size = cur.size
  | [], _, _, cur, h => ⟨cur, h, rfl⟩
  | v :: vs, o, w, cur, h => by
    obtain ⟨cur', h1, h2⟩ := setCells_block g t vs (o + 1) (w.setCell ⟨g, o, none⟩ v) (cur.setIfInBounds o v) (heap_setCell_same w g o cur t v h)
    exact ⟨cur', h1, by simpa using h2⟩
theorem setCells_grown (g : Nat) : ∀ (vs : List Value) (o : Nat) (w : World), w.grownBy (w.setCells g o vs) (some g)
  | [], _, w => ⟨rfl, rfl, rfl, Nat.le_refl _, fun _ _ _ => rfl⟩
  | v :: vs, o, w => by
    have h := setCells_grown g vs (o + 1) (w.setCell ⟨g, o, none⟩ v)
    exact ⟨h.os, h.tape, h.output, by have := h.size; simp only [World.size_setCell] at this; exact this, fun k hk hne => (h.block k (by simpa using hk) hne).trans (Below.heap_setCell _ _ _ _ (fun e => hne (by rw [e])))⟩

/-- The cells behind index i. -/
def moved (ns : List Int) (i : Nat) : List Value := (ns.drop (i + 1)).map (Value.int .i64)
theorem moved_length (ns : List Int) (i : Nat) : (moved ns i).length = ns.length - (i + 1) := by simp [moved]
theorem moved_get {ns : List Int} {i j : Nat} (hj : j < ns.length - (i + 1)) : (moved ns i)[j]? = some (.int .i64 (ns.getD (i + 1 + j) 0)) := by
  simp [moved, List.getD, show i + 1 + j < ns.length by omega]

set_option maxHeartbeats 1600000 in
set_option maxRecDepth 1000000 in
theorem del_walk (b len cap i : Nat) (ns : List Int) (w : World) (hi : i < len) (hl : len ≤ cap) (hm : cap ≤ 9223372036854775807) (hlen : len ≤ 1000000) (hz : ns.length = len)
    (hc : ∀ j, j < ns.length → w.cell? ⟨b, j, none⟩ = some (.int .i64 (ns.getD j 0))) (hf : ∀ j, w.frozen? ⟨b, j, none⟩ = false) :
    Calls Yba.prog 16 #[.slice (some ⟨b, 0, none⟩) len cap, .int .i64 i, .int .i64 ((i : Int) + 1)] w fun e w' => e = .returned (.slice (some ⟨b, 0, none⟩) (i + (len - (i + 1))) cap) ∧
      w' = (w.drew.setCells b i (moved ns i)).setCells b (i + (len - (i + 1))) [.int .i64 0] := by
  obtain ⟨i0, hi0, hz0, hz1, hz2⟩ := info_parts info24
  obtain ⟨A, hA, hnews⟩ : ∃ A : Addr, (if cap = i + 1 then some (⟨b, 0, none⟩ : Addr) else some ⟨b, i + 1, none⟩) = some A ∧ Hid (∀ j u, (moved ns i)[j]? = some u → w.drew.cell? (A.add j) = some u) := by
    by_cases h : cap = i + 1
    · refine ⟨⟨b, 0, none⟩, by simp [h], fun j u hu => ?_⟩
      have h0 : (moved ns i).length = 0 := by rw [moved_length]; omega
      rw [List.length_eq_zero_iff.1 h0] at hu
      simp at hu
    · refine ⟨⟨b, i + 1, none⟩, by simp [h], fun j u hu => ?_⟩
      have hj : j < ns.length - (i + 1) := by
        have := (List.getElem?_eq_some_iff.1 hu).1
        rwa [moved_length] at this
      rw [moved_get hj] at hu
      rw [Addr.add_lit]
      exact (hc (i + 1 + j) (by omega)).trans hu
  have s1 : Hid ((moved ns i).length = (len - (i + 1)) * 1) := by rw [Nat.mul_one, ← hz]; exact moved_length ns i
  have s2 : Hid (∀ u ∈ moved ns i, u.oneCell' = true) := by
    intro u hu
    obtain ⟨x, _, rfl⟩ := List.mem_map.1 hu
    rfl
  have s3 : Hid (∀ j, j < (moved ns i).length → (w.drew.cell? ⟨b, 0 + i * 1 + j, none⟩).isSome = true ∧ w.drew.frozen? ⟨b, 0 + i * 1 + j, none⟩ = false) := by
    intro j hj
    rw [moved_length] at hj
    rw [Nat.mul_one, Nat.zero_add]
    exact ⟨by show (w.cell? _).isSome = true; rw [hc (i + j) (by omega)]; rfl, hf (i + j)⟩
  obtain ⟨W1, hW1⟩ : ∃ W1, W1 = w.drew.setCells b (0 + i * 1) (moved ns i) := ⟨_, rfl⟩
  have hlast : (W1.cell? ⟨b, i + (len - (i + 1)), none⟩).isSome = true := by
    rw [hW1, World.cell?_setCells_out b _ _ _ _ (fun _ _ => by right; rw [moved_length]; show 0 + i * 1 + (ns.length - (i + 1)) ≤ i + (len - (i + 1)); omega)]
    show (w.cell? _).isSome = true
    rw [hc _ (by omega)]
    rfl
  have hcl : ∀ ty, (Builtin.clear_ #[25] ty #[.slice (some ⟨b, i + (len - (i + 1)), none⟩) (len - (i + (len - (i + 1)))) (cap - (i + (len - (i + 1))))]).run Yba.prog W1 = .ok (.tuple #[]) (W1.setCells b (i + (len - (i + 1))) [.int .i64 0]) := by
    intro ty
    have e1 : len - (i + (len - (i + 1))) = 1 := by omega
    rw [e1]
    have hc1 : ∀ j, j < 1 → (W1.cell? ⟨b, i + (len - (i + 1)) + j, none⟩).isSome = true := by
      intro j hj
      have e0 : j = 0 := by omega
      rw [e0]
      exact hlast
    have := Lib.run_clear_slice (P := Yba.prog) W1 25 24 ty (.int .i64 0) Yba.underlying25 zero24 rfl rfl b (i + (len - (i + 1))) 1 (cap - (i + (len - (i + 1)))) (by omega) hc1 (fun j _ => by rw [hW1, World.frozen?_setCells]; exact hf _)
    exact this
  have HW : Hid (W1 = w.drew.setCells b (0 + i * 1) (moved ns i)) := hW1
  have hic : i ≤ cap := by omega
  have hwr : IntKind.i64.wrap ((i : Int) + 1) = (i : Int) + 1 := by rw [IntKind.wrap_i64]; omega
  have hp0 : (0 : Int) ≤ (i : Int) + 1 := by omega
  have hp1 : (i : Int) + 1 ≤ (len : Int) := by omega
  have hp2 : ((i : Int) + 1).toNat = i + 1 := by omega
  clear hc hf hW1 hlast
  go_enter Yba.func16, Yba.ntmps16
  go_wp2_with fail
  go_region_law (refine step_append_room rfl (.tmp 22) (.tmp 25) 25 rfl 24 i0 1 Yba.underlying25 hi0 hz1 b 0 i cap (by simp [Act.eval, Act.put]) A (len - (i + 1)) (cap - (i + 1)) (moved ns i) (by simp [Act.eval, Act.put]) s1.out hnews.out s2.out (by omega) s3.out ?_; rw [← HW.out])
  all_goals go_wp2
  all_goals go_ret
  all_goals exact ⟨rfl, by rw [HW.out, Nat.mul_one, Nat.zero_add]⟩

/-- slices.Delete(s, i, i+1): the row holds what is left; nothing but the row's block turns. -/
theorem delete_any (base g cap i : Nat) (ns : List Int) (w : World) (ho : IRow w base (.slice (some ⟨g, 0, none⟩) ns.length cap) ns) (hi : i < ns.length) (hl : ns.length ≤ 100000) :
    Calls Yba.prog 16 #[.slice (some ⟨g, 0, none⟩) ns.length cap, .int .i64 i, .int .i64 ((i : Int) + 1)] w fun e w' =>
      e = .returned (.slice (some ⟨g, 0, none⟩) (ns.eraseIdx i).length cap) ∧ IRow w' base (.slice (some ⟨g, 0, none⟩) (ns.eraseIdx i).length cap) (ns.eraseIdx i) ∧ w.grownBy w' (some g) := by
  obtain ⟨cur, hbg, hg, hnc, hcm, hcs, htake⟩ : ∃ cur, base ≤ g ∧ w.heap[g]? = some (.cells cur 24 (0, 0)) ∧ ns.length ≤ cap ∧ cap ≤ maxLen ∧ cur.size = cap * 1 ∧ cur.toList.take (ns.length * 1) = ns.map (Value.int .i64) := by
    rcases ho.2 with ⟨h', _⟩ | ⟨g', cap', cur, h', h1, h2, h3, h4, h5, h6⟩
    · simp at h'
    · simp only [Value.slice.injEq, Option.some.injEq, Addr.mk.injEq, and_true, true_and] at h'
      obtain ⟨rfl, rfl⟩ := h'
      exact ⟨cur, h1, h2, h3, h4, h5, h6⟩
  have hcell : ∀ j, j < ns.length → w.cell? ⟨g, j, none⟩ = some (.int .i64 (ns.getD j 0)) := fun j hj => by
    rw [World.ownsRow.cellAt ho j (by omega)]; simp [hj]
  have hlen : (ns.eraseIdx i).length = i + (ns.length - (i + 1)) := by rw [List.length_eraseIdx_of_lt hi]; omega
  refine (del_walk g ns.length cap i ns w hi hnc hcm (by omega) rfl hcell (fun j => World.ownsRow.frozenAt ho j)).mono ?_
  rintro e w' ⟨rfl, rfl⟩
  rw [hlen]
  refine ⟨rfl, ⟨by rw [List.length_map, hlen]; omega, ?_⟩, ?_⟩
  · obtain ⟨cur1, h1, s1⟩ := setCells_block g 24 (moved ns i) i w.drew cur hg
    obtain ⟨cur2, h2, s2⟩ := setCells_block g 24 [.int .i64 0] (i + (ns.length - (i + 1))) (w.drew.setCells g i (moved ns i)) cur1 h1
    refine .inr ⟨g, cap, cur2, by rw [hlen], hbg, h2, by omega, hcm, by omega, ?_⟩
    apply List.ext_getElem?
    intro j
    rw [List.getElem?_take]
    by_cases hj : j < i + (ns.length - (i + 1))
    · rw [if_pos (by omega)]
      have hw2 : ((w.drew.setCells g i (moved ns i)).setCells g (i + (ns.length - (i + 1))) [.int .i64 0]).cell? ⟨g, j, none⟩ = cur2[j]? := cell_of_row _ g j cur2 24 (0, 0) h2
      rw [Array.getElem?_toList, ← hw2, World.cell?_setCells_out g _ _ _ _ (fun _ _ => .inl hj), List.getElem?_map, List.getElem?_eraseIdx]
      by_cases hji : j < i
      · rw [World.cell?_setCells_out g _ _ _ _ (fun _ _ => .inl hji), if_pos hji]
        show w.cell? _ = _
        rw [hcell j (by omega)]
        simp [show j < ns.length by omega]
      · rw [if_neg hji]
        have := World.cell?_setCells_in g (moved ns i) i w.drew (fun t ht => by
          rw [moved_length] at ht
          show (w.cell? _).isSome = true
          rw [hcell (i + t) (by omega)]; rfl) (j - i) (by rw [moved_length]; omega)
        rw [show i + (j - i) = j by omega] at this
        rw [this, ← List.getElem?_eq_getElem, moved_get (by omega), show i + 1 + (j - i) = j + 1 by omega]
        simp [show j + 1 < ns.length by omega]
    · rw [if_neg (by omega), List.getElem?_eq_none (by rw [List.length_map, hlen]; omega)]
  · have g1 := setCells_grown g (moved ns i) i w.drew
    have g2 := setCells_grown g [.int .i64 0] (i + (ns.length - (i + 1))) (w.drew.setCells g i (moved ns i))
    exact ⟨g2.os.trans g1.os, g2.tape.trans g1.tape, g2.output.trans g1.output, Nat.le_trans g1.size g2.size, fun k hk hne => (g2.block k (Nat.lt_of_lt_of_le hk g1.size) hne).trans (g1.block k hk hne)⟩

end Go.Proofs.Ybulkehxo
