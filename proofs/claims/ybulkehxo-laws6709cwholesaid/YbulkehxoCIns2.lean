/-
  FOR LawS6709CWhole: slices.Insert at events, where there is room; all three roads.
-/
import Derived.Test.YbulkehxoCIns
namespace Go.Proofs.Ybulkehxo
open Go.RowKit

set_option maxRecDepth 100000 in
set_option maxHeartbeats 4000000 in
theorem insert_shift (base vb g n c i : Nat) (xs es : List Value) (w : World) (hr : ERow w base (.slice (some ⟨g, 0, none⟩) n c) n xs) (hi : i < n) (hc : n + 1 ≤ c) (hvg : vb ≠ g)
    (he : w.heap[vb]? = some (.cells es.toArray 50 (0, 0))) (hl : es.length = 14) (h1 : ∀ u ∈ es, u.oneCell' = true) (h1x : ∀ u ∈ xs, u.oneCell' = true) (hn : n ≤ 10000) :
    Calls Yba.prog 22 #[.slice (some ⟨g, 0, none⟩) n c, .int .i64 i, .slice (some ⟨vb, 0, none⟩) 1 1] w fun e w' => ∃ v', e = .returned v' ∧ ERow w' base v' (n + 1) (insC xs i es) ∧ w.grownBy w' (some g) := by
  obtain ⟨i0, hi0, hz0', hz1, hz2⟩ := info_parts info50
  clear hz0'
  have hxl := hr.1
  have hcx : ∀ j u, xs[j]? = some u → w.cell? ⟨g, j, none⟩ = some u := fun j u hj => by rw [hr.cellAt j (by have := (List.getElem?_eq_some_iff.1 hj).1; omega)]; exact hj
  have hgl := (hr.lt g rfl).2
  obtain ⟨cur, hbg, hcm, hH, hcs, hct⟩ : ∃ cur : List Value, base ≤ g ∧ c ≤ maxLen ∧ w.heap[g]? = some (.cells cur.toArray 50 (0, 0)) ∧ cur.length = c * 14 ∧ cur.take (n * 14) = xs := by
    rcases hr.2 with ⟨q, _⟩ | ⟨g', cap', cur, q, a1, a2, a3, a4, a5, a6⟩
    · cases q
    · injection q with q1 _ q3
      injection q1 with q1
      injection q1 with q1
      subst q1
      subst q3
      exact ⟨cur.toList, a1, a4, by simpa using a2, by simpa using a5, a6⟩
  have hcm' : c ≤ 9223372036854775807 := by unfold maxLen at hcm; omega
  have hvl : vb < w.heap.size := lt_of_block he
  have hsz50 : (Yba.prog.info? 50).map (·.size) = some 14 := by rw [hi0]; simp [hz1]
  have hov : ∀ cb, (callFunc 40 #[.slice (some ⟨vb, 0, none⟩) 1 1, .slice (some ⟨g, (i + 1) * 14, none⟩) (n - i) cb]).run Yba.prog w = .ok (.value (.bool false)) w := fun cb => by
    rw [run_callFunc_extern Yba.func40 (by kernel_rfl) (by kernel_rfl) (by kernel_rfl) (e := Extern.SlicesOverlaps.overlaps #[45, 45] #[4]) (by kernel_rfl),
      Lib.run_overlaps_apart w 45 4 50 Yba.underlying45 14 Yba.sizeOf50 ⟨vb, 0, none⟩ ⟨g, (i + 1) * 14, none⟩ 1 1 (n - i) cb hvg 50 50 14 (c * 14) (by simp [World.shape?, he, hl]) (by simp [World.shape?, hH, hcs]) (by omega) (by simp [World.frozen?, he]) (by simp [World.frozen?, he])]
    rfl
  have hdl : (xs.drop (i * 14)).length = (n - i) * 14 := by rw [List.length_drop]; omega
  have htl : (xs.take (i * 14)).length = i * 14 := by rw [List.length_take]; omega
  have hHd : w.drew.heap[g]? = some (.cells cur.toArray 50 (0, 0)) := hH
  have hm1 : Nat.min (n + 1 - i) (n - i) = n - i := by simp only [Nat.min_def]; split <;> omega
  have hcp1 : ∀ ty dc sc, (Builtin.copy_ #[45, 45] ty #[.slice (some ⟨g, (i + 1) * 14, none⟩) (n - i) dc, .slice (some ⟨g, i * 14, none⟩) (n + 1 - i) sc]).run Yba.prog w.drew = _ := fun ty dc sc =>
    run_copy_rowN w.drew 45 45 ty 50 g ((i + 1) * 14) (n - i) dc ⟨g, i * 14, none⟩ (n + 1 - i) sc 14 _ 50 (xs.drop (i * 14)) Yba.underlying45 hsz50 hHd (by rw [hm1, hdl])
      (fun j u hj => by
        rw [Addr.add_lit]
        rw [List.getElem?_drop] at hj
        exact hcx _ u hj)
      (by rw [hdl]; simp only [List.size_toArray, hcs]; omega) (fun u hu => h1x u (List.mem_of_mem_drop hu))
  obtain ⟨W1, hcp2, R, hR, hH1, hg1⟩ : ∃ W1 : World, (∀ ty dc sc, (Builtin.copy_ #[45, 45] ty #[.slice (some ⟨g, (i + 1) * 14, none⟩) (n - i) dc, .slice (some ⟨g, i * 14, none⟩) (n + 1 - i) sc]).run Yba.prog w.drew = .ok (goInt ((n - i : Nat) : Int)) W1) ∧
      ∃ R : List Value, R.length = c * 14 - (n + 1) * 14 ∧ W1.heap[g]? = some (.cells (cur.take ((i + 1) * 14) ++ xs.drop (i * 14) ++ R).toArray 50 (0, 0)) ∧ w.grownBy W1 (some g) := by
    refine ⟨w.drew.setRow g (List.take ((i + 1) * 14) cur.toArray.toList ++ List.drop (i * 14) xs ++ List.drop ((i + 1) * 14 + (List.drop (i * 14) xs).length) cur.toArray.toList).toArray, fun ty dc sc => (hcp1 ty dc sc).trans (by rw [hm1]), cur.drop ((i + 1) * 14 + (List.drop (i * 14) xs).length), ?_, ?_, ?_⟩
    · rw [List.length_drop, hdl, hcs]; omega
    · exact setRow_heap w.drew g _ _ 50 _ hHd
    · exact ⟨rfl, rfl, rfl, by simp [World.setRow], fun k _ hk => setRow_other w.drew g k _ (fun e => hk (by rw [e]))⟩
  clear hcp1
  have hml : Nat.min 1 (n + 1 - i) = 1 := by simp only [Nat.min_def]; split <;> omega
  have htk : (cur.take ((i + 1) * 14)).length = (i + 1) * 14 := by rw [List.length_take, hcs]; omega
  have hcp3 : ∀ ty dc, (Builtin.copy_ #[45, 45] ty #[.slice (some ⟨g, i * 14, none⟩) (n + 1 - i) dc, .slice (some ⟨vb, 0, none⟩) 1 1]).run Yba.prog W1 = _ := fun ty dc =>
    run_copy_rowN W1 45 45 ty 50 g (i * 14) (n + 1 - i) dc ⟨vb, 0, none⟩ 1 1 14 _ 50 es Yba.underlying45 hsz50 hH1 (by rw [hml, hl])
      (fun j u hj => by rw [Addr.add_lit, cell_of_row W1 vb _ es.toArray 50 (0, 0) ((hg1.block vb hvl (by simpa using hvg)).trans he)]; simpa using hj)
      (by rw [hl]; simp only [List.size_toArray, List.length_append, htk, hdl, hR]; omega) h1
  obtain ⟨W2, hcp4, hfin⟩ : ∃ W2 : World, (∀ ty dc, (Builtin.copy_ #[45, 45] ty #[.slice (some ⟨g, i * 14, none⟩) (n + 1 - i) dc, .slice (some ⟨vb, 0, none⟩) 1 1]).run Yba.prog W1 = .ok (goInt 1) W2) ∧ Hid (ERow W2 base (.slice (some ⟨g, 0, none⟩) (n + 1) c) (n + 1) (insC xs i es) ∧ w.grownBy W2 (some g)) := by
    refine ⟨W1.setRow g (List.take (i * 14) (cur.take ((i + 1) * 14) ++ xs.drop (i * 14) ++ R).toArray.toList ++ es ++ List.drop (i * 14 + es.length) (cur.take ((i + 1) * 14) ++ xs.drop (i * 14) ++ R).toArray.toList).toArray, fun ty dc => (hcp3 ty dc).trans (by rw [hml]; rfl), ?_⟩
    refine ⟨⟨?_, .inr ⟨_, _, _, rfl, hbg, setRow_heap W1 g _ _ 50 _ hH1, hc, hcm, ?_, ?_⟩⟩, ?_⟩
    · unfold insC
      simp only [List.length_append, htl, hl, hdl]
      omega
    · simp only [List.size_toArray, List.length_append, List.length_take, List.length_drop, htk, hl, hdl, hR]
      omega
    · have e1 : List.take (i * 14) (cur.take ((i + 1) * 14) ++ xs.drop (i * 14) ++ R) = xs.take (i * 14) := by
        rw [List.append_assoc, List.take_append_of_le_length (by rw [htk]; omega), List.take_take, ← hct, List.take_take]
        congr 1
        simp only [Nat.min_def]
        split <;> split <;> omega
      have e2 : List.drop (i * 14 + es.length) (cur.take ((i + 1) * 14) ++ xs.drop (i * 14) ++ R) = xs.drop (i * 14) ++ R := by
        rw [hl, List.append_assoc]
        exact drop_app _ _ _ (by rw [htk]; omega)
      rw [List.toList_toArray, List.toList_toArray, e1, e2, ← List.append_assoc]
      unfold insC
      exact take_app _ _ _ (by simp only [List.length_append, htl, hl, hdl]; omega)
    · exact ⟨hg1.os, hg1.tape, hg1.output, Nat.le_trans hg1.size (by simp [World.setRow]), fun k hk hne => (setRow_other W1 g k _ (fun e => hne (by rw [e]))).trans (hg1.block k hk hne)⟩
  have hw1 : IntKind.i64.wrap ((i : Int) + 1) = (i : Int) + 1 := by rw [IntKind.wrap_i64]; omega
  have hb5 : (0 : Int) ≤ (i : Int) + 1 := by omega
  have hb6 : (i : Int) ≤ (n : Int) + 1 := by omega
  have hb6' : (i : Int) + 1 ≤ (n : Int) + 1 := by omega
  have hb7 : i ≤ n + 1 := by omega
  have htn : ((i : Int) + 1).toNat = i + 1 := by omega
  have hb8 : ¬ (c = i + 1) := by omega
  have hb9 : ¬ (c = i) := by omega
  clear hr hH hHd hg1 hH1 hcs hct hxl hcp3
  go_enter Yba.func22, Yba.ntmps22
  go_wp2_with (simp only [hov])
  go_region_law (refine step_copyR rfl _ _ 45 45 rfl _ _ (by simp [Act.eval, Act.put]) (by simp [Act.eval, Act.put]) (hcp2 _ _ _) ?_)
  all_goals
    go_wp2_with (at_builtin; refine wpList_copyR _ rfl _ _ 45 45 rfl _ _ rfl rfl (hcp4 _ _) ?_)
    go_ret
    exact ⟨_, rfl, hfin.out⟩

/-- 'slices.Insert(s, i, e)' at a row of events of the call's own. -/
theorem insert_any (base vb n i : Nat) (v : Value) (xs es : List Value) (w : World) (hr : ERow w base v n xs) (hb : base ≤ w.heap.size) (hi : i ≤ n) (hv : ∀ b, v.ownBlock = some b → b ≠ vb)
    (he : w.heap[vb]? = some (.cells es.toArray 50 (0, 0))) (hl : es.length = 14) (h1 : ∀ u ∈ es, u.oneCell' = true) (h1x : ∀ u ∈ xs, u.oneCell' = true) (hn : n ≤ 10000) :
    Calls Yba.prog 22 #[v, .int .i64 i, .slice (some ⟨vb, 0, none⟩) 1 1] w fun e w' => ∃ v', e = .returned v' ∧ ERow w' base v' (n + 1) (insC xs i es) ∧ w.grownBy w' v.ownBlock := by
  by_cases hin : i = n
  · subst hin
    exact insert_end base vb i v xs es w hr hb he hl h1 hn
  · rcases hr.2 with ⟨_, h0⟩ | ⟨g, c, cur, rfl, _, _, hc, _⟩
    · omega
    · by_cases hroom : n + 1 ≤ c
      · exact insert_shift base vb g n c i xs es w hr (by omega) hroom (fun e => hv g rfl e.symm) he hl h1 h1x hn
      · obtain rfl : c = n := by omega
        exact insert_grow base vb g c i xs es w hr hb (by omega) he hl h1 h1x hn

end Go.Proofs.Ybulkehxo
