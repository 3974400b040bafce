/-
  FOR LawS6709CWhole: slices.Insert at events.
-/
import Derived.Test.YbulkehxoCLeaf
import Derived.Deep.AppendLies
import Derived.Deep.RegionLaw
import Derived.Lib.Overlaps
import Derived.Lib.AppendZeros
import Derived.Laws.CopyRow
namespace Go.Proofs.Ybulkehxo
open Go.RowKit

theorem info50 : (Yba.prog.info? 50).map (fun i => (i.zero, i.size, i.bytes)) = some (some (.agg #[.int .i64 0, .string ⟨#[]⟩, .string ⟨#[]⟩, .string ⟨#[]⟩, .int .u8 0, .slice none 0 0, .bool false, .string ⟨#[]⟩, .string ⟨#[]⟩, .int .i64 0, .int .i64 0, .int .i64 0, .float .f64 0, .string ⟨#[]⟩]), 14, 176) := by kernel_rfl

section
variable {P : Program}
/-- 'copy' of elements of more than one cell. -/
theorem run_copy_rowN (w : World) (dT sT ty elem : TypeId) (g o dLen dCap : Nat) (a : Addr) (sLen sCap sz : Nat) (cur : Array Value) (t : TypeId) (cs : List Value)
    (hu : P.underlying dT = some (.slice elem)) (hs : (P.info? elem).map (·.size) = some sz)
    (hg : w.heap[g]? = some (.cells cur t (0, 0))) (hn : cs.length = Nat.min sLen dLen * sz)
    (hsrc : ∀ j v, cs[j]? = some v → w.cell? (a.add j) = some v) (hfit : o + cs.length ≤ cur.size) (h1 : ∀ v ∈ cs, v.oneCell' = true) :
    (Builtin.copy_ #[dT, sT] ty #[.slice (some ⟨g, o, none⟩) dLen dCap, .slice (some a) sLen sCap]).run P w =
      .ok (goInt (Nat.min sLen dLen)) (w.setRow g (cur.toList.take o ++ cs ++ cur.toList.drop (o + cs.length)).toArray) := by
  have hl := run_loadCells_list (P := P) w a cs hsrc
  have hst := run_storeCells_at P g o t cs 0 cur w hg (by simpa using hfit) h1
  cases hq : P.info? elem with
  | none => simp [hq] at hs
  | some i =>
    have hi : i.size = sz := by simpa [hq] using hs
    simp [Builtin.copy_, run_underlying hu, Builtin.lenOf, Builtin.firstCells, sizeOf, typeInfo, hq, hi, ← hn, hl, hst]
/-- 'append(s, make(S, m)...)' where there is no room. -/
theorem run_append_zeros_grow (w : World) (t tn ty e : TypeId) (i : TypeInfo) (z : Value) (k kn : IntKind) (ht : P.underlying t = some (.slice e)) (htn : P.underlying tn = some (.int kn)) (hi : P.info? e = some i) (hz : i.zero = some z)
    (b : Addr) (sLen sCap : Nat) (olds : List Value) (hlo : olds.length = sLen * i.size) (holds : ∀ j v, olds[j]? = some v → w.cell? (b.add j) = some v)
    (n : Nat) (h0 : 0 < n) (hs : 0 < i.size) (hg : sCap < sLen + n) (h63 : ((sLen + n : Nat) : Int) ≤ 9223372036854775807) (h48 : n * i.bytes ≤ 281474976710656) (hfit : Builtin.nextslicecap (sLen + n) sCap * i.bytes ≤ 281474976710656) :
    (Builtin.append_ #[t, tn] ty #[.slice (some b) sLen sCap, .int k n]).run P w =
      .ok (.slice (some ⟨w.heap.size, 0, none⟩) (sLen + n) (grownCap w (sLen + n) sCap e))
        (w.drew.alloc (.cells (olds.toArray ++ Builtin.zeroCells z.cells n ++ Builtin.zeroCells z.cells (grownCap w (sLen + n) sCap e - (sLen + n))) e)) := by
  have hn : ¬ (sLen + n ≤ sCap) := by omega
  have hn0 : n ≠ 0 := by omega
  have hw : IntKind.i64.wrap (n : Int) = n := by rw [IntKind.wrap_i64]; omega
  have hneg : ¬ ((n : Int) < 0) := by omega
  have hns : ¬ (n * i.size = 0) := Nat.mul_ne_zero hn0 (by omega)
  have h63' : ¬ (9223372036854775807 < ((sLen : Int) + (n : Int))) := by omega
  have h48i : ¬ (281474976710656 < (n : Int) * (i.bytes : Int)) := by
    rw [← Int.natCast_mul]
    omega
  have h48' : ¬ (281474976710656 < Builtin.nextslicecap (sLen + n) sCap * i.bytes) := by omega
  have hfo := run_firstCells_some (P := P) w.drew i.size sLen b sLen sCap olds hlo (by simpa using holds)
  simp [Builtin.append_, run_underlying ht, run_underlying htn, sizeOf, typeInfo, zeroValue, hi, hz, asInt, asIntOf, hw, hneg, hns, Builtin.lenOf, hn, h63', h48', h48i, Question.forced, hfo, newRow, grownCap]
end

/-! ### 'copy', a step of a region (after the shelf's) -/
section
variable {P : Program}
theorem wpList_copyR (w : World) {ops : Array Oper} {rest : List Oper} {o : Oper} {a : Act} {Q : Exit → Act → World → Prop} (hgd : o.guard = none) (d s : Operand) (t t' : TypeId)
    (ho : o.op = .call { callee := .builtin .copy, args := #[d, s], argTypes := #[t, t'] }) (v u : Value) (hd : a.eval d = v) (hs : a.eval s = u) {v' : Value} {w' : World}
    (hr : (Builtin.copy_ #[t, t'] o.type #[v, u]).run P w = .ok v' w') (h : wpList P ops Q rest (a.put o.dst v') w') : wpList P ops Q (o :: rest) a w := by
  refine wpList_plain hgd fun _ hK => ?_
  unfold Oper.wp execOp
  simp only [ho, resolve, invoke, builtin, Sem.run_bind, Sem.run_pure, Result.andThen_ok, List.map_toArray, List.map_cons, List.map_nil, hd, hs, hr]
  exact hK _ _ h
theorem step_copyR {ops : Array Oper} {o : Oper} {a : Act} {w : World} {K : Act → World → Prop} {Q : Exit → Act → World → Prop} {E : Prop}
    (hg : o.guard = none) (d x : Operand) (dT sT : TypeId) (hop : o.op = Op.call { callee := Callee.builtin Builtin.copy, args := #[d, x], argTypes := #[dT, sT] })
    (v u : Value) (hd : a.eval d = v) (hx : a.eval x = u) {v' : Value} {w' : World} (hr : (Builtin.copy_ #[dT, sT] o.type #[v, u]).run P w = .ok v' w') (hK : K (a.put o.dst v') w') :
    if Region.wanted o (yielded ops a.tmps) = true then Oper.wp P o a w K Q else E := by
  have hw : Region.wanted o (yielded ops a.tmps) = true := by simp [Region.wanted, hg]
  rw [if_pos hw]
  unfold Oper.wp
  simp [execOp, hop, resolve, invoke, builtin, hd, hx, hr, Result.andThen]
  exact hK
end

/-- A row of events of the call's own. -/
abbrev ERow (w : World) (base : Nat) (v : Value) (n : Nat) (xs : List Value) : Prop := w.ownsRow base 50 14 v n xs
def insC (xs : List Value) (i : Nat) (es : List Value) : List Value := xs.take (i * 14) ++ es ++ xs.drop (i * 14)

set_option maxRecDepth 100000 in
set_option maxHeartbeats 2000000 in
theorem insert_end (base vb n : Nat) (v : Value) (xs es : List Value) (w : World) (hr : ERow w base v n xs) (hb : base ≤ w.heap.size)
    (he : w.heap[vb]? = some (.cells es.toArray 50 (0, 0))) (hl : es.length = 14) (h1 : ∀ u ∈ es, u.oneCell' = true) (hn : n ≤ 10000) :
    Calls Yba.prog 22 #[v, .int .i64 n, .slice (some ⟨vb, 0, none⟩) 1 1] w fun e w' => ∃ v', e = .returned v' ∧ ERow w' base v' (n + 1) (insC xs n es) ∧ w.grownBy w' v.ownBlock := by
  obtain ⟨i0, hi0, hz0, hz1, hz2⟩ := info_parts info50
  obtain ⟨a, c, rfl, hc⟩ : ∃ a c, v = .slice a n c ∧ n ≤ c := by
    rcases hr.2 with ⟨rfl, rfl⟩ | ⟨g, cap, cur, rfl, _, _, h, _⟩
    · exact ⟨_, _, rfl, Nat.le_refl _⟩
    · exact ⟨_, _, rfl, h⟩
  have hxs : insC xs n es = xs ++ es := by
    have hx := hr.1
    unfold insC
    rw [List.take_of_length_le (by omega), List.drop_eq_nil_of_le (by omega), List.append_nil]
  go_enter Yba.func22, Yba.ntmps22
  go_wp2_with (at_builtin; refine wpList_append_own _ rfl _ _ 45 rfl base 50 i0 _ 14 176 Yba.underlying45 hi0 hz0 hz1 hz2 rfl (by decide) _ n xs rfl hr ⟨vb, 0, none⟩ 1 1 es rfl (by omega) (fun j u hj => by rw [Addr.add_lit, cell_of_row w vb _ es.toArray 50 (0, 0) he]; simpa using hj) h1 (by unfold maxLen; omega) (by omega) hb ?_; intro v' w1 ho hg _)
  all_goals
    go_ret
    exact ⟨v', rfl, ho, by cases a <;> exact hg⟩

theorem take_app (a b : List Value) (k : Nat) (h : a.length = k) : (a ++ b).take k = a := by subst h; exact List.take_left
theorem drop_app (a b : List Value) (k : Nat) (h : a.length = k) : (a ++ b).drop k = b := by subst h; exact List.drop_left

set_option maxRecDepth 100000 in
set_option maxHeartbeats 4000000 in
theorem insert_grow (base vb g n i : Nat) (xs es : List Value) (w : World) (hr : ERow w base (.slice (some ⟨g, 0, none⟩) n n) n xs) (hb : base ≤ w.heap.size) (hi : i < n)
    (he : w.heap[vb]? = some (.cells es.toArray 50 (0, 0))) (hl : es.length = 14) (h1 : ∀ u ∈ es, u.oneCell' = true) (h1x : ∀ u ∈ xs, u.oneCell' = true) (hn : n ≤ 10000) :
    Calls Yba.prog 22 #[.slice (some ⟨g, 0, none⟩) n n, .int .i64 i, .slice (some ⟨vb, 0, none⟩) 1 1] w fun e w' => ∃ v', e = .returned v' ∧ ERow w' base v' (n + 1) (insC xs i es) ∧ w.grownBy w' (some g) := by
  obtain ⟨i0, hi0, hz0', hz1, hz2⟩ := info_parts info50
  obtain ⟨zv, hz0, hzc⟩ : ∃ zv, i0.zero = some zv ∧ zv.cells.size = 14 := ⟨_, hz0', rfl⟩
  clear hz0'
  have hxl := hr.1
  have hcx : ∀ j u, xs[j]? = some u → w.cell? ⟨g, j, none⟩ = some u := fun j u hj => by rw [hr.cellAt j (by have := (List.getElem?_eq_some_iff.1 hj).1; omega)]; exact hj
  have hgl := (hr.lt g rfl).2
  have hrun : ∀ ty, (Builtin.append_ #[45, 3] ty #[.slice (some ⟨g, 0, none⟩) i n, .int .i64 ((n + 1 - i : Nat) : Int)]).run Yba.prog w = _ := fun ty =>
    run_append_zeros_grow w 45 3 ty 50 i0 _ .i64 .i64 Yba.underlying45 Yba.underlying3 hi0 hz0 ⟨g, 0, none⟩ i n (xs.take (i * 14)) (by rw [hz1, List.length_take]; omega)
      (fun j u hj => by
        rw [Addr.add_lit, Nat.zero_add]
        have hji : j < i * 14 := by have := (List.getElem?_eq_some_iff.1 hj).1; rw [List.length_take] at this; omega
        rw [List.getElem?_take_of_lt hji] at hj
        exact hcx j u hj)
      (n + 1 - i) (by omega) (by rw [hz1]; omega) (by omega) (by omega) (by rw [hz2]; omega) (by rw [hz2]; exact growslice_fits (by omega) (by omega))
  have hin : i + (n + 1 - i) = n + 1 := by omega
  have hcast : ((n + 1 - i : Nat) : Int) = (n : Int) + 1 - (i : Int) := by omega
  rw [hin, hcast] at hrun
  have hCm : grownCap w (n + 1) n 50 ≤ maxLen := grownCap_le_maxLen w (n + 1) n 50 (by unfold maxLen; omega)
  have hCg : n + 1 ≤ grownCap w (n + 1) n 50 := grownCap_ge w (n + 1) n 50
  obtain ⟨C, hC1, hC2, W1, hrun1, Z, hZ, hH1, hb1, hs1⟩ : ∃ C, n + 1 ≤ C ∧ C ≤ maxLen ∧ ∃ W1 : World, (∀ ty, (Builtin.append_ #[45, 3] ty #[.slice (some ⟨g, 0, none⟩) i n, .int .i64 ((n : Int) + 1 - (i : Int))]).run Yba.prog w = .ok (.slice (some ⟨w.heap.size, 0, none⟩) (n + 1) C) W1) ∧
      ∃ Z : List Value, Z.length = (C - i) * 14 ∧ W1.heap[w.heap.size]? = some (.cells (xs.take (i * 14) ++ Z).toArray 50 (0, 0)) ∧ Below w.heap.size w W1 ∧ W1.heap.size = w.heap.size + 1 := by
    refine ⟨_, hCg, hCm, _, hrun, (Builtin.zeroCells zv.cells (n + 1 - i)).toList ++ (Builtin.zeroCells zv.cells (grownCap w (n + 1) n 50 - (n + 1))).toList, ?_, ?_, ?_, ?_⟩
    · simp only [List.length_append, Array.length_toList, size_zeroCells, hzc]
      omega
    · refine (heap_alloc_new w.drew _).trans ?_
      congr 2
      apply Array.ext'
      simp
    · exact ((Below.refl _ w).trans ⟨rfl, rfl, rfl, Nat.le_refl _, fun _ _ => rfl⟩ : Below w.heap.size w w.drew).alloc (Nat.le_refl _) _
    · simp
  clear hrun hCm hCg
  have hgH : g ≠ w.heap.size := by omega
  have hvl : vb < w.heap.size := lt_of_block he
  have htl : (xs.take (i * 14)).length = i * 14 := by rw [List.length_take]; omega
  have hsz50 : (Yba.prog.info? 50).map (·.size) = some 14 := by rw [hi0]; simp [hz1]
  have hm1 : Nat.min 1 (n + 1 - i) = 1 := by simp only [Nat.min_def]; split <;> omega
  have hcp1 : ∀ ty dc, (Builtin.copy_ #[45, 45] ty #[.slice (some ⟨w.heap.size, i * 14, none⟩) (n + 1 - i) dc, .slice (some ⟨vb, 0, none⟩) 1 1]).run Yba.prog W1 = _ := fun ty dc =>
    run_copy_rowN W1 45 45 ty 50 w.heap.size (i * 14) (n + 1 - i) dc ⟨vb, 0, none⟩ 1 1 14 _ 50 es Yba.underlying45 hsz50 hH1 (by rw [hm1, hl])
      (fun j u hj => by rw [Addr.add_lit, cell_of_row W1 vb _ es.toArray 50 (0, 0) ((hb1.block vb hvl).trans he)]; simpa using hj)
      (by rw [hl]; simp only [List.size_toArray, List.length_append, htl, hZ]; omega) h1
  obtain ⟨W2, hcp2, hH2, hb2, hs2⟩ : ∃ W2 : World, (∀ ty dc, (Builtin.copy_ #[45, 45] ty #[.slice (some ⟨w.heap.size, i * 14, none⟩) (n + 1 - i) dc, .slice (some ⟨vb, 0, none⟩) 1 1]).run Yba.prog W1 = .ok (goInt 1) W2) ∧
      W2.heap[w.heap.size]? = some (.cells (xs.take (i * 14) ++ (es ++ Z.drop 14)).toArray 50 (0, 0)) ∧ Below w.heap.size w W2 ∧ W2.heap.size = w.heap.size + 1 := by
    refine ⟨W1.setRow w.heap.size (List.take (i * 14) (List.take (i * 14) xs ++ Z).toArray.toList ++ es ++ List.drop (i * 14 + es.length) (List.take (i * 14) xs ++ Z).toArray.toList).toArray, fun ty dc => (hcp1 ty dc).trans (by rw [hm1]; rfl), ?_, ?_, ?_⟩
    · refine (setRow_heap W1 w.heap.size _ _ 50 _ hH1).trans ?_
      congr 3
      rw [List.toList_toArray, take_app _ _ _ htl, hl, List.append_assoc, List.drop_append, htl]
      congr 2
      rw [List.drop_eq_nil_of_le (by rw [htl]; omega), List.nil_append]
      congr 1
      omega
    · exact hb1.trans ⟨rfl, rfl, rfl, by simp [World.setRow], fun k hk => setRow_other W1 _ k _ (by omega)⟩
    · simp [World.setRow, hs1]
  clear hcp1 hb1 hH1
  have hH2d : W2.drew.heap[w.heap.size]? = some (.cells (xs.take (i * 14) ++ (es ++ Z.drop 14)).toArray 50 (0, 0)) := hH2
  have hdl : (xs.drop (i * 14)).length = (n - i) * 14 := by rw [List.length_drop]; omega
  have hm2 : Nat.min (n - i) (n + 1 - (i + 1)) = n - i := by simp only [Nat.min_def]; split <;> omega
  have hcp3 : ∀ ty dc sc, (Builtin.copy_ #[45, 45] ty #[.slice (some ⟨w.heap.size, (i + 1) * 14, none⟩) (n + 1 - (i + 1)) dc, .slice (some ⟨g, i * 14, none⟩) (n - i) sc]).run Yba.prog W2.drew = _ := fun ty dc sc =>
    run_copy_rowN W2.drew 45 45 ty 50 w.heap.size ((i + 1) * 14) (n + 1 - (i + 1)) dc ⟨g, i * 14, none⟩ (n - i) sc 14 _ 50 (xs.drop (i * 14)) Yba.underlying45 hsz50 hH2d (by rw [hm2, hdl])
      (fun j u hj => by
        rw [Addr.add_lit]
        rw [List.getElem?_drop] at hj
        exact (hb2.cell (p := ⟨g, i * 14 + j, none⟩) hgl).trans (hcx _ u hj))
      (by rw [hdl]; simp only [List.size_toArray, List.length_append, List.length_drop, htl, hl, hZ]; omega) (fun u hu => h1x u (List.mem_of_mem_drop hu))
  obtain ⟨W3, hcp4, hfin⟩ : ∃ W3 : World, (∀ ty dc sc, (Builtin.copy_ #[45, 45] ty #[.slice (some ⟨w.heap.size, (i + 1) * 14, none⟩) (n + 1 - (i + 1)) dc, .slice (some ⟨g, i * 14, none⟩) (n - i) sc]).run Yba.prog W2.drew = .ok (goInt ((n - i : Nat) : Int)) W3) ∧
      Hid (ERow W3 base (.slice (some ⟨w.heap.size, 0, none⟩) (n + 1) C) (n + 1) (insC xs i es) ∧ w.grownBy W3 (some g)) := by
    refine ⟨W2.drew.setRow w.heap.size (List.take ((i + 1) * 14) (List.take (i * 14) xs ++ (es ++ List.drop 14 Z)).toArray.toList ++ List.drop (i * 14) xs ++ List.drop ((i + 1) * 14 + (List.drop (i * 14) xs).length) (List.take (i * 14) xs ++ (es ++ List.drop 14 Z)).toArray.toList).toArray, fun ty dc sc => (hcp3 ty dc sc).trans (by rw [hm2]), ⟨?_, .inr ⟨_, _, _, rfl, hb, setRow_heap W2.drew w.heap.size _ _ 50 _ hH2d, hC1, hC2, ?_, ?_⟩⟩, ?_⟩
    · unfold insC
      simp only [List.length_append, htl, hl, hdl]
      omega
    · simp only [List.size_toArray, List.length_append, List.length_take, List.length_drop, htl, hl, hZ, hdl]
      omega
    · have e1 : List.take ((i + 1) * 14) (List.take (i * 14) xs ++ (es ++ List.drop 14 Z)) = List.take (i * 14) xs ++ es := by
        rw [← List.append_assoc]
        exact take_app _ _ _ (by rw [List.length_append, htl, hl]; omega)
      rw [List.toList_toArray, List.toList_toArray, e1]
      unfold insC
      exact take_app _ _ _ (by simp only [List.length_append, htl, hl, hdl]; omega)
    · exact ⟨hb2.os, hb2.tape, hb2.output, Nat.le_trans hb2.size (by simp [World.setRow]), fun k hk _ => (setRow_other W2.drew _ k _ (by omega)).trans (hb2.block k hk)⟩
  have hni : n + 1 - (i + 1) = n - i := by omega
  simp only [hni] at hcp4
  clear hcp3 hH2d hH2 hr hni
  go_enter Yba.func22, Yba.ntmps22
  go_wp2_with (first
    | (at_builtin; refine Lib.wpList_append_run _ rfl _ _ _ _ rfl _ _ rfl rfl _ _ (hrun1 _) ?_)
    | (at_builtin; refine wpList_copyR _ rfl _ _ 45 45 rfl _ _ rfl rfl (hcp2 _ _) ?_))
  have hw1 : IntKind.i64.wrap ((i : Int) + 1) = (i : Int) + 1 := by rw [IntKind.wrap_i64]; omega
  have hb5 : (0 : Int) ≤ (i : Int) + 1 := by omega
  have hb6 : (i : Int) ≤ (n : Int) := by omega
  have hb6' : (i : Int) + 1 ≤ (n : Int) + 1 := by omega
  have hb7 : i ≤ n := by omega
  have htn : ((i : Int) + 1).toNat = i + 1 := by omega
  have hb8 : ¬ (C = i + 1) := by omega
  have hb9 : ¬ (n = i) := by omega
  go_region_law (refine step_copyR rfl _ _ 45 45 rfl _ _ (by simp [Act.eval, Act.put]) (by simp [Act.eval, Act.put]) (hcp4 _ _ _) ?_)
  all_goals
    go_wp2_with fail
    go_ret
    exact ⟨_, rfl, hfin.out⟩

end Go.Proofs.Ybulkehxo
