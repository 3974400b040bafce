import Derived.Test.YbulkehxoCState
namespace Go.Proofs.Ybulkehxo
open Go.RowKit

set_option maxRecDepth 1000000 in
set_option maxHeartbeats 4000000 in
theorem item4 (D : Dat) (w0 : World) (hI : Inp D w0) (Q : Exit → Act → World → Prop) (g : Nat) (zs : List Value) (a : Act) (w : World) (hf : Fr D a) (h9 : a.tmps[9]? = some (.int .i64 D.n)) (h10 : a.tmps[10]? = some (.slice (some ⟨g, 0, none⟩) D.n D.n))
    (hr : ERow w w0.heap.size (.slice (some ⟨g, 0, none⟩) D.n D.n) D.n zs) (hB : Below w0.heap.size w0 w)
    (hK : ∀ a w, St1 D w0 (.slice (some ⟨g, 0, none⟩) D.n D.n) a w → Q .normal a w) : (itemAt 4 (lawCode Yba.f4)).wp Yba.prog Q a w := by
  have hsz := hI.sz
  obtain ⟨t, rfl, ht⟩ := frame_open a hf.size hf.defers
  have t0 := ht 0 _ hf.h0
  have t1 := ht 1 _ hf.h1
  have t2 := ht 2 _ hf.h2
  have t3 := ht 3 _ hf.h3
  have t9 := ht 9 _ h9
  have t10 := ht 10 _ h10
  clear ht h9 h10 hf
  conv => arg 2; whnf
  unfold frm
  rw [t0, t1, t2, t3, t9, t10]
  clear t0 t1 t2 t3 t9 t10
  go_wp2_with fail
  go_loopw [48] (fun i wr => ∃ t : Nat, t ≤ D.n ∧ i = .int .i64 t ∧ ∃ zs, ERow wr w0.heap.size (.slice (some ⟨g, 0, none⟩) D.n D.n) D.n (((List.range t).map (evBg D)).flatten ++ zs) ∧ Below w0.heap.size w0 wr) (fun i _ => D.n - (intOf i).toNat)
  case atStart => exact ⟨0, Nat.zero_le _, rfl, zs, by simpa using hr, hB⟩
  case round =>
    obtain ⟨i, hi, rfl, zs', hrr, hBr⟩ := hrel
    by_cases hlt : i < D.n
    · obtain ⟨b, o, ha2, hb, hc⟩ := hI.s2 i hlt
      rw [ha2]
      have hc' := (World.cell?_of_block (a := ⟨b, o + i, none⟩) (hBr.block b hb)).trans hc
      have hth := erow_there hrr i hlt
      go_upto_region 8 with fail
      refine wp_region_lit ?_
      refine wpList_plain rfl fun K hK => ?_
      go_simp
      refine hK _ _ ?_
      clear hK K
      refine wpList_plain rfl fun K hK => ?_
      go_simp
      refine hK _ _ ?_
      clear hK K
      refine wpList_plain rfl fun K hK => ?_
      go_simp
      refine hK _ _ ?_
      clear hK K
      refine wpList_plain rfl fun K hK => ?_
      go_simp
      refine hK _ _ ?_
      clear hK K
      refine wpList_plain rfl fun K hK => ?_
      go_simp
      refine hK _ _ ?_
      clear hK K
      refine wpList_plain rfl fun K hK => ?_
      go_simp
      refine hK _ _ ?_
      clear hK K
      refine wpList_store_mid rfl 50 (.tmp 58) (.tmp 57) rfl g (i * 14) (evBg D i).toArray rfl rfl hth size50 (all_oneCell_toArray (evC_ok _ _ _ _ _ _).2) ?_
      refine wpList_nil ?_
      go_wp2_with fail
      go_roundw
      case rel =>
        have hev : (evBg D i).length = 14 := rfl
        have hA : ((List.range i).map (evBg D)).flatten.length = i * 14 := by
          have h1 : AllEv ((List.range i).map (evBg D)) := fun e he => by
            obtain ⟨j, _, rfl⟩ := List.mem_map.1 he
            exact evC_ok _ _ _ _ _ _
          rw [h1.flat_length, List.length_map, List.length_range]
        have hl := hrr.1
        rw [List.length_append, hA] at hl
        obtain ⟨h1, h2⟩ := ownsRow_setCells (evBg D i) (i * 14) wr _ hrr
        refine ⟨i + 1, hlt, by simp, zs'.drop 14, ?_, hBr.trans ⟨h2.os, h2.tape, h2.output, h2.size, fun k hk => h2.block k (by have := hBr.size; omega) (fun e => ?_)⟩⟩
        · rw [lset_eq _ _ _ (by rw [List.length_append, hA, hev]; omega), hev, take_app _ _ _ hA, ← List.drop_drop, drop_app _ _ _ hA] at h1
          rw [List.range_succ, List.map_append, List.flatten_append]
          simpa using h1
        · have := (hrr.lt k (by rw [e]; rfl)).1
          omega
      case measure => simp [intOf]; omega
    · obtain rfl : i = D.n := by omega
      go_wp2_with fail
      have hA : ((List.range D.n).map (evBg D)).flatten.length = D.n * 14 := by
        have h1 := (ev0_all D).flat_length
        rw [ev0_length] at h1
        exact h1
      have hl := hrr.1
      rw [List.length_append, hA] at hl
      have hz : zs' = [] := List.eq_nil_of_length_eq_zero (by omega)
      subst hz
      rw [List.append_nil] at hrr
      exact ⟨⟨rfl, rfl, rfl, rfl, rfl, rfl⟩, rfl, rfl, hrr, hBr⟩
end Go.Proofs.Ybulkehxo
