/-
  FOR LawS6709CWhole: the events that are wanted.
-/
import Derived.Test.YbulkehxoCWant
namespace Go.Proofs.Ybulkehxo
open Go.RowKit

theorem fw_heap (op : BinOp) (x y : Nat) (W : World) : (fw op x y W).heap = W.heap := by
  unfold fw
  cases floatBits op .f64 x y with
  | some r => rfl
  | none => rfl

set_option maxRecDepth 1000000 in
set_option maxHeartbeats 8000000 in
theorem stageE (D : Dat) (w0 : World) (hI : Inp D w0) (R : Ending → World → Prop) (vl vp vd ev op : Value) (bl bw bh h : Nat → Nat) (br : Nat) (a : Act) (w5 : World) (hs : St4 D vl vp vd br a) (hR : Res D w0 vl vp vd ev op bl bw bh h br w5)
    (hK : ∀ want h' a w, St5 D vl vp vd want br a → WI D w5 w want (D.n + 1) (dsD D).length h' → (cutAt 17 (lawCode Yba.f4)).wp Yba.prog (bodyPost Yba.prog Yba.f4 R) a w) : (cutAt 14 (lawCode Yba.f4)).wp Yba.prog (bodyPost Yba.prog Yba.f4 R) a w5 := by
  have hsz := hI.sz
  obtain ⟨i50, hi50, hz0', hz1, hz2⟩ := info_parts info50
  obtain ⟨zv, hz0, hzc⟩ : ∃ zv, i50.zero = some zv ∧ zv.cells.size = 14 := ⟨_, hz0', rfl⟩
  clear hz0'
  obtain ⟨t, rfl, ht⟩ := frame_open a hs.fr.size hs.fr.defers
  have t0 := ht 0 _ hs.fr.h0
  have t1 := ht 1 _ hs.fr.h1
  have t2 := ht 2 _ hs.fr.h2
  have t3 := ht 3 _ hs.fr.h3
  have t9 := ht 9 _ hs.h9
  have t13 := ht 13 _ hs.h13
  have t15 := ht 15 _ hs.h15
  have t17 := ht 17 _ hs.h17
  have t22 := ht 22 _ hs.h22
  have hdl := dueL_len D D.N
  obtain ⟨ad, cd, rfl⟩ := own_shape hR.dr
  clear ht hs
  have e : cutAt 14 (lawCode Yba.f4) = .seq (itemAt 14 (lawCode Yba.f4)) (.seq (itemAt 15 (lawCode Yba.f4)) (.seq (itemAt 16 (lawCode Yba.f4)) (cutAt 17 (lawCode Yba.f4)))) := rfl
  rw [e]
  clear e
  generalize cutAt 17 (lawCode Yba.f4) = c17 at hK ⊢
  conv => arg 2; arg 1; whnf
  conv => arg 2; arg 2; arg 1; whnf
  conv => arg 2; arg 2; arg 2; arg 1; whnf
  unfold frm
  rw [t0, t1, t2, t3, t9, t13, t15, t17, t22]
  clear t0 t1 t2 t3 t9 t13 t15 t17 t22
  go_wp2_with (at_make; refine wpList_make_own _ rfl _ _ 45 rfl w5.heap.size 50 i50 _ 14 Yba.underlying45 hi50 hz0 hz1 .i64 .i64 _ (D.n + (dueL D D.N).length) rfl rfl (by rw [Int.natCast_add]) (by rw [hz2]; omega) (by unfold maxLen; omega) (Nat.le_refl _) ?_; intro w6 hP6 hG6)
  have hB6 : Below w5.heap.size w5 w6 := ⟨hG6.os, hG6.tape, hG6.output, hG6.size, fun k hk => hG6.block k hk (by simp)⟩
  go_loopw [23, 24, 25] (fun v23 v24 v25 wr => ∃ p j h', v24 = .int .i64 (j : Nat) ∧ v25 = .int .i64 (p : Nat) ∧ WI D w5 wr v23 p j h') (fun _ _ v25 _ => D.n + 1 - (intOf v25).toNat)
  case atStart => exact ⟨0, 0, fun _ => 0, rfl, rfl, hB6, ⟨0, by show 0 = min 0 D.n + 0; omega, by simpa [insN] using hP6⟩, by omega, Nat.zero_le _, fun k hk => absurd hk (Nat.not_lt_zero k), fun _ _ _ => Nat.zero_le _, fun k hk => absurd hk (Nat.not_lt_zero k)⟩
  clear hP6 hG6 hB6
  case round =>
    obtain ⟨p, j, h', rfl, rfl, hw⟩ := hrel
    by_cases hp : p ≤ D.n
    · go_wp2_with fail
      go_loopw [23, 24] (fun v23 v24 wi => ∃ j h', v24 = .int .i64 (j : Nat) ∧ WI D w5 wi v23 p j h') (fun _ v24 _ => (dueL D D.N).length - (intOf v24).toNat)
      case atStart => exact ⟨j, h', rfl, hw⟩
      clear hw
      case round =>
        obtain ⟨j, h', rfl, hw⟩ := hrel
        by_cases hj : j < (dueL D D.N).length
        · obtain ⟨d, x, hd, hgd, hdN, hdue, hdj, hx, hxj, hx0, hx1⟩ := lnj_eq D hj
          obtain ⟨gl, capl, rfl, hgl, hlc⟩ := line_at hR.lr hdN hdue
          rw [hdj] at hlc
          have hln : lnN D d = lnj D j := by unfold lnj; rw [hgd]
          rw [hln] at hlc
          have hlw : wr.cell? ⟨gl, j, none⟩ = some (.int .i64 (lnj D j)) := (World.cell?_of_block (a := ⟨gl, j, none⟩) (hw.below.block gl hgl)).trans hlc
          by_cases he : lnj D j = p
          · have hpe : ((lnj D j : Nat) : Int) = (p : Int) := by omega
            rw [hpe] at hlw
            obtain ⟨gd, capd, hgdv, _, hgdl⟩ := hR.dr.form (by omega)
            have hdc0 : w5.cell? ⟨gd, j, none⟩ = some (.pointer (some ⟨bl d, 0, none⟩)) := by
              have hdr := hR.dr
              rw [hgdv] at hdr
              rw [hdr.cellAt j (by omega), List.getElem?_map, hd]
              rfl
            have hdc : wr.cell? ⟨gd, j, none⟩ = some (.pointer (some ⟨bl d, 0, none⟩)) := (World.cell?_of_block (a := ⟨gd, j, none⟩) (hw.below.block gd hgdl)).trans hdc0
            have hac := acc_keep (hR.acc d hdN) (fun b ca t hq _ => hw.below.block b (lt_of_block hq))
            have c1 := hac.cb.c1
            have c2 := hac.cb.c2
            have c4 := hac.cb.c4
            have c5 := hac.cb.c5
            have c6 := hac.cb.c6
            have n1 := hac.tw.c0
            have n2 := hac.th.c0
            injection hgdv with hga _ hgc
            subst hga hgc
            have hq := run_quo48
            have hm := run_mul48
            have fc := fw_cell
            go_upto_region 42 with fail
            go_cut [27] from 175 to 187 (fun c wx => ∃ W' n, c = .float .f64 (fres .quo (floatOfInt .f64 (IntKind.i64.wrap ((cfD D d).last - (cfD D d).at_))) (floatOfInt .f64 D.hop) W') ∧ wx = wr.drewN n)
            case first =>
              go_region_held_law (fun w' => w'.cell? ⟨bl d, 4, none⟩ = some (.int .i64 (cfD D d).at_) ∧ w'.cell? ⟨bl d, 6, none⟩ = some (.int .i64 (cfD D d).last)) (go_keep) (fail)
              go_wp2_with fail
              go_meet
              case rel =>
                obtain ⟨n, en⟩ := fw_drewN .quo (floatOfInt .f64 (IntKind.i64.wrap ((cfD D d).last - (cfD D d).at_))) (floatOfInt .f64 D.hop) wr.drew
                refine ⟨_, 1 + n, rfl, en.trans ?_⟩
                show ({ wr with drawn := wr.drawn + 1 + n } : World) = { wr with drawn := wr.drawn + (1 + n) }
                rw [Nat.add_assoc]
            case rest =>
              obtain ⟨W', n, rfl, hwc⟩ := hcut
              have hqf := fres_fits .quo (floatOfInt .f64 (IntKind.i64.wrap ((cfD D d).last - (cfD D d).at_))) (floatOfInt .f64 D.hop) W'
              generalize fres .quo (floatOfInt .f64 (IntKind.i64.wrap ((cfD D d).last - (cfD D d).at_))) (floatOfInt .f64 D.hop) W' = qv at hqf ⊢
              have hwh : wc.heap = wr.heap := by rw [hwc]; rfl
              obtain ⟨c, hcH, hrow⟩ := hw.row
              have hcb : c ≤ D.n + D.N := by have := hcH.out; have hjm : j ≤ (dueL D D.N).length := hw.jm; omega
              have hs1 := hw.below.size
              have hBc : Below w5.heap.size w5 wc := by rw [hwc]; exact ⟨hw.below.os, hw.below.tape, hw.below.output, hw.below.size, hw.below.block⟩
              have hrowc : ERow wc w5.heap.size u23 c (insN (lnj D) (fun k => evD D.now (cfD D ((dsD D).getD k 0)) (h' k)) ((ev0 D).take p) j).flatten := by rw [hwc]; exact hrow
              have hacc := acc_keep (hR.acc d hdN) (fun b ca t hq _ => hBc.block b (lt_of_block hq))
              have hlt5 : ∀ b, (∃ ca t, w5.heap[b]? = some (.cells ca t (0, 0))) → b < w5.heap.size := fun b ⟨_, _, q⟩ => lt_of_block q
              obtain ⟨tc, htc, _⟩ := (hR.acc d hdN).tw
              obtain ⟨uc, huc, _⟩ := (hR.acc d hdN).th
              have b1 := lt_of_block htc
              have b2 := lt_of_block huc
              have b3 := (hR.acc d hdN).cb.lt
              have hrowA : ∀ X : World, X.heap = wc.heap → ∀ o, (X.alloc o).ownsRow w5.heap.size 50 14 u23 c (insN (lnj D) (fun k => evD D.now (cfD D ((dsD D).getD k 0)) (h' k)) ((ev0 D).take p) j).flatten := fun X hX o => World.ownsRow.alloc (row_keep hrowc (fun b _ => by rw [hX])) o
              have hnewsA : ∀ X : World, X.heap = wc.heap → ∀ cs : Array Value, ∀ j u, cs.toList[j]? = some u → (X.alloc (.cells cs 50)).cell? ((⟨wc.heap.size, 0, none⟩ : Addr).add j) = some u := fun X hX cs => World.news_of_block (by rw [← hX]; exact heap_alloc_new X _)
              have hbaseA : ∀ X : World, X.heap = wc.heap → ∀ o, w5.heap.size ≤ (X.alloc o).heap.size := fun X hX o => by
                have : (X.alloc o).heap.size = X.heap.size + 1 := by simp
                rw [this, hX, hwh]
                omega
              have hB7 : ∀ (X W : World) (o : Obj), X.heap = wc.heap → X.os = wc.os → X.tape = wc.tape → X.output = wc.output → (X.alloc o).grownBy W u23.ownBlock → Below w5.heap.size w5 W := fun X W o hX h1 h2 h3 hg => by
                have hX1 : Below w5.heap.size w5 X := ⟨h1.trans hBc.os, h2.trans hBc.tape, h3.trans hBc.output, by rw [hX]; exact hBc.size, fun k hk => by rw [hX]; exact hBc.block k hk⟩
                exact (hX1.alloc hX1.size o).trans (below_grown (hrowA X hX o) hg (hbaseA X hX o))
              have hS7 : ∀ W : World, Below w5.heap.size w5 W → W.cell? ⟨bl d, 1, none⟩ = some (.pointer (some ⟨bw d, 0, none⟩)) ∧ W.cell? ⟨bl d, 2, none⟩ = some (.pointer (some ⟨bh d, 0, none⟩)) ∧ W.cell? ⟨bl d, 5, none⟩ = some (.int .i64 (cfD D d).msgs) ∧ W.cell? ⟨bw d, 0, none⟩ = some (.string (cfD D d).waiter) ∧ W.cell? ⟨bh d, 0, none⟩ = some (.string (cfD D d).holder) := fun W hW => by
                have q := acc_keep (hR.acc d hdN) (fun b ca t hq _ => hW.block b (lt_of_block hq))
                exact ⟨q.cb.c1, q.cb.c2, q.cb.c5, q.tw.c0, q.th.c0⟩
              have k1 := hacc.cb.c1
              have k2 := hacc.cb.c2
              have k5 := hacc.cb.c5
              have m1 := hacc.tw.c0
              have m2 := hacc.th.c0
              have fh := fw_heap
              have fos : ∀ op x y W, (fw op x y W).os = W.os ∧ (fw op x y W).tape = W.tape ∧ (fw op x y W).output = W.output := fun op x y W => by
                unfold fw
                cases floatBits op .f64 x y with
                | some r => exact ⟨rfl, rfl, rfl⟩
                | none => exact ⟨rfl, rfl, rfl⟩
              have HR : Hid _ := hrowA
              have HN : Hid _ := hnewsA
              have HBa : Hid _ := hbaseA
              have HB7 : Hid _ := hB7
              have HS7 : Hid _ := hS7
              have Hfos : Hid _ := fos
              obtain ⟨au, cu, rfl⟩ := own_shape hrowc
              clear hwc hwh hrow hrowA hnewsA hbaseA hB7 hS7 fos hlt5 htc huc c1 c2 c4 c5 c6 n1 n2 hac
              go_upto_region 43 with fail
              go_region_held_law (fun w' => w'.cell? ⟨bl d, 1, none⟩ = some (.pointer (some ⟨bw d, 0, none⟩)) ∧ w'.cell? ⟨bl d, 2, none⟩ = some (.pointer (some ⟨bh d, 0, none⟩)) ∧ w'.cell? ⟨bl d, 5, none⟩ = some (.int .i64 (cfD D d).msgs) ∧ w'.cell? ⟨bw d, 0, none⟩ = some (.string (cfD D d).waiter) ∧ w'.cell? ⟨bh d, 0, none⟩ = some (.string (cfD D d).holder)) (first | go_keep | exact HS7.out _ hB8)
                (first
                  | (go_at_call 13; refine (round_any _ _ (fits_lt (fres_fits _ _ _ _))).mono ?_; rintro e w' ⟨rfl, rfl⟩)
                  | (refine step_append_lies _ rfl _ _ 45 rfl w5.heap.size 50 i50 _ 14 176 Yba.underlying45 hi50 hz0 hz1 hz2 hzc (by decide) _ _ _ rfl (HR.out _ (by rw [fw_heap, fw_heap]; rfl) _) ⟨wc.heap.size, 0, none⟩ 1 1 _ rfl rfl (HN.out _ (by rw [fw_heap, fw_heap]; rfl) _) (evC_ok _ _ _ _ _ _).2 (by decide) (by unfold maxLen; omega) (by omega) (HBa.out _ (by rw [fw_heap, fw_heap]; rfl) _) _ rfl ?_; intro g7 cap7 w7 ho7 hg7 hat7 hlt7; have hB8 := HB7.out _ _ _ (by rw [fw_heap, fw_heap]; rfl) (by rw [(Hfos.out _ _ _ _).1, (Hfos.out _ _ _ _).1]; rfl) (by rw [(Hfos.out _ _ _ _).2.1, (Hfos.out _ _ _ _).2.1]; rfl) (by rw [(Hfos.out _ _ _ _).2.2, (Hfos.out _ _ _ _).2.2]; rfl) hg7))
              go_wp2_with fail
              go_roundw
              case rel => exact ⟨j + 1, _, by simp, hw.ins hj hp he hgd hB8 ho7 (by have := hcH.out; omega) (hop_fits hqf (fres_fits _ _ _ _) (fres_fits _ _ _ _))⟩
              case measure => simp [intOf]; omega
          · have hne : ((lnj D j : Nat) : Int) ≠ (p : Int) := by omega
            have hne2 : j < (dsD D).length → lnj D j ≠ p := fun _ => he
            have hs1 := hw.below.size
            obtain ⟨c, hcH, hrow⟩ := hw.row
            have hcb : c ≤ D.n + D.N := by have := hcH.out; have hjm : j ≤ (dueL D D.N).length := hw.jm; omega
            have hs5 := hR.below.size
            have hjm : j ≤ (dueL D D.N).length := hw.jm
            by_cases hpn : p < D.n
            · obtain ⟨b, o, ha2, hb, hc⟩ := hI.s2 p hpn
              have hc2 := (World.cell?_of_block (a := ⟨b, o + p, none⟩) ((hw.below.block b (by omega)).trans (hR.below.block b hb))).trans hc
              rw [ha2]
              go_wp2_with (at_builtin; refine wpList_append_lies _ rfl _ _ 45 rfl w5.heap.size 50 i50 _ 14 176 Yba.underlying45 hi50 hz0 hz1 hz2 hzc (by decide) _ _ _ rfl (World.ownsRow.alloc hrow _) ⟨wr.heap.size, 0, none⟩ 1 1 (evBg D p) rfl rfl (World.news_of_block (heap_alloc_new wr _)) (evC_ok _ _ _ _ _ _).2 (by decide) (by unfold maxLen; omega) (by omega) (by simp; omega) _ rfl ?_; intro g7 cap7 w7 ho7 hg7 hat7 hlt7)
              have hrow7 := World.ownsRow.alloc hrow (.cells (evBg D p).toArray 50)
              have hB7 : Below w5.heap.size w5 w7 := (hw.below.alloc (by omega) _).trans (below_grown hrow7 hg7 (by simp; omega))
              rw [← ha2]
              go_roundw
              case rel => exact ⟨p + 1, j, h', rfl, by simp, hw.beg hpn hne2 hB7 ho7 (by rw [hcH.out])⟩
              case measure => simp [intOf]; omega
            · obtain rfl : p = D.n := by omega
              go_wp2_with fail
              go_roundw
              case rel => exact ⟨D.n + 1, j, h', rfl, by simp, hw.last hne2⟩
              case measure => simp [intOf]
        · have hne2 : j < (dsD D).length → lnj D j ≠ p := fun q => absurd q hj
          have hs1 := hw.below.size
          obtain ⟨c, hcH, hrow⟩ := hw.row
          have hcb : c ≤ D.n + D.N := by have := hcH.out; have hjm : j ≤ (dueL D D.N).length := hw.jm; omega
          have hs5 := hR.below.size
          have hjm : j ≤ (dueL D D.N).length := hw.jm
          by_cases hpn : p < D.n
          · obtain ⟨b, o, ha2, hb, hc⟩ := hI.s2 p hpn
            have hc2 := (World.cell?_of_block (a := ⟨b, o + p, none⟩) ((hw.below.block b (by omega)).trans (hR.below.block b hb))).trans hc
            rw [ha2]
            go_wp2_with (at_builtin; refine wpList_append_lies _ rfl _ _ 45 rfl w5.heap.size 50 i50 _ 14 176 Yba.underlying45 hi50 hz0 hz1 hz2 hzc (by decide) _ _ _ rfl (World.ownsRow.alloc hrow _) ⟨wr.heap.size, 0, none⟩ 1 1 (evBg D p) rfl rfl (World.news_of_block (heap_alloc_new wr _)) (evC_ok _ _ _ _ _ _).2 (by decide) (by unfold maxLen; omega) (by omega) (by simp; omega) _ rfl ?_; intro g7 cap7 w7 ho7 hg7 hat7 hlt7)
            have hrow7 := World.ownsRow.alloc hrow (.cells (evBg D p).toArray 50)
            have hB7 : Below w5.heap.size w5 w7 := (hw.below.alloc (by omega) _).trans (below_grown hrow7 hg7 (by simp; omega))
            rw [← ha2]
            go_roundw
            case rel => exact ⟨p + 1, j, h', rfl, by simp, hw.beg hpn hne2 hB7 ho7 (by rw [hcH.out])⟩
            case measure => simp [intOf]; omega
          · obtain rfl : p = D.n := by omega
            go_wp2_with fail
            go_roundw
            case rel => exact ⟨D.n + 1, j, h', rfl, by simp, hw.last hne2⟩
            case measure => simp [intOf]
    · have hp1 : p = D.n + 1 := by have := hw.pj; omega
      subst hp1
      obtain rfl := hw.all
      go_wp2_with fail
      refine hK u23 h' _ _ ?_ hw
      exact ⟨⟨⟨rfl, rfl, rfl, rfl, rfl, rfl⟩, rfl, rfl, rfl, rfl, rfl⟩, rfl⟩
end Go.Proofs.Ybulkehxo
