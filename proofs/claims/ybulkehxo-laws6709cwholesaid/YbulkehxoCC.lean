/-
  FOR LawS6709CWhole: the accounts.
-/
import Derived.Test.YbulkehxoCAcc
namespace Go.Proofs.Ybulkehxo
open Go.RowKit

theorem lnR_nonneg (D : Dat) (i : Nat) : 0 ≤ lnR D i := Int.emod_nonneg _ (by omega)
theorem lnR_le (D : Dat) (i : Nat) : lnR D i ≤ D.n := by
  have := Int.emod_lt_of_pos (D.rw i).line (show 0 < (D.n : Int) + 1 by omega)
  unfold lnR
  omega
theorem lineS_mem (D : Dat) (x : Int) (hx : x ∈ lineS D) : 0 ≤ x ∧ x ≤ D.n := by
  obtain ⟨i, _, rfl⟩ := List.mem_map.1 ((List.mem_mergeSort).1 hx)
  exact ⟨lnR_nonneg D i, lnR_le D i⟩
theorem lineS_len (D : Dat) : (lineS D).length = (dueL D D.N).length := by unfold lineS; rw [List.length_mergeSort, List.length_map]
theorem dueL_lt (D : Dat) {i m : Nat} (hi : i < m) (hd : (D.rw i).due = true) : (dueL D i).length < (dueL D m).length := by
  obtain ⟨j, rfl⟩ : ∃ j, m = (i + 1) + j := ⟨m - (i + 1), by omega⟩
  have h1 : (dueL D (i + 1)).length = (dueL D i).length + 1 := by rw [dueL_succ, hd]; simp
  have h2 : ∀ j, (dueL D (i + 1)).length ≤ (dueL D (i + 1 + j)).length := by
    intro j
    induction j with
    | zero => exact Nat.le_refl _
    | succ j ih =>
      have := congrArg List.length (dueL_succ D (i + 1 + j))
      rw [List.length_append] at this
      show _ ≤ (dueL D (i + 1 + j + 1)).length
      omega
  have := h2 j
  omega
theorem line_at {D : Dat} {w : World} {base : Nat} {vl : Value} (h : w.ownsRow base 3 1 vl (dueL D D.N).length (lineRow (lineS D))) {i : Nat} (hi : i < D.N) (hd : (D.rw i).due = true) :
    ∃ gl cap, vl = .slice (some ⟨gl, 0, none⟩) (dueL D D.N).length cap ∧ gl < w.heap.size ∧ w.cell? ⟨gl, (dueL D i).length, none⟩ = some (.int .i64 (lnN D i)) := by
  have hlt := dueL_lt D hi hd
  obtain ⟨gl, cap, rfl, _, hgl⟩ := h.form (by omega)
  refine ⟨gl, cap, rfl, hgl, ?_⟩
  have hc := h.cellAt (dueL D i).length (by omega)
  rw [hc]
  have hlen : (dueL D i).length < (lineS D).length := by rw [lineS_len]; exact hlt
  unfold lineRow lnN
  rw [hd, if_pos rfl, List.getElem?_map, List.getElem?_eq_getElem hlen]
  have := (lineS_mem D _ (List.getElem_mem hlen)).1
  simp only [List.getD, List.getElem?_eq_getElem hlen, Option.map_some, Option.getD_some]
  congr 2
  omega

set_option maxRecDepth 1000000 in
set_option maxHeartbeats 8000000 in
theorem stageC (D : Dat) (w0 : World) (hI : Inp D w0) (Q : Exit → Act → World → Prop) (ev vl : Value) (a : Act) (w3 : World) (hs : St2 D w0 ev vl a w3)
    (hK : ∀ vp vo vd bl bw bh a w, St3 D w0 ev vl vp vo vd bl bw bh a w → (cutAt 12 (lawCode Yba.f4)).wp Yba.prog Q a w) : (cutAt 8 (lawCode Yba.f4)).wp Yba.prog Q a w3 := by
  have hsz := hI.sz
  obtain ⟨i57, hi57, hz0, hz1, hz2⟩ := info_parts info57
  obtain ⟨t, rfl, ht⟩ := frame_open a hs.fr.size hs.fr.defers
  have t0 := ht 0 _ hs.fr.h0
  have t1 := ht 1 _ hs.fr.h1
  have t2 := ht 2 _ hs.fr.h2
  have t3 := ht 3 _ hs.fr.h3
  have t9 := ht 9 _ hs.h9
  have t10 := ht 10 _ hs.h10
  have t13 := ht 13 _ hs.h13
  have hE := hs.er
  have hL := hs.lr
  have hB := hs.bl
  clear ht hs
  have e : cutAt 8 (lawCode Yba.f4) = .seq (itemAt 8 (lawCode Yba.f4)) (.seq (itemAt 9 (lawCode Yba.f4)) (.seq (itemAt 10 (lawCode Yba.f4)) (.seq (itemAt 11 (lawCode Yba.f4)) (cutAt 12 (lawCode Yba.f4))))) := rfl
  rw [e]
  clear e
  generalize cutAt 12 (lawCode Yba.f4) = c12 at hK ⊢
  conv => arg 2; arg 1; whnf
  conv => arg 2; arg 2; arg 1; whnf
  conv => arg 2; arg 2; arg 2; arg 1; whnf
  conv => arg 2; arg 2; arg 2; arg 2; arg 1; whnf
  unfold frm
  rw [t0, t1, t2, t3, t9, t10, t13]
  clear t0 t1 t2 t3 t9 t10 t13
  go_wp2_with (at_make; refine wpList_make_full _ rfl _ _ 56 rfl w3.heap.size 57 i57 _ 1 Yba.underlying56 hi57 hz0 hz1 .i64 .i64 _ _ D.N rfl rfl rfl rfl (by rw [hz2]; omega) (by unfold maxLen; omega) (Nat.le_refl _) ?_; intro w4 hP4 hG4)
  generalize hvp : w3.heap.size = gp at hP4 ⊢
  go_loopw [16, 17, 18, 91] (fun vo vd kk iv wr => ∃ i : Nat, i ≤ D.N ∧ iv = .int .i64 i ∧ kk = .int .i64 (dueL D i).length ∧ ∃ bl bw bh zs, AS D w3 wr bl bw bh i (lnN D) ((List.range i).map (ptrK bl) ++ zs) ((opnL D i).map (ptrK bl)) ((dueL D i).map (ptrK bl)) (.slice (some ⟨gp, 0, none⟩) D.N D.N) vo vd) (fun _ _ _ iv _ => D.N - (intOf iv).toNat)
  case atStart =>
    have hB4 : Below w3.heap.size w3 w4 := ⟨hG4.os, hG4.tape, hG4.output, hG4.size, fun k hk => hG4.block k hk (by simp)⟩
    have hP5 : w4.ownsRow w3.heap.size 57 1 (.slice (some ⟨gp, 0, none⟩) D.N D.N) D.N (madeCells (Value.pointer none).cells (D.N * 1)).toList := by rw [hvp]; exact hP4
    exact ⟨0, Nat.zero_le _, rfl, rfl, fun _ => 0, fun _ => 0, fun _ => 0, _, hB4, hP5, ⟨rfl, .inl ⟨rfl, rfl⟩⟩, ⟨rfl, .inl ⟨rfl, rfl⟩⟩, fun _ h => (by cases h), fun _ _ h => (by cases h), fun _ _ h => (by cases h), fun k hk => absurd hk (Nat.not_lt_zero k), fun j _ hj => absurd hj (Nat.not_lt_zero j)⟩
  case round =>
    obtain ⟨i, hi, rfl, rfl, bl, bw, bh, zs, hA⟩ := hrel
    by_cases hlt : i < D.N
    · obtain ⟨b, o, ha3, hb, c0, c1, c2, c3, c4, c5, c6, c7⟩ := hI.s3 i hlt
      rw [ha3]
      have hBw := hB.trans (below_down hA.below hB.size)
      have d0 := (World.cell?_of_block (a := ⟨b, o + i * 8, none⟩) (hBw.block b hb)).trans c0
      have d1 := (World.cell?_of_block (a := ⟨b, o + i * 8 + 1, none⟩) (hBw.block b hb)).trans c1
      have d2 := (World.cell?_of_block (a := ⟨b, o + i * 8 + 2, none⟩) (hBw.block b hb)).trans c2
      have d3 := (World.cell?_of_block (a := ⟨b, o + i * 8 + 3, none⟩) (hBw.block b hb)).trans c3
      have d4 := (World.cell?_of_block (a := ⟨b, o + i * 8 + 4, none⟩) (hBw.block b hb)).trans c4
      have d5 := (World.cell?_of_block (a := ⟨b, o + i * 8 + 5, none⟩) (hBw.block b hb)).trans c5
      have d6 := (World.cell?_of_block (a := ⟨b, o + i * 8 + 6, none⟩) (hBw.block b hb)).trans c6
      have d7 := (World.cell?_of_block (a := ⟨b, o + i * 8 + 7, none⟩) (hBw.block b hb)).trans c7
      clear c0 c1 c2 c3 c4 c5 c6 c7
      go_upto_region 25 with fail
      refine (show Code.wp Yba.prog _ _ _ (newW D i wr) from ?_)
      have hN := newF D i wr
      generalize newW D i wr = W1 at hN ⊢
      obtain ⟨bl', bw', bh', hbi, hbc, hA1⟩ := hA.new' hN
      obtain ⟨cc, hcc, hcc6, hcc7⟩ := hN.copy
      have k6 : W1.cell? ⟨wr.heap.size, 6, none⟩ = some (.bool (D.rw i).due) := (cell_of_row W1 _ 6 cc 54 (0, 0) hcc).trans hcc6
      have k7 : W1.cell? ⟨wr.heap.size, 7, none⟩ = some (.bool (D.rw i).opn) := (cell_of_row W1 _ 7 cc 54 (0, 0) hcc).trans hcc7
      have k8 := hN.cb.c8
      have k8f : W1.frozen? ⟨wr.heap.size + 1 + 1 + 1, 8, none⟩ = false := by have := hN.cb; unfold CB at this; simp [World.frozen?, this]
      have hzl : i + zs.length = D.N := by
        have := hA.pr.1
        simp at this
        omega
      have hpl := hA.pr.1
      have hdl := dueL_len D i
      have hol := opnL_len D i
      have hS1 := hA1.below.size
      have hgp : ∀ W : World, ∀ pc oc dc vo vd bl bw bh j ln, AS D w3 W bl bw bh j ln pc oc dc (.slice (some ⟨gp, 0, none⟩) D.N D.N) vo vd → ∃ u, W.cell? ⟨gp, i, none⟩ = some u ∧ W.frozen? ⟨gp, i, none⟩ = false := fun W pc oc dc vo vd bl bw bh j ln h => by
        rcases h.pr.2 with ⟨h', _⟩ | ⟨g', cap', cur, h', _, hg, hnc, _, hcs, _⟩
        · cases h'
        · injection h' with h' _ h''
          injection h' with h'
          injection h' with h'
          subst h' h''
          rw [cell_of_row W gp _ cur 57 (0, 0) hg, Array.getElem?_eq_getElem (by rw [hcs]; omega)]
          exact ⟨_, rfl, by simp [World.frozen?, hg]⟩
      have hA1b : AS D w3 W1 bl' bw' bh' (i + 1) (fun k => if k = i then 0 else lnN D k) ((List.range i).map (ptrK bl) ++ zs) ((opnL D i).map (ptrK bl)) ((dueL D i).map (ptrK bl)) (.slice (some ⟨gp, 0, none⟩) D.N D.N) u16 u17 := hA1
      have hpt : ptrK bl' i = .pointer (some ⟨wr.heap.size + 1 + 1 + 1, 0, none⟩) := by unfold ptrK; rw [hbi]
      clear d0 d1 d2 d3 d4 d5 d6 d7 hA1
      cases hd : (D.rw i).due
      · rw [hd] at k6
        have hA2 : AS D w3 W1 bl' bw' bh' (i + 1) (lnN D) ((List.range i).map (ptrK bl) ++ zs) ((opnL D i).map (ptrK bl)) ((dueL D i).map (ptrK bl)) (.slice (some ⟨gp, 0, none⟩) D.N D.N) u16 u17 := hA1b.ln_congr (fun k _ => by
          by_cases hk : k = i
          · rw [if_pos hk, hk]; unfold lnN; rw [hd]; rfl
          · rw [if_neg hk])
        cases ho : (D.rw i).opn
        · rw [ho] at k7
          obtain ⟨u, y1, y2⟩ := hgp _ _ _ _ _ _ _ _ _ _ _ hA2
          go_wp2_with fail
          have hF := hA2.ptr i (.pointer (some ⟨wr.heap.size + 1 + 1 + 1, 0, none⟩))
          go_roundw
          case rel =>
            refine ⟨i + 1, hlt, by simp, by rw [dueL_succ, hd]; simp, bl', bw', bh', zs.drop 1, AS.lists hlt hbc hzl ?_⟩
            rw [hpt, hd, ho]
            simpa using hF
          case measure => simp [intOf]; omega
        · rw [ho] at k7
          have hA3c := hA2.keep (W := W1.alloc (.cells #[.pointer (some ⟨wr.heap.size + 1 + 1 + 1, 0, none⟩)] 57)) ((Below.refl _ _).alloc (Nat.le_refl _) _)
          have hS3 := hA3c.below.size
          go_wp2_with (at_builtin; first | (refine wpList_append_lies _ rfl (.tmp 131) (.tmp 133) 56 rfl w3.heap.size 57 i57 _ 1 8 Yba.underlying56 hi57 hz0 hz1 hz2 rfl (by decide) _ _ _ rfl hA3c.orow ⟨W1.heap.size, 0, none⟩ 1 1 [.pointer (some ⟨wr.heap.size + 1 + 1 + 1, 0, none⟩)] rfl rfl (cell_one_new _ _ _) (by simp [Value.oneCell']) (by decide) (by unfold maxLen; simp; omega) (by simp; omega) hS3 _ rfl ?_; intro go capo w6 ho6 hg6 hat6 hlt6; have hA4 := hA3c.opn hg6 ho6 (hat6.imp Eq.symm (fun q => by rw [q]; rfl)); obtain ⟨u, y1, y2⟩ := hgp _ _ _ _ _ _ _ _ _ _ _ hA4))
          have hF := hA4.ptr i (.pointer (some ⟨wr.heap.size + 1 + 1 + 1, 0, none⟩))
          go_roundw
          case rel =>
            refine ⟨i + 1, hlt, by simp, by rw [dueL_succ, hd]; simp, bl', bw', bh', zs.drop 1, AS.lists hlt hbc hzl ?_⟩
            rw [hpt, hd, ho]
            simpa using hF
          case measure => simp [intOf]; omega
      · rw [hd] at k6
        obtain ⟨gl, capl, rfl, hgl, hlc⟩ := line_at hL hlt hd
        have hdd := dueL_lt D hlt hd
        have hl1 : W1.cell? ⟨gl, (dueL D i).length, none⟩ = some (.int .i64 (lnN D i)) := (World.cell?_of_block (a := ⟨gl, (dueL D i).length, none⟩) (hA1b.below.block gl (by omega))).trans hlc
        have hA2 := hA1b.line (m := i) (by omega) (by rw [hbi]; have := hA.below.size; omega) (lnN D i)
        rw [hbi] at hA2
        have hA2b : AS D w3 (W1.setCell ⟨wr.heap.size + 1 + 1 + 1, 8, none⟩ (.int .i64 (lnN D i))) bl' bw' bh' (i + 1) (lnN D) ((List.range i).map (ptrK bl) ++ zs) ((opnL D i).map (ptrK bl)) ((dueL D i).map (ptrK bl)) (.slice (some ⟨gp, 0, none⟩) D.N D.N) u16 u17 := hA2.ln_congr (fun k _ => by
          by_cases hk : k = i
          · rw [if_pos hk, hk]
          · rw [if_neg hk, if_neg hk])
        have hA2c := hA2b.keep (W := (W1.setCell ⟨wr.heap.size + 1 + 1 + 1, 8, none⟩ (.int .i64 (lnN D i))).alloc (.cells #[.pointer (some ⟨wr.heap.size + 1 + 1 + 1, 0, none⟩)] 57)) ((Below.refl _ _).alloc (Nat.le_refl _) _)
        have hcc2 : ((W1.setCell ⟨wr.heap.size + 1 + 1 + 1, 8, none⟩ (.int .i64 (lnN D i))).alloc (.cells #[.pointer (some ⟨wr.heap.size + 1 + 1 + 1, 0, none⟩)] 57)).heap[wr.heap.size]? = some (.cells cc 54 (0, 0)) := by
          rw [Below.heap_alloc _ _ _ (by simpa using lt_of_block hcc), Below.heap_setCell _ _ _ _ (fun e => by have e' : wr.heap.size = wr.heap.size + 1 + 1 + 1 := e; omega), hcc]
        have hS2 := hA2c.below.size
        cases ho : (D.rw i).opn
        · rw [ho] at k7
          have hS2e : (W1.setCell ⟨wr.heap.size + 1 + 1 + 1, 8, none⟩ (.int .i64 (lnN D i))).heap.size = W1.heap.size := by simp
          go_wp2_with (at_builtin; first | (refine wpList_append_lies _ rfl (.tmp 125) (.tmp 127) 56 rfl w3.heap.size 57 i57 _ 1 8 Yba.underlying56 hi57 hz0 hz1 hz2 rfl (by decide) _ _ _ rfl hA2c.drow ⟨W1.heap.size, 0, none⟩ 1 1 [.pointer (some ⟨wr.heap.size + 1 + 1 + 1, 0, none⟩)] rfl rfl (by rw [← hS2e]; exact cell_one_new _ _ _) (by simp [Value.oneCell']) (by decide) (by unfold maxLen; simp; omega) (by simp; omega) hS2 _ rfl ?_; intro gd capd w5 ho5 hg5 hat5 hlt5; have hA3 := hA2c.due hg5 ho5 (hat5.imp Eq.symm (fun q => by rw [q]; rfl)); have hcc5 := (hg5.block _ (lt_of_block hcc2) (fun e => own_ne hA2c.drow hcc2 (by decide) e.symm)).trans hcc2; have m7 := ((cell_of_row w5 _ 7 cc 54 (0, 0) hcc5).trans hcc7).trans (by rw [ho]); obtain ⟨u, y1, y2⟩ := hgp _ _ _ _ _ _ _ _ _ _ _ hA3))
          have hF := hA3.ptr i (.pointer (some ⟨wr.heap.size + 1 + 1 + 1, 0, none⟩))
          go_roundw
          case rel =>
            refine ⟨i + 1, hlt, by simp, by rw [dueL_succ, hd]; simp, bl', bw', bh', zs.drop 1, AS.lists hlt hbc hzl ?_⟩
            rw [hpt, hd, ho]
            simpa using hF
          case measure => simp [intOf]; omega
        · rw [ho] at k7
          have hS2e : (W1.setCell ⟨wr.heap.size + 1 + 1 + 1, 8, none⟩ (.int .i64 (lnN D i))).heap.size = W1.heap.size := by simp
          go_wp2_with (at_builtin; first | (refine wpList_append_lies _ rfl (.tmp 125) (.tmp 127) 56 rfl w3.heap.size 57 i57 _ 1 8 Yba.underlying56 hi57 hz0 hz1 hz2 rfl (by decide) _ _ _ rfl hA2c.drow ⟨W1.heap.size, 0, none⟩ 1 1 [.pointer (some ⟨wr.heap.size + 1 + 1 + 1, 0, none⟩)] rfl rfl (by rw [← hS2e]; exact cell_one_new _ _ _) (by simp [Value.oneCell']) (by decide) (by unfold maxLen; simp; omega) (by simp; omega) hS2 _ rfl ?_; intro gd capd w5 ho5 hg5 hat5 hlt5; have hA3 := hA2c.due hg5 ho5 (hat5.imp Eq.symm (fun q => by rw [q]; rfl)); have hcc5 := (hg5.block _ (lt_of_block hcc2) (fun e => own_ne hA2c.drow hcc2 (by decide) e.symm)).trans hcc2; have m7 := ((cell_of_row w5 _ 7 cc 54 (0, 0) hcc5).trans hcc7).trans (by rw [ho]); have hA3c := hA3.keep (W := w5.alloc (.cells #[.pointer (some ⟨wr.heap.size + 1 + 1 + 1, 0, none⟩)] 57)) ((Below.refl _ _).alloc (Nat.le_refl _) _); have hS3 := hA3c.below.size) | (refine wpList_append_lies _ rfl (.tmp 131) (.tmp 133) 56 rfl w3.heap.size 57 i57 _ 1 8 Yba.underlying56 hi57 hz0 hz1 hz2 rfl (by decide) _ _ _ rfl hA3c.orow ⟨w5.heap.size, 0, none⟩ 1 1 [.pointer (some ⟨wr.heap.size + 1 + 1 + 1, 0, none⟩)] rfl rfl (cell_one_new _ _ _) (by simp [Value.oneCell']) (by decide) (by unfold maxLen; simp; omega) (by simp; omega) hS3 _ rfl ?_; intro go capo w6 ho6 hg6 hat6 hlt6; have hA4 := hA3c.opn hg6 ho6 (hat6.imp Eq.symm (fun q => by rw [q]; rfl)); obtain ⟨u, y1, y2⟩ := hgp _ _ _ _ _ _ _ _ _ _ _ hA4))
          have hF := hA4.ptr i (.pointer (some ⟨wr.heap.size + 1 + 1 + 1, 0, none⟩))
          go_roundw
          case rel =>
            refine ⟨i + 1, hlt, by simp, by rw [dueL_succ, hd]; simp, bl', bw', bh', zs.drop 1, AS.lists hlt hbc hzl ?_⟩
            rw [hpt, hd, ho]
            simpa using hF
          case measure => simp [intOf]; omega
    · obtain rfl : i = D.N := by omega
      have hz : zs = [] := by
        have := hA.pr.1
        simp at this
        exact this
      subst hz
      rw [List.append_nil] at hA
      go_wp2_with fail
      have hA' := hA.base hB
      have hE2 := row_keep hE (fun b hb => hA.below.block b (hE.lt b hb).2)
      have hL2 := row_keep hL (fun b hb => hA.below.block b (hL.lt b hb).2)
      refine hK (.slice (some ⟨gp, 0, none⟩) D.N D.N) u16 u17 bl bw bh _ _ ?_
      exact ⟨⟨rfl, rfl, rfl, rfl, rfl, rfl⟩, rfl, rfl, rfl, rfl, rfl, rfl, hE2, hL2, hA'.below, hA'⟩
end Go.Proofs.Ybulkehxo
