/-
  FOR LawS6709CWhole: what is open, compared.
-/
import Derived.Test.YbulkehxoCD
namespace Go.Proofs.Ybulkehxo
open Go.RowKit

def woL (D : Dat) (m : Nat) : List Nat := (List.range m).filter fun i => (D.rw i).opn && !(D.rw i).due
theorem woL_succ (D : Dat) (i : Nat) : woL D (i + 1) = woL D i ++ if ((D.rw i).opn && !(D.rw i).due) = true then [i] else [] := by
  unfold woL
  rw [List.range_succ, List.filter_append]
  congr 1
  cases h : ((D.rw i).opn && !(D.rw i).due) <;> simp [h]
theorem woL_len (D : Dat) (i : Nat) : (woL D i).length ≤ i := by
  have := List.length_filter_le (fun i => (D.rw i).opn && !(D.rw i).due) (List.range i)
  rwa [List.length_range] at this
theorem fold_filter (bl : Nat → Nat) : ∀ (ds ks : List Nat), ds.foldl (fun ks d => ks.filter fun k => !(bl k == bl d)) ks = ks.filter fun k => ds.all fun d => !(bl k == bl d)
  | [], ks => (List.filter_eq_self.2 (fun _ _ => rfl)).symm
  | d :: ds, ks => by
    rw [List.foldl_cons, fold_filter bl ds, List.filter_filter]
    congr 1
    funext k
    rw [List.all_cons, Bool.and_comm]
theorem open_wo {D : Dat} {bl : Nat → Nat} (hinj : ∀ j k, j < D.N → k < D.N → bl j = bl k → j = k) : openF bl (opnL D D.N) (dueL D D.N) (dueL D D.N).length = woL D D.N := by
  unfold openF
  rw [List.take_length, fold_filter]
  unfold opnL woL
  rw [List.filter_filter]
  refine List.filter_congr (fun k hk => ?_)
  have hk' := List.mem_range.1 hk
  have e : ((dueL D D.N).all fun d => !(bl k == bl d)) = !(D.rw k).due := by
    cases hd : (D.rw k).due with
    | true =>
      have hm : k ∈ dueL D D.N := List.mem_filter.2 ⟨hk, hd⟩
      apply Bool.eq_false_iff.2
      intro h
      have := (List.all_eq_true.1 h) k hm
      simp at this
    | false =>
      refine List.all_eq_true.2 (fun d hdm => ?_)
      obtain ⟨h1, h2⟩ := List.mem_filter.1 hdm
      have hne : bl k ≠ bl d := fun q => by
        have := hinj k d hk' (List.mem_range.1 h1) q
        subst this
        rw [hd] at h2
        cases h2
      simpa using hne
  rw [e, Bool.and_comm]

theorem neq57 (a : Addr) (w : World) : (binOp .neq 57 (.pointer (some a)) (.pointer (some a))).run Yba.prog w = .ok (.bool false) w := by
  obtain ⟨j, hj, _⟩ := info71
  have key : (Op.equal 57 (.pointer (some a)) (.pointer (some a))).run Yba.prog w = .ok true w := eqIn_ptr_same w 9999 _ Yba.underlying57 hj
  simp only [binOp]
  simp [key]

theorem ptr_at {w : World} {base N i : Nat} {v : Value} {bl : Nat → Nat} (h : w.ownsRow base 57 1 v N ((List.range N).map (ptrK bl))) (hi : i < N) :
    ∃ g cap, v = .slice (some ⟨g, 0, none⟩) N cap ∧ g < w.heap.size ∧ w.cell? ⟨g, i, none⟩ = some (.pointer (some ⟨bl i, 0, none⟩)) := by
  obtain ⟨g, cap, rfl, _, hg⟩ := h.form (by omega)
  refine ⟨g, cap, rfl, hg, ?_⟩
  rw [h.cellAt i (by omega), List.getElem?_map, List.getElem?_range hi]
  rfl

set_option maxRecDepth 1000000 in
set_option maxHeartbeats 8000000 in
theorem stageG (D : Dat) (w0 : World) (hI : Inp D w0) (R : Ending → World → Prop) (vl vp vd ev op : Value) (bl bw bh h : Nat → Nat) (br : Nat) (a : Act) (w5 w7 : World) (hs : St4 D vl vp vd br a) (hR : Res D w0 vl vp vd ev op bl bw bh h br w5) (hB7 : Below w5.heap.size w5 w7)
    (hK : ∀ a w, St4 D vl vp vd br a → Below w5.heap.size w5 w → (cutAt 23 (lawCode Yba.f4)).wp Yba.prog (bodyPost Yba.prog Yba.f4 R) a w) : (cutAt 19 (lawCode Yba.f4)).wp Yba.prog (bodyPost Yba.prog Yba.f4 R) a w7 := by
  have hsz := hI.sz
  obtain ⟨i57, hi57, hz0, hz1, hz2⟩ := info_parts info57
  obtain ⟨t, rfl, ht⟩ := frame_open a hs.fr.size hs.fr.defers
  have t0 := ht 0 _ hs.fr.h0
  have t1 := ht 1 _ hs.fr.h1
  have t2 := ht 2 _ hs.fr.h2
  have t3 := ht 3 _ hs.fr.h3
  have t9 := ht 9 _ hs.h9
  have t13 := ht 13 _ hs.h13
  have t15 := ht 15 _ hs.h15
  have t17 := ht 17 _ hs.h17
  have t22 := ht 22 _ hs.h22
  clear ht hs
  have hor := hR.orow
  rw [open_wo hR.inj] at hor
  have hwl := woL_len D D.N
  obtain ⟨av, cv, hrb⟩ := hR.rb
  have hbl := hrb.lt
  have hs7 := hB7.size
  have hs5 := hR.below.size
  have e : cutAt 19 (lawCode Yba.f4) = .seq (itemAt 19 (lawCode Yba.f4)) (.seq (itemAt 20 (lawCode Yba.f4)) (.seq (itemAt 21 (lawCode Yba.f4)) (.seq (itemAt 22 (lawCode Yba.f4)) (cutAt 23 (lawCode Yba.f4))))) := rfl
  rw [e]
  clear e
  generalize cutAt 23 (lawCode Yba.f4) = c23 at hK ⊢
  conv => arg 2; arg 1; whnf
  conv => arg 2; arg 2; arg 1; whnf
  conv => arg 2; arg 2; arg 2; arg 1; whnf
  conv => arg 2; arg 2; arg 2; arg 2; arg 1; whnf
  unfold frm
  rw [t0, t1, t2, t3, t9, t13, t15, t17, t22]
  clear t0 t1 t2 t3 t9 t13 t15 t17 t22
  go_wp2_with fail
  go_loopw [29, 258] (fun v iv wr => ∃ i : Nat, i ≤ D.N ∧ iv = .int .i64 i ∧ wr.ownsRow w7.heap.size 57 1 v (woL D i).length ((woL D i).map (ptrK bl)) ∧ Below w7.heap.size w7 wr) (fun _ iv _ => D.N - (intOf iv).toNat)
  case atStart => exact ⟨0, Nat.zero_le _, rfl, ⟨rfl, .inl ⟨rfl, rfl⟩⟩, Below.refl _ _⟩
  case round =>
    obtain ⟨i, hi, rfl, hrow, hBr⟩ := hrel
    by_cases hlt : i < D.N
    · obtain ⟨b, o, ha3, hb, c0, c1, c2, c3, c4, c5, c6, c7⟩ := hI.s3 i hlt
      have hBw := (hR.below.trans (below_down hB7 hs5)).trans (below_down hBr (by omega))
      have d0 := (World.cell?_of_block (a := ⟨b, o + i * 8, none⟩) (hBw.block b hb)).trans c0
      have d1 := (World.cell?_of_block (a := ⟨b, o + i * 8 + 1, none⟩) (hBw.block b hb)).trans c1
      have d2 := (World.cell?_of_block (a := ⟨b, o + i * 8 + 2, none⟩) (hBw.block b hb)).trans c2
      have d3 := (World.cell?_of_block (a := ⟨b, o + i * 8 + 3, none⟩) (hBw.block b hb)).trans c3
      have d4 := (World.cell?_of_block (a := ⟨b, o + i * 8 + 4, none⟩) (hBw.block b hb)).trans c4
      have d5 := (World.cell?_of_block (a := ⟨b, o + i * 8 + 5, none⟩) (hBw.block b hb)).trans c5
      have d6 := (World.cell?_of_block (a := ⟨b, o + i * 8 + 6, none⟩) (hBw.block b hb)).trans c6
      have d7 := (World.cell?_of_block (a := ⟨b, o + i * 8 + 7, none⟩) (hBw.block b hb)).trans c7
      clear c0 c1 c2 c3 c4 c5 c6 c7
      have hsr := hBr.size
      have hil := woL_len D i
      have hal : Below w7.heap.size w7 (wr.alloc (.cells #[.string (D.rw i).waiter, .string (D.rw i).holder, .int .i64 (D.rw i).at_, .int .i64 (D.rw i).last, .int .i64 (D.rw i).msgs, .int .u64 (D.rw i).line, .bool (D.rw i).due, .bool (D.rw i).opn] 54)) := hBr.alloc (by omega) _
      rw [ha3]
      cases ho : (D.rw i).opn
      · rw [ho] at d7
        go_wp2_with fail
        go_roundw
        case rel => exact ⟨i + 1, hlt, by simp, by rw [woL_succ, ho]; simpa using hrow.alloc _, by rw [ho] at hal; exact hal⟩
        case measure => simp [intOf]; omega
      · rw [ho] at d7
        cases hd : (D.rw i).due
        · rw [hd] at d6
          obtain ⟨gp, cp, rfl, hgp, hpc⟩ := ptr_at hR.pr hlt
          have hp2 : wr.cell? ⟨gp, i, none⟩ = some (.pointer (some ⟨bl i, 0, none⟩)) := (World.cell?_of_block (a := ⟨gp, i, none⟩) ((hBr.block gp (by omega)).trans (hB7.block gp hgp))).trans hpc
          have hgr : gp < wr.heap.size := by omega
          go_wp2_with (at_builtin; refine wpList_append_lies _ rfl _ _ 56 rfl w7.heap.size 57 i57 _ 1 8 Yba.underlying56 hi57 hz0 hz1 hz2 rfl (by decide) _ _ _ rfl ((hrow.alloc _).alloc _) ⟨wr.heap.size + 1, 0, none⟩ 1 1 [.pointer (some ⟨bl i, 0, none⟩)] rfl rfl (by have := cell_one_new (wr.alloc (.cells #[.string (D.rw i).waiter, .string (D.rw i).holder, .int .i64 (D.rw i).at_, .int .i64 (D.rw i).last, .int .i64 (D.rw i).msgs, .int .u64 (D.rw i).line, .bool false, .bool true] 54)) (.pointer (some ⟨bl i, 0, none⟩)) 57; simpa using this) (by simp [Value.oneCell']) (by decide) (by unfold maxLen; omega) (by omega) (by simp; omega) _ rfl ?_; intro g8 cap8 w8 ho8 hg8 hat8 hlt8)
          rw [ho, hd] at hal
          have hB8 : Below w7.heap.size w7 w8 := (hal.alloc (by simp; omega) _).trans (below_grown ((hrow.alloc _).alloc _) hg8 (by simp; omega))
          go_roundw
          case rel => exact ⟨i + 1, hlt, by simp, by rw [woL_succ, ho, hd]; simpa [ptrK] using ho8, hB8⟩
          case measure => simp [intOf]; omega
        · rw [hd] at d6
          go_wp2_with fail
          go_roundw
          case rel => exact ⟨i + 1, hlt, by simp, by rw [woL_succ, ho, hd]; simpa using hrow.alloc _, by rw [ho, hd] at hal; exact hal⟩
          case measure => simp [intOf]; omega
    · obtain rfl : i = D.N := by omega
      obtain ⟨ao, co, rfl⟩ := own_shape hor
      obtain ⟨aw, cw, rfl⟩ := own_shape hrow
      have hB8 : Below w5.heap.size w5 wr := hB7.trans (below_down hBr hs7)
      have c15 := (hrb.kept (hB8.block br hbl)).c15
      go_wp2_with fail
      have hwc : ∀ k x, (woL D D.N)[k]? = some x → ∃ g1 k1 g2 k2, (Value.slice ao (woL D D.N).length co) = .slice (some ⟨g1, 0, none⟩) (woL D D.N).length k1 ∧ (Value.slice aw (woL D D.N).length cw) = .slice (some ⟨g2, 0, none⟩) (woL D D.N).length k2 ∧
          (∀ W, Below wr.heap.size wr W → W.cell? ⟨g1, k, none⟩ = some (.pointer (some ⟨bl x, 0, none⟩)) ∧ W.cell? ⟨g2, k, none⟩ = some (.pointer (some ⟨bl x, 0, none⟩)) ∧ W.cell? ⟨br, 15, none⟩ = some (.slice ao (woL D D.N).length co)) := fun k x hx => by
        have hk := (List.getElem?_eq_some_iff.1 hx).1
        obtain ⟨g1, k1, e1, _, hg1⟩ := hor.form (by omega)
        obtain ⟨g2, k2, e2, _, hg2⟩ := hrow.form (by omega)
        refine ⟨g1, k1, g2, k2, e1, e2, fun W hW => ⟨?_, ?_, ?_⟩⟩
        · have q := hor
          rw [e1] at q
          refine (World.cell?_of_block (a := ⟨g1, k, none⟩) ((hW.block g1 (by have := hB8.size; omega)).trans (hB8.block g1 hg1))).trans ?_
          rw [q.cellAt k (by omega), List.getElem?_map, hx]
          rfl
        · have q := hrow
          rw [e2] at q
          refine (World.cell?_of_block (a := ⟨g2, k, none⟩) (hW.block g2 hg2)).trans ?_
          rw [q.cellAt k (by omega), List.getElem?_map, hx]
          rfl
        · exact (World.cell?_of_block (a := ⟨br, 15, none⟩) (hW.block br (by have := hB8.size; omega))).trans c15
      go_loopw [288] (fun iv wi => ∃ k : Nat, k ≤ (woL D D.N).length ∧ iv = .int .i64 k ∧ Below wr.heap.size wr wi) (fun iv _ => (woL D D.N).length - (intOf iv).toNat)
      case atStart => exact ⟨0, Nat.zero_le _, rfl, Below.refl _ _⟩
      case round =>
        obtain ⟨k, hk, rfl, hBi⟩ := hrel
        by_cases hlk : k < (woL D D.N).length
        · obtain ⟨g1, k1, g2, k2, e1, e2, hc⟩ := hwc k _ (List.getElem?_eq_getElem hlk)
          generalize (woL D D.N)[k] = x at hc
          injection e1 with e1 _ e1'
          injection e2 with e2 _ e2'
          subst e1 e1' e2 e2'
          obtain ⟨q1, q2, q3⟩ := hc _ hBi
          have hnq : ∀ W, (binOp .neq 57 (.pointer (some ⟨bl x, 0, none⟩)) (.pointer (some ⟨bl x, 0, none⟩))).run Yba.prog W = .ok (.bool false) W := fun W => neq57 _ W
          clear hwc hc
          go_upto_region 67 with fail
          go_quiet (fail)
          go_wp2_with fail
          go_roundw
          case rel => exact ⟨k + 1, hlk, by simp, hBi.os, hBi.tape, hBi.output, hBi.size, hBi.block⟩
          case measure => simp [intOf]; omega
        · obtain rfl : k = (woL D D.N).length := by omega
          go_wp2_with fail
          refine hK _ _ ?_ (hB8.trans (below_down hBi hB8.size))
          exact ⟨⟨rfl, rfl, rfl, rfl, rfl, rfl⟩, rfl, rfl, rfl, rfl, rfl⟩
end Go.Proofs.Ybulkehxo
