/-
  FOR LawS6709CWhole: the accounts read again; the answer.
-/
import Derived.Test.YbulkehxoCG
namespace Go.Proofs.Ybulkehxo
open Go.RowKit

set_option maxRecDepth 1000000 in
set_option maxHeartbeats 8000000 in
theorem stageH (D : Dat) (w0 : World) (hI : Inp D w0) (R : Ending → World → Prop) (vl vp vd ev op : Value) (bl bw bh h : Nat → Nat) (br : Nat) (a : Act) (w5 w8 : World) (hs : St4 D vl vp vd br a) (hR : Res D w0 vl vp vd ev op bl bw bh h br w5) (hB8 : Below w5.heap.size w5 w8)
    (hK : ∀ w, Below w5.heap.size w5 w → R (.returned (.bool true)) w) : (cutAt 23 (lawCode Yba.f4)).wp Yba.prog (bodyPost Yba.prog Yba.f4 R) a w8 := by
  have hsz := hI.sz
  obtain ⟨t, rfl, ht⟩ := frame_open a hs.fr.size hs.fr.defers
  have t0 := ht 0 _ hs.fr.h0
  have t1 := ht 1 _ hs.fr.h1
  have t2 := ht 2 _ hs.fr.h2
  have t3 := ht 3 _ hs.fr.h3
  have t9 := ht 9 _ hs.h9
  have t13 := ht 13 _ hs.h13
  have t15 := ht 15 _ hs.h15
  have t17 := ht 17 _ hs.h17
  have t22 := ht 22 _ hs.h22
  clear ht hs
  obtain ⟨av, cv, hrb⟩ := hR.rb
  have hbl := hrb.lt
  have hs8 := hB8.size
  have hs5 := hR.below.size
  have hrb8 := hrb.kept (hB8.block br hbl)
  have c16 := hrb8.c16
  have c3 := hrb8.c3
  have c14 := hrb8.c14
  conv => arg 2; whnf
  conv => arg 2; arg 1; whnf
  conv => arg 2; arg 2; arg 1; whnf
  conv => arg 2; arg 2; arg 2; arg 1; whnf
  unfold frm
  rw [t0, t1, t2, t3, t9, t13, t15, t17, t22]
  clear t0 t1 t2 t3 t9 t13 t15 t17 t22
  go_wp2_with fail
  go_loopw [18, 328] (fun kk iv wr => ∃ i : Nat, i ≤ D.N ∧ iv = .int .i64 i ∧ kk = .int .i64 (dueL D i).length ∧ Below w8.heap.size w8 wr) (fun _ iv _ => D.N - (intOf iv).toNat)
  case atStart => exact ⟨0, Nat.zero_le _, rfl, rfl, Below.refl _ _⟩
  case round =>
    obtain ⟨i, hi, rfl, rfl, hBr⟩ := hrel
    by_cases hlt : i < D.N
    · obtain ⟨b, o, ha3, hb, c0, c1, c2, c3, c4, c5, c6, c7⟩ := hI.s3 i hlt
      have hsr := hBr.size
      have hB9 : Below w5.heap.size w5 wr := hB8.trans (below_down hBr hs8)
      have hBw := hR.below.trans (below_down hB9 hs5)
      have d0 := (World.cell?_of_block (a := ⟨b, o + i * 8, none⟩) (hBw.block b hb)).trans c0
      have d1 := (World.cell?_of_block (a := ⟨b, o + i * 8 + 1, none⟩) (hBw.block b hb)).trans c1
      have d2 := (World.cell?_of_block (a := ⟨b, o + i * 8 + 2, none⟩) (hBw.block b hb)).trans c2
      have d3 := (World.cell?_of_block (a := ⟨b, o + i * 8 + 3, none⟩) (hBw.block b hb)).trans c3
      have d4 := (World.cell?_of_block (a := ⟨b, o + i * 8 + 4, none⟩) (hBw.block b hb)).trans c4
      have d5 := (World.cell?_of_block (a := ⟨b, o + i * 8 + 5, none⟩) (hBw.block b hb)).trans c5
      have d6 := (World.cell?_of_block (a := ⟨b, o + i * 8 + 6, none⟩) (hBw.block b hb)).trans c6
      have d7 := (World.cell?_of_block (a := ⟨b, o + i * 8 + 7, none⟩) (hBw.block b hb)).trans c7
      clear c0 c1 c2 c3 c4 c5 c6 c7
      have hil := dueL_len D i
      have hal : Below w8.heap.size w8 (wr.alloc (.cells #[.string (D.rw i).waiter, .string (D.rw i).holder, .int .i64 (D.rw i).at_, .int .i64 (D.rw i).last, .int .i64 (D.rw i).msgs, .int .u64 (D.rw i).line, .bool (D.rw i).due, .bool (D.rw i).opn] 54)) := hBr.alloc (by omega) _
      obtain ⟨gp, cp, rfl, hgp, hpc⟩ := ptr_at hR.pr hlt
      have hp2 : wr.cell? ⟨gp, i, none⟩ = some (.pointer (some ⟨bl i, 0, none⟩)) := (World.cell?_of_block (a := ⟨gp, i, none⟩) (hB9.block gp hgp)).trans hpc
      have hac := acc_keep (hR.acc i hlt) (fun b ca t hq _ => hB9.block b (lt_of_block hq))
      have k0 := hac.cb.c0
      have k1 := hac.cb.c1
      have k2 := hac.cb.c2
      have k4 := hac.cb.c4
      have k5 := hac.cb.c5
      have k6 := hac.cb.c6
      have k7 := hac.cb.c7
      have k8 := hac.cb.c8
      have m1 := hac.tw.c0
      have m2 := hac.th.c0
      have l1 : gp < wr.heap.size := by omega
      have l2 := hac.cb.lt
      have l3 := hac.tw.lt
      have l4 := hac.th.lt
      dsimp only [cfD] at k4 k5 k6 m1 m2
      rw [ha3]
      cases hd : (D.rw i).due
      · rw [hd] at d6 hal
        have hl0 : lnN D i = 0 := by unfold lnN; rw [hd]; rfl
        rw [hl0] at k8
        go_upto_region 77 with fail
        simp only [List.append_eq, List.cons_append, List.nil_append]
        go_quiet (fail)
        go_wp2_with fail
        go_roundw
        case rel => exact ⟨i + 1, hlt, by simp, by rw [dueL_succ, hd]; simp, hal.os, hal.tape, hal.output, hal.size, hal.block⟩
        case measure => simp [intOf]; omega
      · rw [hd] at d6 hal
        obtain ⟨gl, capl, rfl, hgl, hlc⟩ := line_at hR.lr hlt hd
        have hlt2 := dueL_lt D hlt hd
        have hl1 : wr.cell? ⟨gl, (dueL D i).length, none⟩ = some (.int .i64 (lnN D i)) := (World.cell?_of_block (a := ⟨gl, (dueL D i).length, none⟩) (hB9.block gl hgl)).trans hlc
        have l5 : gl < wr.heap.size := by omega
        go_upto_region 77 with fail
        simp only [List.append_eq, List.cons_append, List.nil_append]
        go_quiet (fail)
        go_upto_region 80 with fail
        go_quiet (fail)
        go_wp2_with fail
        go_roundw
        case rel => exact ⟨i + 1, hlt, by simp, by rw [dueL_succ, hd]; simp, hal.os, hal.tape, hal.output, hal.size, hal.block⟩
        case measure => simp [intOf]; omega
    · obtain rfl : i = D.N := by omega
      go_wp2_with fail
      exact hB8.trans (below_down hBr hs8)
end Go.Proofs.Ybulkehxo
