/-
  FOR LawS6709CWhole: the events compared: the walk.
-/
import Derived.Test.YbulkehxoCF
namespace Go.Proofs.Ybulkehxo
open Go.RowKit

set_option maxRecDepth 1000000 in
set_option maxHeartbeats 8000000 in
theorem stageF (D : Dat) (w0 : World) (hI : Inp D w0) (R : Ending → World → Prop) (vl vp vd ev op want : Value) (bl bw bh h h' : Nat → Nat) (br : Nat) (a : Act) (w5 w6 : World) (hs : St5 D vl vp vd want br a) (hR : Res D w0 vl vp vd ev op bl bw bh h br w5) (hW : WI D w5 w6 want (D.n + 1) (dsD D).length h')
    (hK : ∀ a w, St4 D vl vp vd br a → Below w5.heap.size w5 w → (cutAt 19 (lawCode Yba.f4)).wp Yba.prog (bodyPost Yba.prog Yba.f4 R) a w) : (cutAt 17 (lawCode Yba.f4)).wp Yba.prog (bodyPost Yba.prog Yba.f4 R) a w6 := by
  have hsz := hI.sz
  obtain ⟨t, rfl, ht⟩ := frame_open a hs.st.fr.size hs.st.fr.defers
  have t0 := ht 0 _ hs.st.fr.h0
  have t1 := ht 1 _ hs.st.fr.h1
  have t2 := ht 2 _ hs.st.fr.h2
  have t3 := ht 3 _ hs.st.fr.h3
  have t9 := ht 9 _ hs.st.h9
  have t13 := ht 13 _ hs.st.h13
  have t15 := ht 15 _ hs.st.h15
  have t17 := ht 17 _ hs.st.h17
  have t22 := ht 22 _ hs.st.h22
  have t23 := ht 23 _ hs.h23
  have hdl := dueL_len D D.N
  clear ht hs
  obtain ⟨ae, ce0, hev⟩ := own_shape hR.er
  obtain ⟨aw, cw0, hwant⟩ : ∃ aw cw0, want = .slice aw (D.n + (dueL D D.N).length) cw0 := by
    obtain ⟨c, hcH, hrow⟩ := hW.row
    have hc : c = D.n + (dueL D D.N).length := by have := hcH.out; show c = D.n + (dsD D).length; omega
    subst hc
    exact own_shape hrow
  obtain ⟨av, cv, hrb⟩ := hR.rb
  have hbl := hrb.lt
  have hs6 := hW.below.size
  have hrb6 := hrb.kept (hW.below.block br hbl)
  have c4 := hrb6.c4
  have hboth := both_like hR hW
  subst hev hwant
  have e : cutAt 17 (lawCode Yba.f4) = .seq (itemAt 17 (lawCode Yba.f4)) (.seq (itemAt 18 (lawCode Yba.f4)) (cutAt 19 (lawCode Yba.f4))) := rfl
  rw [e]
  clear e
  generalize cutAt 19 (lawCode Yba.f4) = c19 at hK ⊢
  conv => arg 2; arg 1; whnf
  conv => arg 2; arg 2; arg 1; whnf
  unfold frm
  rw [t0, t1, t2, t3, t9, t13, t15, t17, t22, t23]
  clear t0 t1 t2 t3 t9 t13 t15 t17 t22 t23
  go_wp2_with fail
  go_loopw [239] (fun iv wr => ∃ i : Nat, i ≤ D.n + (dueL D D.N).length ∧ iv = .int .i64 i ∧ Below w6.heap.size w6 wr) (fun iv _ => D.n + (dueL D D.N).length - (intOf iv).toNat)
  case atStart => exact ⟨0, Nat.zero_le _, rfl, Below.refl _ _⟩
  case round =>
    obtain ⟨i, hi, rfl, hBr⟩ := hrel
    by_cases hlt : i < D.n + (dueL D D.N).length
    · obtain ⟨ge, ce, gw, cw, at_, kind, name, msgs, x, y, fo, o, hv1, hv2, hge, hgw, hx, hy, hE1, hE2⟩ := hboth i hlt
      injection hv1 with q1 _ q2
      injection hv2 with q3 _ q4
      subst q1 q2 q3 q4
      have hS : ∀ w', Below w6.heap.size w6 w' → w'.cell? ⟨br, 4, none⟩ = some (.slice (some ⟨ge, 0, none⟩) (D.n + (dueL D D.N).length) ce0) ∧ w'.cell? ⟨ge, i * 14, none⟩ = some (.int .i64 at_) ∧ w'.cell? ⟨ge, i * 14 + 1, none⟩ = some (.string kind) ∧ w'.cell? ⟨ge, i * 14 + 2, none⟩ = some (.string name) ∧ w'.cell? ⟨ge, i * 14 + 3, none⟩ = some (.string ⟨#[]⟩) ∧ w'.cell? ⟨ge, i * 14 + 4, none⟩ = some (.int .u8 0) ∧ w'.cell? ⟨ge, i * 14 + 5, none⟩ = some (.slice none 0 0) ∧ w'.cell? ⟨ge, i * 14 + 6, none⟩ = some (.bool false) ∧ w'.cell? ⟨ge, i * 14 + 7, none⟩ = some (.string ⟨#[]⟩) ∧ w'.cell? ⟨ge, i * 14 + 8, none⟩ = some (.string ⟨#[]⟩) ∧ w'.cell? ⟨ge, i * 14 + 9, none⟩ = some (.int .i64 0) ∧ w'.cell? ⟨ge, i * 14 + 10, none⟩ = some (.int .i64 0) ∧ w'.cell? ⟨ge, i * 14 + 11, none⟩ = some (.int .i64 msgs) ∧ w'.cell? ⟨ge, i * 14 + 12, none⟩ = some (.float .f64 x) ∧ w'.cell? ⟨ge, i * 14 + 13, none⟩ = some (.string fo) ∧ w'.cell? ⟨gw, i * 14, none⟩ = some (.int .i64 at_) ∧ w'.cell? ⟨gw, i * 14 + 1, none⟩ = some (.string kind) ∧ w'.cell? ⟨gw, i * 14 + 2, none⟩ = some (.string name) ∧ w'.cell? ⟨gw, i * 14 + 3, none⟩ = some (.string ⟨#[]⟩) ∧ w'.cell? ⟨gw, i * 14 + 4, none⟩ = some (.int .u8 0) ∧ w'.cell? ⟨gw, i * 14 + 5, none⟩ = some (.slice none 0 0) ∧ w'.cell? ⟨gw, i * 14 + 6, none⟩ = some (.bool false) ∧ w'.cell? ⟨gw, i * 14 + 7, none⟩ = some (.string ⟨#[]⟩) ∧ w'.cell? ⟨gw, i * 14 + 8, none⟩ = some (.string ⟨#[]⟩) ∧ w'.cell? ⟨gw, i * 14 + 9, none⟩ = some (.int .i64 0) ∧ w'.cell? ⟨gw, i * 14 + 10, none⟩ = some (.int .i64 0) ∧ w'.cell? ⟨gw, i * 14 + 11, none⟩ = some (.int .i64 msgs) ∧ w'.cell? ⟨gw, i * 14 + 12, none⟩ = some (.float .f64 y) ∧ w'.cell? ⟨gw, i * 14 + 13, none⟩ = some (.string fo) := fun w' hWb => by
        have kg : ∀ k u, w6.cell? ⟨ge, k, none⟩ = some u → w'.cell? ⟨ge, k, none⟩ = some u := fun k u q => (World.cell?_of_block (a := ⟨ge, k, none⟩) (hWb.block ge hge)).trans q
        have kw : ∀ k u, w6.cell? ⟨gw, k, none⟩ = some u → w'.cell? ⟨gw, k, none⟩ = some u := fun k u q => (World.cell?_of_block (a := ⟨gw, k, none⟩) (hWb.block gw hgw)).trans q
        exact ⟨(World.cell?_of_block (a := ⟨br, 4, none⟩) (hWb.block br (by omega))).trans c4, kg _ _ (hE1 0 _ rfl), kg _ _ (hE1 1 _ rfl), kg _ _ (hE1 2 _ rfl), kg _ _ (hE1 3 _ rfl), kg _ _ (hE1 4 _ rfl), kg _ _ (hE1 5 _ rfl), kg _ _ (hE1 6 _ rfl), kg _ _ (hE1 7 _ rfl), kg _ _ (hE1 8 _ rfl), kg _ _ (hE1 9 _ rfl), kg _ _ (hE1 10 _ rfl), kg _ _ (hE1 11 _ rfl), kg _ _ (hE1 12 _ rfl), kg _ _ (hE1 13 _ rfl), kw _ _ (hE2 0 _ rfl), kw _ _ (hE2 1 _ rfl), kw _ _ (hE2 2 _ rfl), kw _ _ (hE2 3 _ rfl), kw _ _ (hE2 4 _ rfl), kw _ _ (hE2 5 _ rfl), kw _ _ (hE2 6 _ rfl), kw _ _ (hE2 7 _ rfl), kw _ _ (hE2 8 _ rfl), kw _ _ (hE2 9 _ rfl), kw _ _ (hE2 10 _ rfl), kw _ _ (hE2 11 _ rfl), kw _ _ (hE2 12 _ rfl), kw _ _ (hE2 13 _ rfl)⟩
      have HS : Hid _ := hS
      have hBd : Below w6.heap.size w6 wr.drew := ⟨hBr.os, hBr.tape, hBr.output, hBr.size, hBr.block⟩
      clear hS hboth hE1 hE2 c4
      go_upto_region 52 with fail
      go_cut [254] from 240 to 254 (fun c wx => c = .bool false ∧ Below w6.heap.size w6 wx)
      case first =>
        go_region_held_law (fun w' => w'.cell? ⟨br, 4, none⟩ = some (.slice (some ⟨ge, 0, none⟩) (D.n + (dueL D D.N).length) ce0) ∧ w'.cell? ⟨ge, i * 14, none⟩ = some (.int .i64 at_) ∧ w'.cell? ⟨ge, i * 14 + 1, none⟩ = some (.string kind) ∧ w'.cell? ⟨ge, i * 14 + 2, none⟩ = some (.string name) ∧ w'.cell? ⟨ge, i * 14 + 3, none⟩ = some (.string ⟨#[]⟩) ∧ w'.cell? ⟨ge, i * 14 + 4, none⟩ = some (.int .u8 0) ∧ w'.cell? ⟨ge, i * 14 + 5, none⟩ = some (.slice none 0 0) ∧ w'.cell? ⟨ge, i * 14 + 6, none⟩ = some (.bool false) ∧ w'.cell? ⟨ge, i * 14 + 7, none⟩ = some (.string ⟨#[]⟩) ∧ w'.cell? ⟨ge, i * 14 + 8, none⟩ = some (.string ⟨#[]⟩) ∧ w'.cell? ⟨ge, i * 14 + 9, none⟩ = some (.int .i64 0) ∧ w'.cell? ⟨ge, i * 14 + 10, none⟩ = some (.int .i64 0) ∧ w'.cell? ⟨ge, i * 14 + 11, none⟩ = some (.int .i64 msgs) ∧ w'.cell? ⟨ge, i * 14 + 12, none⟩ = some (.float .f64 x) ∧ w'.cell? ⟨ge, i * 14 + 13, none⟩ = some (.string fo) ∧ w'.cell? ⟨gw, i * 14, none⟩ = some (.int .i64 at_) ∧ w'.cell? ⟨gw, i * 14 + 1, none⟩ = some (.string kind) ∧ w'.cell? ⟨gw, i * 14 + 2, none⟩ = some (.string name) ∧ w'.cell? ⟨gw, i * 14 + 3, none⟩ = some (.string ⟨#[]⟩) ∧ w'.cell? ⟨gw, i * 14 + 4, none⟩ = some (.int .u8 0) ∧ w'.cell? ⟨gw, i * 14 + 5, none⟩ = some (.slice none 0 0) ∧ w'.cell? ⟨gw, i * 14 + 6, none⟩ = some (.bool false) ∧ w'.cell? ⟨gw, i * 14 + 7, none⟩ = some (.string ⟨#[]⟩) ∧ w'.cell? ⟨gw, i * 14 + 8, none⟩ = some (.string ⟨#[]⟩) ∧ w'.cell? ⟨gw, i * 14 + 9, none⟩ = some (.int .i64 0) ∧ w'.cell? ⟨gw, i * 14 + 10, none⟩ = some (.int .i64 0) ∧ w'.cell? ⟨gw, i * 14 + 11, none⟩ = some (.int .i64 msgs) ∧ w'.cell? ⟨gw, i * 14 + 12, none⟩ = some (.float .f64 y) ∧ w'.cell? ⟨gw, i * 14 + 13, none⟩ = some (.string fo)) (first | exact HS.out _ hBd | exact HS.out _ hB7 | go_keep)
          (first | (go_at_call 14; refine (evq_any at_ kind name msgs x y fo _ hx hy).mono ?_; rintro e w7 ⟨rfl, hB8⟩; have hB7 := hBd.trans (below_down hB8 hBd.size)))
        go_wp2_with fail
        go_meet
        case rel => exact ⟨rfl, hB7⟩
      case rest =>
        obtain ⟨rfl, hBw⟩ := hcut
        go_wp2_with fail
        go_roundw
        case rel => exact ⟨i + 1, hlt, by simp, hBw⟩
        case measure => simp [intOf]; omega
    · obtain rfl : i = D.n + (dueL D D.N).length := by omega
      go_wp2_with fail
      refine hK _ _ ?_ (hW.below.trans (below_down hBr hs6))
      exact ⟨⟨rfl, rfl, rfl, rfl, rfl, rfl⟩, rfl, rfl, rfl, rfl, rfl⟩
end Go.Proofs.Ybulkehxo
