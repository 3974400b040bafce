/-
  FOR LawS6709CWhole: the run, resolved.
-/
import Derived.Test.YbulkehxoCC
namespace Go.Proofs.Ybulkehxo
open Go.RowKit

theorem AS.ext {D : Dat} {w0 w : World} {bl bw bh : Nat → Nat} {ln : Nat → Nat} {vp vo vd : Value} (h : AS D w0 w bl bw bh D.N ln ((List.range D.N).map (ptrK bl)) ((opnL D D.N).map (ptrK bl)) ((dueL D D.N).map (ptrK bl)) vp vo vd) :
    ∃ bl', AS D w0 w bl' bw bh D.N ln ((List.range D.N).map (ptrK bl')) ((opnL D D.N).map (ptrK bl')) ((dueL D D.N).map (ptrK bl')) vp vo vd ∧ (0 < D.N → Lies w bl') := by
  have hlt : ∀ k, k < D.N → (fun k => if k < D.N then bl k else bl 0) k = bl k := fun k hk => if_pos hk
  refine ⟨fun k => if k < D.N then bl k else bl 0, ?_, fun h0 k => ?_⟩
  · have e0 : ∀ l : List Nat, (∀ k, k ∈ l → k < D.N) → l.map (ptrK bl) = l.map (ptrK fun k => if k < D.N then bl k else bl 0) := fun l hl => List.map_congr_left (fun k hk => by unfold ptrK; rw [hlt k (hl k hk)])
    rw [e0 (List.range D.N) (fun k hk => List.mem_range.1 hk), e0 (opnL D D.N) (fun k hk => List.mem_range.1 (List.mem_filter.1 hk).1), e0 (dueL D D.N) (fun k hk => List.mem_range.1 (List.mem_filter.1 hk).1)] at h
    refine ⟨h.below, h.pr, h.orow, h.drow, h.ne1, h.ne2, h.ne3, fun k hk => ?_, fun j k hj hk e => ?_⟩
    · have q := h.acc k hk
      exact ⟨by show CB w (if k < D.N then bl k else bl 0) _ _ _ _ _ _ _; rw [if_pos hk]; exact q.cb, q.tw, q.th⟩
    · have e : (if j < D.N then bl j else bl 0) = if k < D.N then bl k else bl 0 := e
      rw [if_pos hj, if_pos hk] at e
      exact h.inj j k hj hk e
  · show ∃ ca, w.heap[if k < D.N then bl k else bl 0]? = _
    by_cases hk : k < D.N
    · rw [if_pos hk]
      exact ⟨_, (h.acc k hk).cb⟩
    · rw [if_neg hk]
      exact ⟨_, (h.acc 0 h0).cb⟩

/-- All that stands behind resolve. -/
structure Res (D : Dat) (w0 : World) (vl vp vd ev op : Value) (bl bw bh h : Nat → Nat) (br : Nat) (w : World) : Prop where
  below : Below w0.heap.size w0 w
  rb : ∃ a cap, RB w br D.now ev D.hop op (.slice a 0 cap)
  fits : ∀ j, j < (dueL D D.N).length → Fits (hopK (cfD D ((dueL D D.N).getD j 0)) D.hop) (h j)
  er : ERow w w0.heap.size ev (D.n + (dueL D D.N).length) (insN (fun j => lnN D ((dueL D D.N).getD j 0)) (fun j => evD D.now (cfD D ((dueL D D.N).getD j 0)) (h j)) (ev0 D) (dueL D D.N).length).flatten
  orow : w.ownsRow w0.heap.size 57 1 op (openF bl (opnL D D.N) (dueL D D.N) (dueL D D.N).length).length ((openF bl (opnL D D.N) (dueL D D.N) (dueL D D.N).length).map (ptrK bl))
  lr : w.ownsRow w0.heap.size 3 1 vl (dueL D D.N).length (lineRow (lineS D))
  pr : w.ownsRow w0.heap.size 57 1 vp D.N ((List.range D.N).map (ptrK bl))
  dr : w.ownsRow w0.heap.size 57 1 vd (dueL D D.N).length ((dueL D D.N).map (ptrK bl))
  acc : ∀ k, k < D.N → Acc w bl bw bh (cfD D) (lnN D) k
  inj : ∀ j k, j < D.N → k < D.N → bl j = bl k → j = k

structure St4 (D : Dat) (vl vp vd : Value) (br : Nat) (a : Act) : Prop where
  fr : Fr D a
  h9 : a.tmps[9]? = some (.int .i64 D.n)
  h13 : a.tmps[13]? = some vl
  h15 : a.tmps[15]? = some vp
  h17 : a.tmps[17]? = some vd
  h22 : a.tmps[22]? = some (.pointer (some ⟨br, 0, none⟩))

theorem lnN_le (D : Dat) (k : Nat) : lnN D k ≤ D.n := by
  unfold lnN
  split
  · rw [List.getD]
    cases h : (lineS D)[(dueL D k).length]? with
    | none => simp
    | some x =>
      have := (lineS_mem D x (List.mem_of_getElem? h)).2
      simp only [Option.getD_some]
      omega
  · exact Nat.zero_le _

set_option maxRecDepth 1000000 in
set_option maxHeartbeats 8000000 in
theorem stageD (D : Dat) (w0 : World) (hI : Inp D w0) (Q : Exit → Act → World → Prop) (ev vl vp vo vd : Value) (bl bw bh : Nat → Nat) (a : Act) (w : World) (hs : St3 D w0 ev vl vp vo vd bl bw bh a w)
    (hK : ∀ ev op bl bw bh h br a w, St4 D vl vp vd br a → Res D w0 vl vp vd ev op bl bw bh h br w → (cutAt 14 (lawCode Yba.f4)).wp Yba.prog Q a w) : (cutAt 12 (lawCode Yba.f4)).wp Yba.prog Q a w := by
  have hsz := hI.sz
  obtain ⟨t, rfl, ht⟩ := frame_open a hs.fr.size hs.fr.defers
  have t0 := ht 0 _ hs.fr.h0
  have t1 := ht 1 _ hs.fr.h1
  have t2 := ht 2 _ hs.fr.h2
  have t3 := ht 3 _ hs.fr.h3
  have t9 := ht 9 _ hs.h9
  have t10 := ht 10 _ hs.h10
  have t13 := ht 13 _ hs.h13
  have t15 := ht 15 _ hs.h15
  have t16 := ht 16 _ hs.h16
  have t17 := ht 17 _ hs.h17
  obtain ⟨bl', hA0, hLies0⟩ := hs.asx.ext
  have hor := hA0.orow
  have hdr0 := hA0.drow
  rw [List.length_map] at hor hdr0
  obtain ⟨ao, co, hvo⟩ := own_shape hor
  obtain ⟨ad, cd, hvd⟩ := own_shape hdr0
  obtain ⟨ae, ce, hve⟩ := own_shape hs.er
  have hbel : Below w.heap.size w (w.alloc (.cells #[.pointer none, .nilIface, .slice none 0 0, .int .i64 D.now, ev, .slice none 0 0, .slice none 0 0, .slice none 0 0, .int .i64 0, .slice none 0 0, .int .u64 0, .slice none 0 0, .int .i64 0, .nilIface, .int .i64 D.hop, vo, vd] 88)) := (Below.refl _ _).alloc (Nat.le_refl _) _
  have hR : RB (w.alloc (.cells #[.pointer none, .nilIface, .slice none 0 0, .int .i64 D.now, ev, .slice none 0 0, .slice none 0 0, .slice none 0 0, .int .i64 0, .slice none 0 0, .int .u64 0, .slice none 0 0, .int .i64 0, .nilIface, .int .i64 D.hop, vo, vd] 88)) w.heap.size D.now ev D.hop vo vd := heap_alloc_new w _
  have hA := hA0.keep hbel
  have hE := ownsRow_below hs.er hbel
  have hL := ownsRow_below hs.lr hbel
  have hb0 := hs.bl0.size
  have hLies : 0 < D.N → Lies (w.alloc (.cells #[.pointer none, .nilIface, .slice none 0 0, .int .i64 D.now, ev, .slice none 0 0, .slice none 0 0, .slice none 0 0, .int .i64 0, .slice none 0 0, .int .u64 0, .slice none 0 0, .int .i64 0, .nilIface, .int .i64 D.hop, vo, vd] 88)) bl' := fun h => (hLies0 h).kept (fun k => hbel.block _ ((hLies0 h).lt k))
  have hel := ev0_length D
  have hdl := dueL_len D D.N
  have hlo : vo.ownBlock ≠ some w.heap.size := own_ne hA.orow hR (by decide)
  have hC := resolve_any w0.heap.size w.heap.size bl' bw bh (cfD D) (lnN D) (dueL D D.N) (opnL D D.N) (ev0 D) D.now D.hop ev vo vd _ hR hb0 (by simp; omega) (by rw [hel]; exact hE) (ev0_all D) (by have := hA.orow; rw [List.length_map] at this; exact this) (by have := hA.drow; rw [List.length_map] at this; exact this) hA.ne1
    (fun k hk => hLies (by have := List.mem_range.1 (List.mem_filter.1 hk).1; omega)) (fun k hk => hA.acc k (List.mem_range.1 (List.mem_filter.1 hk).1)) (fun k _ => by rw [hel]; exact lnN_le D k) (by rw [hel]; omega)
  have HC : Hid _ := hC
  have hN : Hid (∀ W ev' op' vd' h, RInv (w.alloc (.cells #[.pointer none, .nilIface, .slice none 0 0, .int .i64 D.now, ev, .slice none 0 0, .slice none 0 0, .slice none 0 0, .int .i64 0, .slice none 0 0, .int .u64 0, .slice none 0 0, .int .i64 0, .nilIface, .int .i64 D.hop, vo, vd] 88)) W w0.heap.size w.heap.size bl' (cfD D) (lnN D) (dueL D D.N) (opnL D D.N) (ev0 D) D.now D.hop vo vd' (dueL D D.N).length ev' op' h → (∃ a cap, vd' = .slice a 0 cap) → Res D w0 vl vp vd ev' op' bl' bw bh h w.heap.size W) := by
    intro W ev' op' vd' h hI' hv
    obtain ⟨av, cv, rfl⟩ := hv
    have kp : ∀ (b : Nat) (ca : Array Value) (t : TypeId), (w.alloc (.cells #[.pointer none, .nilIface, .slice none 0 0, .int .i64 D.now, ev, .slice none 0 0, .slice none 0 0, .slice none 0 0, .int .i64 0, .slice none 0 0, .int .u64 0, .slice none 0 0, .int .i64 0, .nilIface, .int .i64 D.hop, vo, vd] 88)).heap[b]? = some (.cells ca t (0, 0)) → t ≠ 50 → t ≠ 88 → vo.ownBlock ≠ some b → W.heap[b]? = _ := fun b ca t hq h1 h2 h3 => hI'.kept.cb hq h1 (type_ne hq hR h2) h3
    have rk : ∀ {v : Value} {n : Nat} {e : TypeId} {xs : List Value}, (w.alloc (.cells #[.pointer none, .nilIface, .slice none 0 0, .int .i64 D.now, ev, .slice none 0 0, .slice none 0 0, .slice none 0 0, .int .i64 0, .slice none 0 0, .int .u64 0, .slice none 0 0, .int .i64 0, .nilIface, .int .i64 D.hop, vo, vd] 88)).ownsRow w0.heap.size e 1 v n xs → e ≠ 50 → e ≠ 88 → (∀ b, v.ownBlock = some b → vo.ownBlock ≠ some b) → W.ownsRow w0.heap.size e 1 v n xs := fun hr h1 h2 h3 => row_keep hr (fun b hb => by
      rcases hr.2 with ⟨q, _⟩ | ⟨g, cap, cur, q1, _, q2, _⟩
      · rw [q] at hb; cases hb
      · have h3' := h3 b hb
        rw [q1] at hb
        injection hb with hb
        subst hb
        exact kp g cur _ q2 h1 h2 h3')
    have hdr := hA.drow
    rw [List.length_map] at hdr
    have her := hI'.er
    rw [hel] at her
    refine ⟨(hA.below).trans hI'.kept.below, ⟨av, cv, hI'.rb⟩, hI'.fits, her, hI'.orow, rk hL (by decide) (by decide) (fun b hb e => ?_), rk hA.pr (by decide) (by decide) hA.ne2, rk hdr (by decide) (by decide) hA.ne1, fun k hk => acc_keep (hA.acc k hk) (fun b ca t hq ht => kp b ca t hq (by rcases ht with rfl | rfl <;> decide) (by rcases ht with rfl | rfl <;> decide) (own_ne hA.orow hq (by rcases ht with rfl | rfl <;> decide))), hA.inj⟩
    rcases hL.2 with ⟨q, _⟩ | ⟨g, cap, cur, q1, _, q2, _⟩
    · rw [q] at hb; cases hb
    · rw [q1] at hb
      injection hb with hb
      subst hb
      exact own_ne hA.orow q2 (by decide) e
  clear ht hs hC hA hA0 hE hL hLies hLies0 hR hbel hlo hor hdr0
  have e : cutAt 12 (lawCode Yba.f4) = .seq (itemAt 12 (lawCode Yba.f4)) (.seq (itemAt 13 (lawCode Yba.f4)) (cutAt 14 (lawCode Yba.f4))) := rfl
  rw [e]
  clear e
  generalize cutAt 14 (lawCode Yba.f4) = c14 at hK ⊢
  conv => arg 2; arg 1; whnf
  conv => arg 2; arg 2; arg 1; whnf
  unfold frm
  rw [t0, t1, t2, t3, t9, t10, t13, t15, t16, t17]
  clear t0 t1 t2 t3 t9 t10 t13 t15 t16 t17
  subst hvo hvd hve
  go_wp2_with (go_at_call 12; refine Calls.mono HC.out ?_; rintro e W ⟨rfl, ev', op', vd', h, hI', hv⟩)
  have hF := hN.out _ _ _ _ _ hI' hv
  clear HC hN hI'
  refine hK ev' op' bl' bw bh h w.heap.size _ _ ?_ hF
  exact ⟨⟨rfl, rfl, rfl, rfl, rfl, rfl⟩, rfl, rfl, rfl, rfl, rfl⟩

end Go.Proofs.Ybulkehxo
