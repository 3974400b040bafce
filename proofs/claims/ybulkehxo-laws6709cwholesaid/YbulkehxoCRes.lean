/-
  FOR LawS6709CWhole: (*run).resolve.
-/
import Derived.Test.YbulkehxoCRes0
import Derived.Deep.RegionWith
namespace Go.Proofs.Ybulkehxo
open Go.RowKit

theorem run_quo48' : ∀ (x y : Nat) (W : World), (binOp .quo 48 (.float .f64 x) (.float .f64 y)).run Yba.prog W = .ok (.float .f64 (fres .quo x y W)) (fw .quo x y W) := run_quo48

theorem run_store_float {P : Program} (w : World) (a : Addr) (m : Mode) (k : FloatKind) (b : Nat) : (store a (.float k b) m).run P w = stored P w a (.float k b) m := run_store P w a _ m rfl
attribute [local go_sem] run_store_float

set_option maxRecDepth 100000 in
set_option maxHeartbeats 4000000 in
theorem resolve_any (base br : Nat) (bl bw bh : Nat → Nat) (cf : Nat → Conf) (ln : Nat → Nat) (ds ks : List Nat) (E0 : List (List Value)) (now hop : Int) (ev op vd : Value) (w : World)
    (hR : RB w br now ev hop op vd) (hbr : base ≤ br) (hb0 : base ≤ w.heap.size) (hE : ERow w base ev E0.length E0.flatten) (hAll : AllEv E0)
    (hO : w.ownsRow base 57 1 op ks.length (ks.map (ptrK bl))) (hD : w.ownsRow base 57 1 vd ds.length (ds.map (ptrK bl))) (hOD : ∀ b, vd.ownBlock = some b → op.ownBlock ≠ some b)
    (hL : ∀ k, k ∈ ds → Lies w bl) (hA : ∀ k, k ∈ ds → Acc w bl bw bh cf ln k) (hln : ∀ k, k ∈ ds → ln k ≤ E0.length) (hsz : E0.length + ds.length ≤ 9000) :
    Calls Yba.prog 12 #[.pointer (some ⟨br, 0, none⟩)] w fun e w' => e = .returned (.tuple #[]) ∧ ∃ ev' op' vd' h, RInv w w' base br bl cf ln ds ks E0 now hop op vd' ds.length ev' op' h ∧ ∃ a cap, vd' = .slice a 0 cap := by
  obtain ⟨ad, capd, rfl, had, hcd⟩ := due_shape hR hD hOD
  have hc16 := hR.c16
  have hdn : ds.length ≤ 9000 := by omega
  go_enter Yba.func12, Yba.ntmps12
  go_wp2_with fail
  go_loopw [11] (fun i wr => ∃ t : Nat, t ≤ ds.length ∧ i = .int .i64 t ∧ ∃ ev' op' h, RInv w wr base br bl cf ln ds ks E0 now hop op (.slice ad ds.length capd) t ev' op' h) (fun i _ => ds.length - (intOf i).toNat)
  case atStart => exact ⟨0, Nat.zero_le _, rfl, ev, op, _, res_start hR hE hO⟩
  case round =>
    obtain ⟨t, ht, rfl, ev', op', h, hI⟩ := hrel
    by_cases hlt : t < ds.length
    · obtain ⟨d, hd⟩ : ∃ d, ds[t]? = some d := ⟨_, List.getElem?_eq_getElem hlt⟩
      obtain ⟨g, rfl, hcg, hgl, hgo, hgb, ca, hgc⟩ := hcd t d hd
      have hdm : d ∈ ds := List.mem_of_getElem? hd
      have hac := hA d hdm
      have hL := hL d hdm
      have hcg' : wr.cell? ⟨g, t, none⟩ = some (ptrK bl d) := (World.cell?_of_block (a := ⟨g, t, none⟩) (hI.kept.cb hgc (by decide) hgb hgo)).trans hcg
      unfold ptrK at hcg'
      have r15 := hI.rb.c15
      have hbrl := hI.rb.lt
      have hLr : Lies wr bl := hL.kept (fun k => by
        obtain ⟨ca, hk⟩ := hL k
        exact hI.kept.cb hk (by decide) (type_ne hk hR (by decide)) (own_ne hO hk (by decide)))
      have hacr : Acc wr bl bw bh cf ln d := by
        obtain ⟨tc, htc, htc0⟩ := hac.tw
        obtain ⟨uc, huc, huc0⟩ := hac.th
        exact ⟨hac.cb.kept (hI.kept.cb hac.cb (by decide) (type_ne hac.cb hR (by decide)) (own_ne hO hac.cb (by decide))),
          hac.tw.kept (hI.kept.cb htc (by decide) (type_ne htc hR (by decide)) (own_ne hO htc (by decide))),
          hac.th.kept (hI.kept.cb huc (by decide) (type_ne huc hR (by decide)) (own_ne hO huc (by decide)))⟩
      have hLa : Lies (wr.alloc (.cells #[.pointer (some ⟨bl d, 0, none⟩)] 57)) bl := hLr.kept (fun k => Below.heap_alloc _ _ _ (hLr.lt k))
      have hOa := hI.orow.alloc (.cells #[.pointer (some ⟨bl d, 0, none⟩)] 57)
      have hoB : op'.ownBlock ≠ some wr.heap.size := fun e => by have := (hI.orow.lt _ e).2; omega
      have hwb := hI.kept.below
      go_wp2_with (go_at_call 20; refine (del_any bl d wr.heap.size base op' _ _ hLa (by simp) (by simp [ptrK]) hoB hOa).mono ?_; rintro e Wb ⟨op2, rfl, hO2, hg2, hown2⟩; obtain ⟨a2, c2, rfl⟩ := own_shape hO2; have hRa := hI.rb.kept (Below.heap_alloc wr (.cells #[.pointer (some ⟨bl d, 0, none⟩)] 57) br hbrl); have hRb := hRa.kept (hg2.block br hRa.lt (fun e => own_ne hOa hRa (by decide) e.symm)); have q15 := hRb.c15; have q15f := hRb.fr 15)
      generalize hop2 : Value.slice a2 (List.filter (fun k => !bl k == bl d) (openF bl ks ds t)).length c2 = op2 at hO2 hown2 ⊢
      clear hop2 q15 q15f r15 hcg' hcg hLa
      have hBo : op'.ownBlock ≠ some wr.heap.size := hoB
      have hsz2 := hg2.size
      have kp : ∀ k, k < wr.heap.size → k ≠ br → op'.ownBlock ≠ some k → (Wb.setCell ⟨br, 15, none⟩ op2).heap[k]? = wr.heap[k]? := fun k h1 h2 h3 => by
        rw [Below.heap_setCell _ _ _ _ h2, hg2.block k (by simp; omega) (fun e => h3 e.symm), Below.heap_alloc _ _ _ h1]
      have hRc : RB (Wb.setCell ⟨br, 15, none⟩ op2) br now ev' hop op2 (.slice (some ⟨g, 0, none⟩) ds.length capd) := hRb.s15 op2
      have hB1 : (Wb.setCell ⟨br, 15, none⟩ op2).heap[wr.heap.size]? = some (.cells #[.pointer (some ⟨bl d, 0, none⟩)] 57 (0, 0)) := by
        rw [Below.heap_setCell _ _ _ _ (by show wr.heap.size ≠ br; omega), hg2.block _ (by simp) (fun e => hoB e.symm)]
        exact heap_alloc_new wr _
      have cB : (Wb.setCell ⟨br, 15, none⟩ op2).cell? ⟨wr.heap.size, 0, none⟩ = some (.pointer (some ⟨bl d, 0, none⟩)) := by
        rw [cell_of_row _ _ _ _ 57 (0, 0) hB1]
        rfl
      have hcbc : CB (Wb.setCell ⟨br, 15, none⟩ op2) (bl d) d (bw d) (bh d) (cf d).at_ (cf d).msgs (cf d).last (ln d) := hacr.cb.kept (kp _ hacr.cb.lt (type_ne hacr.cb hI.rb (by decide)) (own_ne hI.orow hacr.cb (by decide)))
      have htwc : TB (Wb.setCell ⟨br, 15, none⟩ op2) (bw d) (cf d).waiter := by
        obtain ⟨tc, htc, htc0⟩ := hacr.tw
        exact hacr.tw.kept (kp _ hacr.tw.lt (type_ne htc hI.rb (by decide)) (own_ne hI.orow htc (by decide)))
      have hthc : TB (Wb.setCell ⟨br, 15, none⟩ op2) (bh d) (cf d).holder := by
        obtain ⟨tc, htc, htc0⟩ := hacr.th
        exact hacr.th.kept (kp _ hacr.th.lt (type_ne htc hI.rb (by decide)) (own_ne hI.orow htc (by decide)))
      have hobr : op2.ownBlock ≠ some br := own_ne hO2 hRb (by decide)
      have hOc : (Wb.setCell ⟨br, 15, none⟩ op2).ownsRow base 57 1 op2 ((openF bl ks ds t).filter fun k => !(bl k == bl d)).length (((openF bl ks ds t).filter fun k => !(bl k == bl d)).map (ptrK bl)) :=
        World.ownsRow.kept hO2 (row := some br) ⟨rfl, rfl, rfl, by simp, fun k _ hk => Below.heap_setCell _ _ _ _ (fun e => hk (by rw [e]))⟩ (.inr hobr)
      have hEc : ERow (Wb.setCell ⟨br, 15, none⟩ op2) base ev' (E0.length + t) (insN (fun j => ln (ds.getD j 0)) (fun j => evD now (cf (ds.getD j 0)) (h j)) E0 t).flatten := by
        refine ⟨hI.er.1, ?_⟩
        rcases hI.er.2 with q | ⟨ge, ce, cure, q1, q2, q3, q4⟩
        · exact .inl q
        · exact .inr ⟨ge, ce, cure, q1, q2, (kp ge (lt_of_block q3) (type_ne q3 hI.rb (by decide)) (own_ne hI.orow q3 (by decide))).trans q3, q4⟩
      have hBwb : Below base wr (Wb.setCell ⟨br, 15, none⟩ op2) := ⟨hg2.os, hg2.tape, hg2.output, by simp at hsz2 ⊢; omega, fun k hk => kp k (by have := hI.rb.lt; omega) (by omega) (fun e => by have := (hI.orow.lt k e).1; omega)⟩
      have hKc : Kept w (Wb.setCell ⟨br, 15, none⟩ op2) base br op := hI.kept.step hBwb (fun k h1 h2 h3 _ => kp k (Nat.lt_of_lt_of_le h1 hI.kept.below.size) h2 (by rw [hI.own]; exact h3))
      have hszc : wr.heap.size < (Wb.setCell ⟨br, 15, none⟩ op2).heap.size := by simp at hsz2 ⊢; omega
      have hown : op2.ownBlock = op.ownBlock := hown2.trans hI.own
      have hfits := hI.fits
      generalize Wb.setCell ⟨br, 15, none⟩ op2 = Wc at hRc hB1 cB hcbc htwc hthc hOc hEc hKc hszc ⊢
      generalize wr.heap.size = B at hB1 cB hszc ⊢
      clear kp hBwb hO2 hg2 hown2 hRb hRa hacr hLr hI hOa hoB hBo hsz2 hobr hwb hbrl
      have c14 := hRc.c14
      have c4 := hcbc.c4
      have c6 := hcbc.c6
      have hq := run_quo48
      have hm := run_mul48
      have fc := fw_cell
      go_upto_region 4 with fail
      go_cut [4] from 25 to 43 (fun c wx => ∃ hb n, c = .float .f64 hb ∧ Fits (hopK (cf d) hop) hb ∧ wx = Wc.drewN n)
      case first =>
        go_region_held_law (fun w' => w'.cell? ⟨B, 0, none⟩ = some (.pointer (some ⟨bl d, 0, none⟩)) ∧ w'.cell? ⟨bl d, 4, none⟩ = some (.int .i64 (cf d).at_) ∧ w'.cell? ⟨bl d, 6, none⟩ = some (.int .i64 (cf d).last) ∧ w'.cell? ⟨br, 14, none⟩ = some (.int .i64 hop)) (go_keep)
          (first | (go_at_call 13; refine (round_any _ _ (fits_lt (fres_fits _ _ _ _))).mono ?_; rintro e w' ⟨rfl, rfl⟩))
        go_wp2_with fail
        go_meet
        case rel =>
          obtain ⟨n, en⟩ := fw3_drewN .quo .mul .quo _ _ _ _ _ _ Wc
          exact ⟨_, n, rfl, hop_fits (fres_fits _ _ _ _) (fres_fits _ _ _ _) (fres_fits _ _ _ _), en⟩
      case rest =>
        obtain ⟨hb, n, rfl, hfb, hwc⟩ := hcut
        have hRd : RB wc br now ev' hop op2 (.slice (some ⟨g, 0, none⟩) ds.length capd) := by rw [hwc]; exact hRc
        have cBd : wc.cell? ⟨B, 0, none⟩ = some (.pointer (some ⟨bl d, 0, none⟩)) := by rw [hwc]; exact cB
        have hBd : wc.heap[B]? = some (.cells #[.pointer (some ⟨bl d, 0, none⟩)] 57 (0, 0)) := by rw [hwc]; exact hB1
        have hcbd : CB wc (bl d) d (bw d) (bh d) (cf d).at_ (cf d).msgs (cf d).last (ln d) := by rw [hwc]; exact hcbc
        have htwd : TB wc (bw d) (cf d).waiter := by rw [hwc]; exact htwc
        have hthd : TB wc (bh d) (cf d).holder := by rw [hwc]; exact hthc
        have hOd : wc.ownsRow base 57 1 op2 ((openF bl ks ds t).filter fun k => !(bl k == bl d)).length (((openF bl ks ds t).filter fun k => !(bl k == bl d)).map (ptrK bl)) := by rw [hwc]; exact hOc
        have hEd : ERow wc base ev' (E0.length + t) (insN (fun j => ln (ds.getD j 0)) (fun j => evD now (cf (ds.getD j 0)) (h j)) E0 t).flatten := by rw [hwc]; exact hEc
        have hKd : Kept w wc base br op := by rw [hwc]; exact hKc.step ⟨rfl, rfl, rfl, Nat.le_refl _, fun _ _ => rfl⟩ (fun _ _ _ _ _ => rfl)
        have hszd : B < wc.heap.size := by rw [hwc]; exact hszc
        clear hRc hB1 cB hcbc htwc hthc hOc hEc hKc hszc c14 c4 c6 hq hm fc hwc
        have c3 := hRd.c3
        have c1 := hcbd.c1
        have c2 := hcbd.c2
        have c5 := hcbd.c5
        have n1 := htwd.c0
        have n2 := hthd.c0
        have l1 := hRd.lt
        have l2 := hcbd.lt
        have l3 := htwd.lt
        have l4 := hthd.lt
        go_upto_region 5 with fail
        go_region_held_law (fun w' => w'.cell? ⟨B, 0, none⟩ = some (.pointer (some ⟨bl d, 0, none⟩)) ∧ w'.cell? ⟨br, 3, none⟩ = some (.int .i64 now) ∧ w'.cell? ⟨bl d, 1, none⟩ = some (.pointer (some ⟨bw d, 0, none⟩)) ∧ w'.cell? ⟨bl d, 2, none⟩ = some (.pointer (some ⟨bh d, 0, none⟩)) ∧ w'.cell? ⟨bl d, 5, none⟩ = some (.int .i64 (cf d).msgs) ∧ w'.cell? ⟨bw d, 0, none⟩ = some (.string (cf d).waiter) ∧ w'.cell? ⟨bh d, 0, none⟩ = some (.string (cf d).holder)) (go_keep) (fail)
        have hev : Hid ((wc.alloc (.cells #[.int .i64 now, .string ⟨#[114, 101, 115, 111, 108, 118, 101, 100]⟩, .string (cf d).waiter, .string ⟨#[]⟩, .int .u8 0, .slice none 0 0, .bool false, .string ⟨#[]⟩, .string ⟨#[]⟩, .int .i64 0, .int .i64 0, .int .i64 (cf d).msgs, .float .f64 hb, .string (cf d).holder] 50)).drew.heap[wc.heap.size]? = some (.cells (evD now (cf d) hb).toArray 50 (0, 0))) := heap_alloc_new wc _
        have kp5 : ∀ k, k < wc.heap.size → (wc.alloc (.cells #[.int .i64 now, .string ⟨#[114, 101, 115, 111, 108, 118, 101, 100]⟩, .string (cf d).waiter, .string ⟨#[]⟩, .int .u8 0, .slice none 0 0, .bool false, .string ⟨#[]⟩, .string ⟨#[]⟩, .int .i64 0, .int .i64 0, .int .i64 (cf d).msgs, .float .f64 hb, .string (cf d).holder] 50)).drew.heap[k]? = wc.heap[k]? := fun k hk => Below.heap_alloc _ _ _ hk
        have hs5 : (wc.alloc (.cells #[.int .i64 now, .string ⟨#[114, 101, 115, 111, 108, 118, 101, 100]⟩, .string (cf d).waiter, .string ⟨#[]⟩, .int .u8 0, .slice none 0 0, .bool false, .string ⟨#[]⟩, .string ⟨#[]⟩, .int .i64 0, .int .i64 0, .int .i64 (cf d).msgs, .float .f64 hb, .string (cf d).holder] 50)).drew.heap.size = wc.heap.size + 1 := by simp
        have hb5 : Below wc.heap.size wc (wc.alloc (.cells #[.int .i64 now, .string ⟨#[114, 101, 115, 111, 108, 118, 101, 100]⟩, .string (cf d).waiter, .string ⟨#[]⟩, .int .u8 0, .slice none 0 0, .bool false, .string ⟨#[]⟩, .string ⟨#[]⟩, .int .i64 0, .int .i64 0, .int .i64 (cf d).msgs, .float .f64 hb, .string (cf d).holder] 50)).drew := ⟨rfl, rfl, rfl, by rw [hs5]; omega, kp5⟩
        generalize (wc.alloc (.cells #[.int .i64 now, .string ⟨#[114, 101, 115, 111, 108, 118, 101, 100]⟩, .string (cf d).waiter, .string ⟨#[]⟩, .int .u8 0, .slice none 0 0, .bool false, .string ⟨#[]⟩, .string ⟨#[]⟩, .int .i64 0, .int .i64 0, .int .i64 (cf d).msgs, .float .f64 hb, .string (cf d).holder] 50)).drew = We at hev kp5 hs5 hb5 ⊢
        have hRe : RB We br now ev' hop op2 (.slice (some ⟨g, 0, none⟩) ds.length capd) := hRd.kept (kp5 br l1)
        have cBe : We.cell? ⟨B, 0, none⟩ = some (.pointer (some ⟨bl d, 0, none⟩)) := (World.cell?_of_block (a := ⟨B, 0, none⟩) (kp5 B hszd)).trans cBd
        have hBe' : We.heap[B]? = some (.cells #[.pointer (some ⟨bl d, 0, none⟩)] 57 (0, 0)) := (kp5 B hszd).trans hBd
        have hcbe := hcbd.kept (kp5 (bl d) l2)
        have hOe : We.ownsRow base 57 1 op2 ((openF bl ks ds t).filter fun k => !(bl k == bl d)).length (((openF bl ks ds t).filter fun k => !(bl k == bl d)).map (ptrK bl)) := World.ownsRow.kept hOd (row := none) ⟨hb5.os, hb5.tape, hb5.output, hb5.size, fun k hk _ => kp5 k hk⟩ (by rcases hOd.2 with ⟨rfl, _⟩ | ⟨g, cap, cur, rfl, _⟩ <;> simp [Value.ownBlock])
        have hEe : ERow We base ev' (E0.length + t) (insN (fun j => ln (ds.getD j 0)) (fun j => evD now (cf (ds.getD j 0)) (h j)) E0 t).flatten := World.ownsRow.kept hEd (row := none) ⟨hb5.os, hb5.tape, hb5.output, hb5.size, fun k hk _ => kp5 k hk⟩ (by rcases hEd.2 with ⟨rfl, _⟩ | ⟨g, cap, cur, rfl, _⟩ <;> simp [Value.ownBlock])
        have hevb : ∀ b, ev'.ownBlock = some b → b < wc.heap.size := fun b e => (hEd.lt b e).2
        have hKe : Kept w We base br op := hKd.step (hb5.mono (Nat.le_trans hb0 hKd.below.size)) (fun k h1 _ _ _ => kp5 k (Nat.lt_of_lt_of_le h1 hKd.below.size))
        generalize hBe : wc.heap.size = be at hev hs5 hevb hszd l1 l2 ⊢
        clear hBe kp5 hb5 hRd hBd cBd hcbd htwd hthd hOd hEd hKd c3 c1 c2 c5 n1 n2 l3 l4
        have hev' := hev.out
        have hed : ∀ j u, (evD now (cf d) hb)[j]? = some u → We.cell? ⟨be, j, none⟩ = some u := fun j u hj => by rw [cell_of_row We be _ _ 50 (0, 0) hev']; simpa using hj
        have e0 := hed 0 _ rfl
        have e1 := hed 1 _ rfl
        have e2 := hed 2 _ rfl
        have e3 := hed 3 _ rfl
        have e4 := hed 4 _ rfl
        have e5 := hed 5 _ rfl
        have e6 := hed 6 _ rfl
        have e7 := hed 7 _ rfl
        have e8 := hed 8 _ rfl
        have e9 := hed 9 _ rfl
        have e10 := hed 10 _ rfl
        have e11 := hed 11 _ rfl
        have e12 := hed 12 _ rfl
        have e13 := hed 13 _ rfl
        have k4 := hRe.c4
        have k8 := hcbe.c8
        have hdl : ln d ≤ E0.length := hln d hdm
        have hn1 : ((ln d : Nat) : Int) + (t : Int) = ((ln d + t : Nat) : Int) := by omega
        clear hev' hed
        have hAt : AllEv (insN (fun j => ln (ds.getD j 0)) (fun j => evD now (cf (ds.getD j 0)) (h j)) E0 t) := hAll.insN (fun k => evC_ok _ _ _ _ _ _) t
        have hlt14 : (insN (fun j => ln (ds.getD j 0)) (fun j => evD now (cf (ds.getD j 0)) (h j)) E0 t).length = E0.length + t := insN_length _ _ _ _
        have hSz : be < We.heap.size := by rw [hs5]; omega
        have hrx : ERow (We.alloc (.cells (evD now (cf d) hb).toArray 50)).drew base ev' (E0.length + t) (insN (fun j => ln (ds.getD j 0)) (fun j => evD now (cf (ds.getD j 0)) (h j)) E0 t).flatten := hEe.alloc _
        have hins := insert_any base We.heap.size (E0.length + t) (ln d + t) ev' _ (evD now (cf d) hb) (We.alloc (.cells (evD now (cf d) hb).toArray 50)).drew hrx (by have := hKe.below.size; simp; omega) (by omega) (fun b e => by have := (hEe.lt b e).2; omega) (heap_alloc_new We _) rfl (evC_ok _ _ _ _ _ _).2 hAt.flat (by omega)
        rw [← hn1, hs5] at hins
        have HI : Hid _ := hins
        clear hins hrx hAt hn1
        have nbB : br ≠ B := (type_ne hBe' hRe (by decide)).symm
        have nbd : br ≠ bl d := (type_ne hcbe hRe (by decide)).symm
        have nbe : br ≠ be := by omega
        have evB : ev'.ownBlock ≠ some B := own_ne hEe hBe' (by decide)
        have evd : ev'.ownBlock ≠ some (bl d) := own_ne hEe hcbe (by decide)
        have evr : ev'.ownBlock ≠ some br := own_ne hEe hRe (by decide)
        have eve : ev'.ownBlock ≠ some be := fun e => by have := hevb be e; omega
        have lbr : br < We.heap.size := by omega
        have lB : B < We.heap.size := by omega
        have lbd : bl d < We.heap.size := by omega
        have k4f := hRe.fr 4
        have hgd : ds.getD t 0 = d := by simp [List.getD, hd]
        have hq4 : ∀ W3 : World, (We.alloc (.cells (evD now (cf d) hb).toArray 50)).drew.grownBy W3 ev'.ownBlock → W3.cell? ⟨br, 4, none⟩ = some ev' ∧ W3.frozen? ⟨br, 4, none⟩ = false := fun W3 hg => by
          have hR3 := (hRe.kept (Below.heap_alloc We (.cells (evD now (cf d) hb).toArray 50) br lbr)).kept (hg.block br (by simp; omega) (fun e => evr e.symm))
          exact ⟨hR3.c4, hR3.fr 4⟩
        have HR : ∀ v3 W3, (We.alloc (.cells (evD now (cf d) hb).toArray 50)).drew.grownBy W3 ev'.ownBlock → ERow W3 base v3 (E0.length + t + 1) (insC (insN (fun j => ln (ds.getD j 0)) (fun j => evD now (cf (ds.getD j 0)) (h j)) E0 t).flatten (ln d + t) (evD now (cf d) hb)) → Hid (RInv w (W3.setCell ⟨br, 4, none⟩ v3) base br bl cf ln ds ks E0 now hop op (.slice (some ⟨g, 0, none⟩) ds.length capd) (t + 1) v3 op2 (fun j => if j = t then hb else h j)) :=
          fun v3 W3 hg hE3 => res_next hRe hown hKe hfits hfb hEe hOe hAll hd hdl hbr hg hE3
        have hwrp : IntKind.i64.wrap ((ln d : Int) + (t : Int)) = (ln d : Int) + (t : Int) := by rw [IntKind.wrap_i64]; omega
        go_upto_region 6 with fail
        clear hcd hA hln hE hR hO hL hAll hfits hKe hOe hcbe hac hgc hEe hRe hown hfb evB evd eve nbd evr hBe'
        go_region_with (first | (go_at_call 22; refine Calls.mono HI.out ?_; rintro e W3 ⟨v3, rfl, hE3, hg3⟩; have hr3 := HR _ _ hg3 hE3; obtain ⟨q4, q4f⟩ := hq4 _ hg3; obtain ⟨a3, c3, rfl⟩ := own_shape hE3))
        all_goals
          go_wp2_with fail
          go_roundw
          case rel => exact ⟨t + 1, by omega, by simp, _, _, _, hr3.out⟩
          case measure => simp [intOf]; omega
    · obtain rfl : t = ds.length := by omega
      have h16 := hI.rb.c16
      have h16f := hI.rb.fr 16
      rcases had with ⟨rfl, h0, rfl⟩ | ⟨g, rfl, h1, h2⟩
      · go_wp2_with fail
        go_returns
        exact ⟨rfl, ev', op', _, h, res_out _ hbr hI, _, _, rfl⟩
      · go_wp2_with fail
        go_returns
        exact ⟨rfl, ev', op', _, h, res_out _ hbr hI, _, _, rfl⟩

end Go.Proofs.Ybulkehxo
