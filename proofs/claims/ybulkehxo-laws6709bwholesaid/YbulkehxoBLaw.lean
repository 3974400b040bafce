/-
  THE WALK of LawS6709BWhole.
-/
import Derived.Test.YbulkehxoBState
import Derived.Deep.DeepCutAuto
namespace Go.Proofs.Ybulkehxo
open Go.RowKit

set_option maxHeartbeats 400000 in
set_option maxRecDepth 100000 in
theorem law_long (a0 a1 : Int) (a2 : Option Addr) (len2 cap2 : Nat) (a3 a4 : Bool) (a5 a6 : Int) (a7 : Bool) (a8 : Option Addr) (len8 cap8 : Nat) (a9 : Bool) (a10 : Option Addr) (len10 cap10 : Nat) (w : World)
    (h2 : len2 ≤ 140737488355328) (h8 : len8 ≤ 140737488355328) (h10 : len10 ≤ 140737488355328) (hs : 65536 < len2 + len8 + len10) :
    Calls Yba.prog 3 #[.int .u8 a0, .int .u8 a1, .slice a2 len2 cap2, .bool a3, .bool a4, .int .u64 a5, .int .u64 a6, .bool a7, .slice a8 len8 cap8, .bool a9, .slice a10 len10 cap10] w fun e w' => e = .returned (.bool true) ∧ Below w.heap.size w w' := by
  go_enter Yba.func3, Yba.ntmps3
  go_wp2
  go_ret
  exact ⟨rfl, Below.refl _ _⟩

set_option maxHeartbeats 8000000 in
set_option maxRecDepth 100000 in
theorem law_main (a0 a1 : Int) (a2 : Option Addr) (len2 cap2 : Nat) (z2 : List Int) (a3 a4 : Bool) (a5 a6 : Int) (a7 : Bool) (a8 : Option Addr) (len8 cap8 : Nat) (z8 : List Int) (a9 : Bool) (a10 : Option Addr) (len10 cap10 : Nat) (z10 : List Int) (w : World)
    (b0 : 0 ≤ a0 ∧ a0 ≤ 255) (b1 : 0 ≤ a1 ∧ a1 ≤ 255) (b5 : 0 ≤ a5) (w2 : IsRow .u8 w a2 len2 cap2 z2) (w8 : IsRow .u8 w a8 len8 cap8 z8) (w10 : IsRow .u8 w a10 len10 cap10 z10) (hs : len2 + len8 + len10 ≤ 65536) :
    Calls Yba.prog 3 #[.int .u8 a0, .int .u8 a1, .slice a2 len2 cap2, .bool a3, .bool a4, .int .u64 a5, .int .u64 a6, .bool a7, .slice a8 len8 cap8, .bool a9, .slice a10 len10 cap10] w fun e w' => e = .returned (.bool true) ∧ Below w.heap.size w w' := by
  obtain ⟨i24, hi24, hz0, hz1, hz2⟩ := info_parts info24
  obtain ⟨i27, hi27, hy0z, hy1z, hy2z⟩ := info_parts info27
  go_enter Yba.func3, Yba.ntmps3
  go_wp2_with fail
  have t0 : 0 ≤ a0 % 8 ∧ a0 % 8 < 8 := by omega
  have t1 : 0 ≤ a1 % 8 ∧ a1 % 8 < 8 := by omega
  generalize a0 % 8 = ti at t0 ⊢
  generalize a1 % 8 = bi at t1 ⊢
  refine (bmap_any a2 len2 cap2 z2 w w2 (by omega)).mono ?_
  rintro e w1 ⟨rfl, hr1, hg1⟩
  have hsz1 := hg1.size
  have hl2 : (m8 z2 len2).length = len2 := by
    rcases w2 with ⟨_, rfl, _, rfl⟩ | ⟨_, _, h1, _, h3, _⟩
    · rfl
    · exact m8_length (by omega)
  generalize m8 z2 len2 = hw at hr1 hl2
  have hb1 : Below w.heap.size w w1 := (Below.refl _ _).grown hg1 (Nat.le_refl _) (by simp)
  go_wp2_with (at_make; refine wpList_make_own _ rfl _ _ 25 rfl w1.heap.size 24 i24 (.int .i64 0) 1 Yba.underlying25 hi24 hz0 hz1 .i64 .i64 _ len2 rfl rfl rfl (by rw [hz2]; omega) (by unfold maxLen; omega) (Nat.le_refl _) ?_; intro w3 ho3 hg3)
  have HE0 := ex_zero hw ti
  go_loopw [26, 27, 74] (fun v r i wr => ∃ k : Nat, k ≤ len2 ∧ i = .int .i64 k ∧ r = .bool (seenB hw ti k) ∧ v = .slice (some ⟨w1.heap.size, 0, none⟩) (ex hw ti k).length len2 ∧ IRow wr w1.heap.size (.slice (some ⟨w1.heap.size, 0, none⟩) (ex hw ti k).length len2) (ex hw ti k) ∧ w1.grownBy wr none)
    (fun _ _ i _ => len2 - (intOf i).toNat)
  case atStart => exact ⟨0, Nat.zero_le _, rfl, by rw [HE0.2], by rw [HE0.1]; rfl, by rw [HE0.1]; exact ho3, hg3⟩
  clear HE0 ho3 hg3
  case round =>
    obtain ⟨k, hk, rfl, rfl, rfl, ho, hg⟩ := hrel
    by_cases hlt : k < len2
    · obtain ⟨y, hy⟩ := getS (ns := hw) (k := k) (by omega)
      have hcx : wr.cell? ⟨w.heap.size, k, none⟩ = some (.int .i64 y) := by
        rw [← hl2] at hr1
        exact hg.cell (hr1.at hy) (by simp)
      have hle := ex_le hw ti k
      have Hy : Hid (hw[k]? = some y) := hy
      clear hy
      cases hsn : seenB hw ti k with
      | true =>
        have HE : Hid (ex hw ti (k + 1) = ex hw ti k ++ [y] ∧ seenB hw ti (k + 1) = true) := ex_seen Hy.out hsn
        go_wp2_with (first | (at_builtin; refine wpList_append_fits _ rfl _ _ 25 rfl w1.heap.size 24 i24 1 Yba.underlying25 hi24 hz1 w1.heap.size (ex hw ti k).length len2 _ rfl (World.ownsRow.alloc ho _) ⟨wr.heap.size, 0, none⟩ 1 1 [.int .i64 y] rfl rfl (cell_one_new _ _ _) (ints_oneCell .i64 [y]) (by omega) ?_; intro w5 ho5 hg5) | go_in)
        go_roundw
        case rel => exact ex_rel hlt HE.out hg ho5 hg5
        case measure => simp [intOf]; omega
      | false =>
        by_cases hyt : y = ti
        · subst hyt
          have HE : Hid (ex hw y (k + 1) = ex hw y k ∧ seenB hw y (k + 1) = true) := ex_hit Hy.out hsn
          go_wp2
          go_roundw
          case rel => exact ⟨k + 1, by omega, by go_num, by rw [HE.out.2], by rw [HE.out.1], by rw [HE.out.1]; exact ho, hg⟩
          case measure => simp [intOf]; omega
        · have HE : Hid (ex hw ti (k + 1) = ex hw ti k ++ [y] ∧ seenB hw ti (k + 1) = false) := ex_miss Hy.out hyt hsn
          have hyb : (y == ti) = false := beq_eq_false_iff_ne.2 hyt
          go_wp2_with (first | (at_builtin; refine wpList_append_fits _ rfl _ _ 25 rfl w1.heap.size 24 i24 1 Yba.underlying25 hi24 hz1 w1.heap.size (ex hw ti k).length len2 _ rfl (World.ownsRow.alloc ho _) ⟨wr.heap.size, 0, none⟩ 1 1 [.int .i64 y] rfl rfl (cell_one_new _ _ _) (ints_oneCell .i64 [y]) (by omega) ?_; intro w5 ho5 hg5) | go_in)
          go_roundw
          case rel => exact ex_rel hlt HE.out hg ho5 hg5
          case measure => simp [intOf]; omega
    · have hkl : k = len2 := by omega
      rw [ex_all hw ti (by omega)] at ho ⊢
      clear hkl
      obtain ⟨xs, hxs⟩ : ∃ xs, xs = hw.erase ti := ⟨_, rfl⟩
      rw [← hxs] at ho ⊢
      have Hxs : Hid (xs = hw.erase ti) := hxs
      clear hxs
      obtain ⟨gone, hgone⟩ : ∃ gone : Bool, gone = (!a3 && xs.length == 0) := ⟨_, rfl⟩
      have Hgone : Hid (gone = (!a3 && xs.length == 0)) := hgone
      clear hgone
      go_upto_region 15 with fail
      go_cut [30] from 90 to 96 (fun c wx => c = .bool gone ∧ wx = wr)
      case first =>
        cases a3 with
        | true =>
          go_wp2_with fail
          go_meet
          case rel => exact ⟨by rw [Hgone.out]; rfl, rfl⟩
        | false =>
          go_wp2_with fail
          go_meet
          case rel => exact ⟨by rw [Hgone.out, len0]; rfl, rfl⟩
      case rest =>
        obtain ⟨rfl, rfl⟩ := hcut
        go_wp2_with fail
        have hbA : Below w.heap.size w (wc.alloc (.cells #[.int .i64 (a5 % 8), .int .u64 a5, .bool a3, .slice (some ⟨w.heap.size, 0, none⟩) len2 len2, .bool a4] 29)) := (hb1.grown hg hsz1 (by simp)).alloc (by have := hg.size; omega) _
        have hA0 : WB (wc.alloc (.cells #[.int .i64 (a5 % 8), .int .u64 a5, .bool a3, .slice (some ⟨w.heap.size, 0, none⟩) len2 len2, .bool a4] 29)) wc.heap.size (a5 % 8) a5 a3 (.slice (some ⟨w.heap.size, 0, none⟩) len2 len2) a4 := heap_alloc_new _ _
        have hrA : IRow (wc.alloc (.cells #[.int .i64 (a5 % 8), .int .u64 a5, .bool a3, .slice (some ⟨w.heap.size, 0, none⟩) len2 len2, .bool a4] 29)) w.heap.size (.slice (some ⟨w.heap.size, 0, none⟩) len2 len2) hw := World.ownsRow.alloc (World.ownsRow.kept hr1 hg (.inr (by simp [Value.ownBlock]))) _
        have hoA : IRow (wc.alloc (.cells #[.int .i64 (a5 % 8), .int .u64 a5, .bool a3, .slice (some ⟨w.heap.size, 0, none⟩) len2 len2, .bool a4] 29)) w1.heap.size (.slice (some ⟨w1.heap.size, 0, none⟩) xs.length len2) xs := World.ownsRow.alloc ho _
        have hsA : wc.heap.size < (wc.alloc (.cells #[.int .i64 (a5 % 8), .int .u64 a5, .bool a3, .slice (some ⟨w.heap.size, 0, none⟩) len2 len2, .bool a4] 29)).heap.size := by simp
        have hlt1 : w.heap.size < wc.heap.size ∧ w1.heap.size < wc.heap.size ∧ w.heap.size < w1.heap.size := ⟨Nat.lt_of_lt_of_le (hr1.lt) hg.size, ho.lt, hr1.lt⟩
        generalize wc.alloc (.cells #[.int .i64 (a5 % 8), .int .u64 a5, .bool a3, .slice (some ⟨w.heap.size, 0, none⟩) len2 len2, .bool a4] 29) = wA at hbA hA0 hrA hoA hsA ⊢
        clear ho hr1 hg hb1 hg1 hlt
        generalize wc.heap.size = bh at hA0 hsA hlt1 ⊢
        refine (bmap_any a8 len8 cap8 z8 wA (w8.below hbA) (by omega)).mono ?_
        rintro e wB ⟨rfl, hrB, hgB⟩
        go_wp2_with fail
        have hlB : wA.heap.size < wB.heap.size := hrB.lt
        have hl8 : (m8 z8 len8).length = len8 := by
          rcases w8 with ⟨_, rfl, _, rfl⟩ | ⟨_, _, h1, _, h3, _⟩
          · rfl
          · exact m8_length (by omega)
        obtain ⟨ns8, hns8⟩ : ∃ ns8, ns8 = m8 z8 len8 := ⟨_, rfl⟩
        rw [← hns8] at hrB hl8
        have Hns8 : Hid (ns8 = m8 z8 len8) := hns8
        clear hns8
        generalize hoC : Obj.cells #[.int .i64 bi, .int .u64 a6, .bool true, .slice (some ⟨wA.heap.size, 0, none⟩) len8 len8, .bool a7] 29 = oC
        have hwC : WB (wB.alloc oC) wB.heap.size bi a6 true (.slice (some ⟨wA.heap.size, 0, none⟩) len8 len8) a7 := by rw [← hoC]; exact heap_alloc_new _ _
        clear hoC
        have hbC : Below w.heap.size w (wB.alloc oC) := (hbA.grown hgB hbA.size (by simp)).alloc (by have := hbA.size; have := hgB.size; omega) _
        have hhC : WB (wB.alloc oC) bh (a5 % 8) a5 a3 (.slice (some ⟨w.heap.size, 0, none⟩) len2 len2) a4 := (hA0.kept (hgB.block bh hsA (by simp))).kept (Below.heap_alloc _ _ _ (by omega))
        have hrC : IRow (wB.alloc oC) w.heap.size (.slice (some ⟨w.heap.size, 0, none⟩) len2 len2) hw := World.ownsRow.alloc (World.ownsRow.kept hrA hgB (.inr (by simp [Value.ownBlock]))) _
        have hxC : IRow (wB.alloc oC) w1.heap.size (.slice (some ⟨w1.heap.size, 0, none⟩) xs.length len2) xs := World.ownsRow.alloc (World.ownsRow.kept hoA hgB (.inr (by simp [Value.ownBlock]))) _
        have h8C : IRow (wB.alloc oC) wA.heap.size (.slice (some ⟨wA.heap.size, 0, none⟩) len8 len8) ns8 := World.ownsRow.alloc hrB _
        have hsC : wB.heap.size < (wB.alloc oC).heap.size := by simp
        generalize wB.alloc oC = wC at hwC hbC hhC hrC hxC h8C hsC ⊢
        generalize wB.heap.size = bw at hlB hwC hsC ⊢
        generalize wA.heap.size = g8 at hlB hsA hwC h8C ⊢
        generalize w1.heap.size = gx at hsz1 hlt1 hxC ⊢
        clear hbA hA0 hrA hoA hgB hrB
        refine (newc_any wC).mono ?_
        rintro e wD ⟨rfl, o, rfl⟩
        have hbw : (Lit.int .i64 bi).wf = true := WalkArith.wf_i64 (by omega)
        have htw : (Lit.int .i64 ti).wf = true := WalkArith.wf_i64 (by omega)
        have hkD : KMap (((wC.alloc o).alloc (.map #[] 0)).alloc (.cells #[.int .i64 5, .map (some (wC.heap.size + 1)), .slice none 0 0] 35)) (wC.heap.size + 1) (fun _ => none) 0 := by
          have h := KMap.made (wC.alloc o)
          simp only [World.size_alloc] at h
          exact h.kept (Below.heap_alloc _ _ _ (by simp))
        obtain ⟨wE, hrunE, hkE, hgE⟩ := hkD.store bi hbw bh (by unfold maxLen; omega)
        have hkE : KMap wE (wC.heap.size + 1) (upd (fun _ => none) bi (some bh)) 1 := hkE
        have hcE : CB wE (wC.heap.size + 1 + 1) (wC.heap.size + 1) (.slice none 0 0) := by
          have h := heap_alloc_new ((wC.alloc o).alloc (.map #[] 0)) (.cells #[.int .i64 5, .map (some (wC.heap.size + 1)), .slice none 0 0] 35)
          simp only [World.size_alloc] at h
          exact CB.kept h (hgE.block _ (by simp) (by simp))
        have hsE : wC.heap.size + 1 + 1 < wE.heap.size := hcE.lt
        have keepE : ∀ b, b < wC.heap.size → wE.heap[b]? = wC.heap[b]? := fun b hb => by
          rw [hgE.block b (by simp; omega) (by simp; omega), Below.heap_alloc _ _ _ (by simp; omega), Below.heap_alloc _ _ _ (by simp; omega), Below.heap_alloc _ _ _ hb]
        have hbE : Below w.heap.size w wE := (((hbC.alloc hbC.size _).alloc (by have := hbC.size; simp; omega) _).alloc (by have := hbC.size; simp; omega) _).grown hgE (by have := hbC.size; simp; omega) (by have := hbC.size; simp; omega)
        clear hkD hgE
        go_wp2_with fail
        have hwE := hwC.kept (keepE _ hsC)
        have hhE := hhC.kept (keepE _ hhC.lt)
        have hrE := hrC.kept (keepE _ hrC.lt)
        have hxE := hxC.kept (keepE _ hxC.lt)
        have h8E := h8C.kept (keepE _ h8C.lt)
        have hcm : wC.heap.size ≤ wC.heap.size + 1 := by omega
        have hcm2 : wC.heap.size + 1 < wC.heap.size + 1 + 1 := by omega
        clear hrunE keepE hwC hhC hrC hxC h8C hbC
        generalize wC.heap.size + 1 + 1 = bc at hcE hsE hcm2 ⊢
        generalize wC.heap.size + 1 = bm at hkE hcE hcm hcm2 ⊢
        generalize wC.heap.size = sC at hsC hcm
        go_loopw [35, 36, 121] (fun v35 v36 i wr => ∃ k : Nat, k ≤ len10 ∧ i = .int .i64 k ∧ ∃ kv, Oth wE wr bm bh bi kv v35 v36 ∧ kv.length ≤ k ∧ (a9 = true → ti ∉ kv.map (·.1)))
          (fun _ _ i _ => len10 - (intOf i).toNat)
        case atStart => exact ⟨0, Nat.zero_le _, rfl, [], Oth.start hkE, Nat.le_refl _, fun _ => by simp⟩
        case round =>
          obtain ⟨k, hk, rfl, kv, hO, hkv, hti⟩ := hrel
          by_cases hlt : k < len10
          · obtain ⟨x, rfl, y, hcx, hy0⟩ : ∃ x, a10 = some x ∧ ∃ y, wr.cell? (x.add k) = some (.int .u8 y) ∧ 0 ≤ y ∧ y ≤ 255 := by
              rcases w10 with ⟨_, h0, _⟩ | ⟨x, rfl, h1, h2, h3, h4, h5⟩
              · omega
              · have hc0 := h4 k (by omega)
                have hbwr : Below w.heap.size w wr := hbE.trans (hO.but.below (B := w.heap.size) hbE.size (by simp; omega))
                exact ⟨x, rfl, _, (hbwr.cell (World.block_lt_of_cell? _ _ hc0)).trans hc0, by have := range_u8 h5 k; simpa using this⟩
            have hy8 : 0 ≤ y % 8 ∧ y % 8 < 8 := by omega
            obtain ⟨ks, hks⟩ : ∃ ks, ks = kv.map (·.1) := ⟨_, rfl⟩
            have hr35 := hO.r35
            rw [← hks] at hr35
            have hkl : ks.length ≤ 65536 := by rw [hks]; simp; omega
            have Hks : Hid (ks = kv.map (·.1)) := hks
            have Hti : Hid (a9 = true → ti ∉ kv.map (·.1)) := hti
            clear hks hti
            by_cases hyb : y % 8 = bi
            · have hyb' : (y % 8 == bi) = true := by simp [hyb]
              have HYB : Hid (y % 8 = bi) := hyb
              clear hyb
              go_wp2
              go_roundw
              case rel => exact ⟨k + 1, by omega, by go_num, kv, hO, by omega, Hti.out⟩
              case measure => simp [intOf]; omega
            · have hyb' : (y % 8 == bi) = false := beq_eq_false_iff_ne.2 hyb
              have HYB : Hid (y % 8 ≠ bi) := hyb
              clear hyb
              by_cases hin : y % 8 ∈ ks
              · have hin' : decide (y % 8 ∈ ks) = true := decide_eq_true hin
                clear hin
                go_wp2_with (go_at_call 7; refine (contains_any _ wE.heap.size ks _ _ hr35 (by omega)).mono ?_; rintro e w' ⟨rfl, rfl⟩)
                go_roundw
                case rel => exact ⟨k + 1, by omega, by go_num, kv, hO, by omega, Hti.out⟩
                case measure => simp [intOf]; omega
              · have hin' : decide (y % 8 ∈ ks) = false := decide_eq_false hin
                have HIN : Hid (y % 8 ∉ kv.map (·.1)) := by rw [← Hks.out]; exact hin
                clear hin
                have HFR : Hid (fOf (upd (fun _ => none) bi (some bh)) kv (y % 8) = none) := hO.free HYB.out HIN.out
                have hlen := hO.map.lt
                have hcr : CB wr bc bm (.slice none 0 0) := hcE.kept (hO.but.block bc hcE.lt (by simp; omega))
                have d1 := hcr.c1
                have hbcl := hcr.lt
                have hn1 : kv.length + 1 < maxLen := by unfold maxLen; omega
                have hkw : (Lit.int .i64 (y % 8)).wf = true := WalkArith.wf_i64 (by omega)
                have hsr := hO.but.size
                cases a9 with
                | true =>
                  by_cases hyt : y % 8 = ti
                  · have hyt' : (y % 8 == ti) = true := by simp [hyt]
                    clear hyt
                    go_wp2_with (go_at_call 7; refine (contains_any _ wE.heap.size ks _ _ hr35 (by omega)).mono ?_; rintro e w' ⟨rfl, rfl⟩)
                    go_roundw
                    case rel => exact ⟨k + 1, by omega, by go_num, kv, hO, by omega, Hti.out⟩
                    case measure => simp [intOf]; omega
                  · have hyt' : (y % 8 == ti) = false := beq_eq_false_iff_ne.2 hyt
                    have HT : Hid (true = true → ti ∉ (kv ++ [(y % 8, wr.heap.size)]).map (·.1)) := fun h => by simp only [List.map_append, List.map_cons, List.map_nil, List.mem_append, List.mem_singleton, not_or]; exact ⟨Hti.out h, fun e => hyt e.symm⟩
                    clear hyt
                    go_wp2_with (first
                      | (go_at_call 7; refine (contains_any _ wE.heap.size ks _ _ hr35 (by omega)).mono ?_; rintro e w' ⟨rfl, rfl⟩)
                      | (at_mapUpdate; refine wpList_store_k _ rfl _ _ _ rfl bm (kv.length + 1) _ rfl (hO.mapAlloc _) hn1 (y % 8) hkw _ HFR.out rfl rfl ?_; intro w2' hk2 hg2)
                      | (at_builtin; refine wpList_append_own _ rfl (.tmp 152) (.tmp 154) 25 rfl wE.heap.size 24 i24 (.int .i64 0) 1 8 Yba.underlying25 hi24 hz0 hz1 hz2 rfl (by decide) _ _ _ rfl (World.ownsRow.alloc (hO.later35 hg2) _) ⟨w2'.heap.size, 0, none⟩ 1 1 [.int .i64 (y % 8)] rfl rfl (cell_one_new _ _ _) (ints_oneCell .i64 [y % 8]) (by unfold maxLen; simp; omega) (by simp; omega) (by have := hg2.size; simp at this ⊢; omega) ?_; intro v35' w3' h35' hg3' _)
                      | (at_builtin; refine wpList_append_own _ rfl (.tmp 156) (.tmp 158) 31 rfl wE.heap.size 27 i27 (.pointer none) 1 8 Yba.underlying31 hi27 hy0z hy1z hy2z rfl (by decide) _ _ _ rfl (World.ownsRow.alloc (hO.later36 hg2 hg3') _) ⟨w3'.heap.size, 0, none⟩ 1 1 [.pointer (some ⟨w'.heap.size, 0, none⟩)] rfl rfl (cell_one_new _ _ _) (by intro u hu; simp at hu; subst hu; rfl) (by unfold maxLen; simp; omega) (by simp; omega) (by have := hg2.size; have := hg3'.size; simp at *; omega) ?_; intro v36' w4' h36' hg4' _))
                    go_roundw
                    case rel => exact ⟨k + 1, by omega, by go_num, kv ++ [(y % 8, w'.heap.size)], hO.step (by omega) (by omega) HIN.out HYB.out _ _ hk2 hg2 h35' hg3' h36' hg4', by simp; omega, HT.out⟩
                    case measure => simp [intOf]; omega
                | false =>
                  have HT : Hid (false = true → ti ∉ (kv ++ [(y % 8, wr.heap.size)]).map (·.1)) := fun h => by cases h
                  go_wp2_with (first
                    | (go_at_call 7; refine (contains_any _ wE.heap.size ks _ _ hr35 (by omega)).mono ?_; rintro e w' ⟨rfl, rfl⟩)
                    | (at_mapUpdate; refine wpList_store_k _ rfl _ _ _ rfl bm (kv.length + 1) _ rfl (hO.mapAlloc _) hn1 (y % 8) hkw _ HFR.out rfl rfl ?_; intro w2' hk2 hg2)
                    | (at_builtin; refine wpList_append_own _ rfl (.tmp 152) (.tmp 154) 25 rfl wE.heap.size 24 i24 (.int .i64 0) 1 8 Yba.underlying25 hi24 hz0 hz1 hz2 rfl (by decide) _ _ _ rfl (World.ownsRow.alloc (hO.later35 hg2) _) ⟨w2'.heap.size, 0, none⟩ 1 1 [.int .i64 (y % 8)] rfl rfl (cell_one_new _ _ _) (ints_oneCell .i64 [y % 8]) (by unfold maxLen; simp; omega) (by simp; omega) (by have := hg2.size; simp at this ⊢; omega) ?_; intro v35' w3' h35' hg3' _)
                    | (at_builtin; refine wpList_append_own _ rfl (.tmp 156) (.tmp 158) 31 rfl wE.heap.size 27 i27 (.pointer none) 1 8 Yba.underlying31 hi27 hy0z hy1z hy2z rfl (by decide) _ _ _ rfl (World.ownsRow.alloc (hO.later36 hg2 hg3') _) ⟨w3'.heap.size, 0, none⟩ 1 1 [.pointer (some ⟨w'.heap.size, 0, none⟩)] rfl rfl (cell_one_new _ _ _) (by intro u hu; simp at hu; subst hu; rfl) (by unfold maxLen; simp; omega) (by simp; omega) (by have := hg2.size; have := hg3'.size; simp at *; omega) ?_; intro v36' w4' h36' hg4' _))
                  go_roundw
                  case rel => exact ⟨k + 1, by omega, by go_num, kv ++ [(y % 8, w'.heap.size)], hO.step (by omega) (by omega) HIN.out HYB.out _ _ hk2 hg2 h35' hg3' h36' hg4', by simp; omega, HT.out⟩
                  case measure => simp [intOf]; omega
          · have hEn := hO.toEnt
            have hkF := hO.map
            have hbr : But [bm] wE wr := hO.but
            obtain ⟨F, hF⟩ : ∃ F, F = fOf (upd (fun _ => none) bi (some bh)) kv := ⟨_, rfl⟩
            rw [← hF] at hkF
            have HFbi : Hid (F bi = some bh) := by rw [hF]; show _ = _; rw [fOf_out kv _ hO.nbi, upd_same]
            have HFti : Hid (a9 = true → ti ≠ bi → F ti = none) := fun h1 h2 => by rw [hF, fOf_out kv _ (hti h1), upd_other _ _ h2]
            have HFkv : Hid (∀ p, p ∈ kv → F p.1 = some p.2 ∧ p.1 ≠ bi ∧ (a9 = true → p.1 ≠ ti)) := fun p hp => by
              refine ⟨?_, fun e => hO.nbi (List.mem_map.2 ⟨p, hp, e⟩), fun h1 e => hti h1 (List.mem_map.2 ⟨p, hp, e⟩)⟩
              rw [hF]
              exact fOf_in kv _ hO.nodup hp
            have Hti : Hid (a9 = true → ti ∉ kv.map (·.1)) := hti
            clear hF hO hti
            obtain ⟨wk, hwk⟩ : ∃ wk : Bool, wk = (a9 && (ti != bi)) := ⟨_, rfl⟩
            have Hwk : Hid (wk = (a9 && (ti != bi))) := hwk
            clear hwk
            go_upto_region 33 with fail
            go_cut [41] from 161 to 166 (fun c wx => c = .bool wk ∧ wx = wr)
            case first =>
              cases a9 with
              | false =>
                go_wp2_with fail
                go_meet
                case rel => exact ⟨by rw [Hwk.out]; rfl, rfl⟩
              | true =>
                by_cases hne : ti = bi
                · have hnb : (ti != bi) = false := by simp [hne]
                  clear hne
                  go_wp2_with fail
                  go_meet
                  case rel => exact ⟨by rw [Hwk.out, hnb]; rfl, rfl⟩
                · have hnb : (ti != bi) = true := by simpa using hne
                  clear hne
                  go_wp2_with fail
                  go_meet
                  case rel => exact ⟨by rw [Hwk.out, hnb]; rfl, rfl⟩
            case rest =>
              obtain ⟨rfl, hwc⟩ := hcut
              have hwc' := hwc.symm
              clear hwc
              subst hwc'
              go_upto_if 167 with fail
              go_cut [171] from 168 to 171 (fun _ wx => KMap wx bm (fKnown F ti bw wk) (nKnown (kv.length + 1) wk) ∧ wr.grownBy wx (some bm))
              case first =>
                have hcr : CB wr bc bm (.slice none 0 0) := hcE.kept (hbr.block bc hcE.lt (by simp; omega))
                have d1 := hcr.c1
                cases wk with
                | false =>
                  go_wp2_with fail
                  go_meet
                  case rel => exact ⟨hkF, World.grownBy.refl _ _⟩
                | true =>
                  obtain ⟨h9, hne⟩ : a9 = true ∧ (ti != bi) = true := by have := Hwk.out; simpa using this.symm
                  have hne' : ti ≠ bi := by simpa using hne
                  have HN : Hid (F ti = none) := HFti.out h9 hne'
                  go_wp2_with (at_mapUpdate; refine wpList_store_k _ rfl _ _ _ rfl bm (kv.length + 1) F rfl hkF (by unfold maxLen; omega) ti htw bw HN.out rfl rfl ?_; intro w2' hk2 hg2)
                  go_meet
                  case rel => exact ⟨hk2, hg2⟩
              case rest =>
                obtain ⟨hkG, hgG⟩ := hcut
                have keepW : ∀ b, b < wE.heap.size → b ≠ bm → wc.heap[b]? = wE.heap[b]? := fun b h1 h2 => (hgG.block b (Nat.lt_of_lt_of_le h1 hbr.size) (by simpa using h2)).trans (hbr.block b h1 (by simpa using h2))
                have hEn1 : Ent wE.heap.size wc kv u35 u36 := hEn.kept (fun b h1 h2 => hgG.block b h2 (by simp; omega))
                have hh1 := hhE.kept (keepW bh hhE.lt (by omega))
                have hw1 := hwE.kept (keepW bw hwE.lt (by omega))
                have hc1 := hcE.kept (keepW bc hcE.lt (by omega))
                have hr1 := hrE.kept (keepW _ hrE.lt (by omega))
                have hx1 := hxE.kept (keepW _ hxE.lt (by omega))
                have h81 := h8E.kept (keepW _ h8E.lt (by omega))
                have hb1 : Below w.heap.size w wc := ((hbE.trans (hbr.below (B := w.heap.size) hbE.size (by simp; omega)))).grown hgG (by have := hbE.size; have := hbr.size; omega) (by simp; omega)
                have hEs : wE.heap.size ≤ wc.heap.size := Nat.le_trans hbr.size hgG.size
                have hfk : fKnown F ti bw wk bi = some bh := by
                  unfold fKnown
                  cases wk with
                  | false => exact HFbi.out
                  | true =>
                    have := Hwk.out
                    have hne : ti ≠ bi := by simp at this; exact this.2
                    show upd F ti (some bw) bi = some bh
                    rw [upd_other _ _ (fun e => hne e.symm)]
                    exact HFbi.out
                have HFK : Hid (fKnown F ti bw wk bi = some bh) := hfk
                have hlts : w.heap.size < gx ∧ gx < bh ∧ bh < g8 ∧ g8 < bw ∧ bw < bm ∧ bm < bc ∧ bc < wE.heap.size := by omega
                clear hfk hkF hEn hbr hgG keepW hhE hwE hcE hrE hxE h8E hbE HFti Hti hkE hcm hcm2 hsC hsA hlB hlt1 hsz1
                have hh1' : WB wc bh (a5 % 8) a5 a3 (.slice (some ⟨w.heap.size, 0, none⟩) hw.length len2) a4 := by rw [hl2]; exact hh1
                have hr1' : IRow wc w.heap.size (.slice (some ⟨w.heap.size, 0, none⟩) hw.length len2) hw := by rw [hl2]; exact hr1
                clear hh1 hr1
                go_wp2_with fail
                refine (unwait_any bc bm bh bw w.heap.size w.heap.size len2 (nKnown (kv.length + 1) wk) (fKnown F ti bw wk) ti bi (a5 % 8) a5 a6 a3 a4 a7 gone hw xs _ wc Hxs.out Hgone.out hc1 hkG HFK.out hh1' hw1 hr1' (by omega) hbw (by omega)).mono ?_
                rintro e w5 ⟨rfl, hr5, hw5, ⟨top, htop, hT5⟩, hb5⟩
                have hb6 : Below w.heap.size w w5 := hb1.trans (hb5.below (by have := hb1.size; omega) (by simp; omega))
                have hx5 := hx1.kept (hb5.block gx hx1.lt (by simp; omega))
                have h85 := h81.kept (hb5.block g8 h81.lt (by simp; omega))
                have hK5 : ∀ b, wE.heap.size ≤ b → b < wc.heap.size → w5.heap[b]? = wc.heap[b]? := fun b h1 h2 => hb5.block b h2 (by simp; omega)
                have hs5 : wc.heap.size ≤ w5.heap.size := hb5.size
                clear hc1 hkG hw1 hx1 h81 hb1 hh1' hr1' hb5
                generalize wE.heap.size = sE at hlts hEn1 hK5 hEs
                obtain ⟨pn, hpn⟩ : ∃ pn : Bool, pn = (!gone && a4) := ⟨_, rfl⟩
                have hh5 : WB w5 bh (a5 % 8) a5 a3 (.slice (some ⟨w.heap.size, 0, none⟩) xs.length len2) pn := by
                  cases gone with
                  | true => rw [hpn]; exact (hT5.yes rfl).2.1
                  | false => rw [hpn]; exact (hT5.no rfl).2.1
                have e0 := hh5.c0
                have e1 := hh5.c1
                have e2 := hh5.c2
                have e3 := hh5.c3
                have e4 := hh5.c4
                have HPN : Hid (pn = (!gone && a4)) := hpn
                clear hpn
                have hxl : xs.length ≤ len2 := by rw [Hxs.out]; have := List.length_erase_le (a := ti) (l := hw); omega
                go_wp2_with fail
                refine (equal_some _ _ w.heap.size xs w5 hr5 (hx5.base (by omega)) (by omega)).mono ?_
                rintro e w6 ⟨rfl, q, rfl⟩
                have hb6 : Below w.heap.size w (w5.drewN q) := below_drewN hb6 q
                have h85 : IRow (w5.drewN q) g8 (.slice (some ⟨g8, 0, none⟩) len8 len8) ns8 := h85
                have hK5 : ∀ b, sE ≤ b → b < wc.heap.size → (w5.drewN q).heap[b]? = wc.heap[b]? := hK5
                have hw5 : WB (w5.drewN q) bw 0 a6 false (.slice (some ⟨g8, 0, none⟩) len8 len8) a7 := hw5
                have hh5 : WB (w5.drewN q) bh (a5 % 8) a5 a3 (.slice (some ⟨w.heap.size, 0, none⟩) xs.length len2) pn := hh5
                have hT5 : Tid gone (w5.drewN q) top bc bm bh (nKnown (kv.length + 1) wk) (fKnown F ti bw wk) bi (a5 % 8) a5 a3 (.slice (some ⟨w.heap.size, 0, none⟩) xs.length len2) a4 := ⟨fun e => hT5.yes e, fun e => hT5.no e⟩
                clear e0 e1 e2 e3 e4 hr5 hx5
                generalize w5.drewN q = w6 at hb6 h85 hK5 hw5 hh5 hT5 ⊢
                have e0 := hh5.c0
                have e1 := hh5.c1
                have e2 := hh5.c2
                have e4 := hh5.c4
                go_wp2_with fail
                refine (take_tid hT5 (by omega) (by omega) (by omega)).mono ?_
                rintro e w7 ⟨rfl, ⟨v7, hc7⟩, hk7, ⟨o7, t7, u7, s7⟩, hbl7⟩
                have hb7 : Below w.heap.size w w7 := hb6.trans ⟨o7, t7, u7, s7, fun b hb => hbl7 b (by omega) (by omega)⟩
                have hh7 := hh5.kept (hbl7 bh (by omega) (by omega))
                have hw7 := hw5.kept (hbl7 bw (by omega) (by omega))
                have h87 := h85.kept (hbl7 g8 (by omega) (by omega))
                have hE7 : Ent sE w7 kv u35 u36 := hEn1.kept (fun b h1 h2 => (hbl7 b (by omega) (by omega)).trans (hK5 b h1 h2))
                clear hT5 hh5 hw5 h85 hb6 hEn1 hbl7 hK5 o7 t7 u7 e0 e1 e2 e4
                have q0 := hw7.c0
                have q1 := hw7.c1
                have q2 := hw7.c2
                have q3 := hw7.c3
                have q4 := hw7.c4
                have r0 := hc7.c0
                have r1 := hc7.c1
                go_upto_if 209 with fail
                go_cut [44, 45] from 210 to 247 (fun _ _ wx => wx = w7)
                case first =>
                  have p4 := hh7.c4
                  cases gone with
                  | true =>
                    have hlk : (Instr.lookup 30 (.map (some bm)) (.int .i64 bi) true).run Yba.prog w7 = .ok (.tuple #[.pointer none, .bool false]) w7 := by
                      have h := hk7.look_ok bi hbw
                      have e : fGone (fKnown F ti bw wk) bi true bi = none := upd_same _ _ _
                      rw [e] at h
                      exact h
                    have hpn : pn = false := HPN.out
                    subst hpn
                    have htp : topOf bh true = .pointer (some ⟨bh, 0, none⟩) := rfl
                    have hnq := neq27 ⟨bh, 0, none⟩ w7
                    rw [htp]
                    go_wp2_with fail
                    go_meet
                    case rel => rfl
                  | false =>
                    have hlk : (Instr.lookup 30 (.map (some bm)) (.int .i64 bi) false).run Yba.prog w7 = .ok (.pointer (some ⟨bh, 0, none⟩)) w7 := by
                      have h := hk7.look bi hbw
                      have e : fGone (fKnown F ti bw wk) bi false bi = some bh := HFK.out
                      rw [e] at h
                      exact h
                    have hpn : pn = a4 := by rw [HPN.out]; rfl
                    subst hpn
                    have hnq := neq27 ⟨bh, 0, none⟩ w7
                    go_wp2_with fail
                    go_meet
                    case rel => rfl
                case rest =>
                  have hcut' := hcut.symm
                  clear hcut
                  subst hcut'
                  obtain ⟨a35, c35, rfl, H35⟩ := hE7.at35
                  obtain ⟨a36, c36, rfl, H36⟩ := hE7.at36
                  have H35' : Hid (∀ k p, kv[k]? = some p → ∃ g, a35 = some ⟨g, 0, none⟩ ∧ w7.cell? ⟨g, k, none⟩ = some (.int .i64 p.1)) := H35
                  have H36' : Hid (∀ k p, kv[k]? = some p → ∃ g, a36 = some ⟨g, 0, none⟩ ∧ w7.cell? ⟨g, k, none⟩ = some (.pointer (some ⟨p.2, 0, none⟩))) := H36
                  clear H35 H36
                  go_wp2_with fail
                  go_loop [285] (fun i => ∃ k : Nat, k ≤ len8 ∧ i = .int .i64 k) (fun i => len8 - (intOf i).toNat)
                  case atStart => exact ⟨0, Nat.zero_le _, rfl⟩
                  case round =>
                    obtain ⟨k3, hk3, rfl⟩ := hrel
                    by_cases hlt3 : k3 < len8
                    · obtain ⟨x, rfl, z, hcx, hz0, hcz⟩ : ∃ x, a8 = some x ∧ ∃ z, w7.cell? (x.add k3) = some (.int .u8 z) ∧ (0 ≤ z ∧ z ≤ 255) ∧ w7.cell? ⟨g8, k3, none⟩ = some (.int .i64 (z % 8)) := by
                        rcases w8 with ⟨_, h0, _⟩ | ⟨x, rfl, h1, h2, h3, h4, h5⟩
                        · omega
                        · have hc0 := h4 k3 (by omega)
                          have hng : ns8[k3]? = some (z8.getD k3 0 % 8) := by rw [Hns8.out]; exact m8_get hlt3 (by omega)
                          have h87' : IRow w7 g8 (.slice (some ⟨g8, 0, none⟩) ns8.length len8) ns8 := by rw [hl8]; exact h87
                          exact ⟨x, rfl, _, (hb7.cell (World.block_lt_of_cell? _ _ hc0)).trans hc0, by have := range_u8 h5 k3; simpa using this, IRow.at h87' hng⟩
                      go_wp2_with fail
                      go_round
                      case rel => exact ⟨k3 + 1, by omega, by go_num⟩
                      case measure => simp [intOf]; omega
                    · go_wp2_with fail
                      go_loop [304] (fun i => ∃ k : Nat, k ≤ kv.length ∧ i = .int .i64 k) (fun i => kv.length - (intOf i).toNat)
                      case atStart => exact ⟨0, Nat.zero_le _, rfl⟩
                      case round =>
                        obtain ⟨k4, hk4, rfl⟩ := hrel
                        by_cases hlt4 : k4 < kv.length
                        · obtain ⟨⟨key, blk⟩, hp⟩ : ∃ p, kv[k4]? = some p := ⟨_, List.getElem?_eq_getElem hlt4⟩
                          have hpm := List.mem_of_getElem? hp
                          obtain ⟨g35, rfl, c35x⟩ := H35'.out k4 _ hp
                          obtain ⟨g36, rfl, c36x⟩ := H36'.out k4 _ hp
                          have hwb := (hE7.ent _ hpm).1
                          have hrg := hE7.rng _ hpm
                          obtain ⟨f1, f2, f3⟩ := HFkv.out _ hpm
                          have hkw : (Lit.int .i64 key).wf = true := WalkArith.wf_i64 (by simp at hrg; omega)
                          have hlk : (Instr.lookup 30 (.map (some bm)) (.int .i64 key) false).run Yba.prog w7 = .ok (.pointer (some ⟨blk, 0, none⟩)) w7 := by
                            have h := hk7.look key hkw
                            rw [fFinal (wk := wk) f1 f2 (fun h => f3 (by have := Hwk.out; rw [h] at this; simp at this; exact this.1))] at h
                            exact h
                          have hnq := neq27 ⟨blk, 0, none⟩ w7
                          have m0 := hwb.c0
                          have m1 := hwb.c1
                          have m2 := hwb.c2
                          have m3 := hwb.c3
                          have m4 := hwb.c4
                          simp only at m0 m1 m2 m3 m4 c35x c36x hrg
                          clear hwb f1 f2 f3 hpm hp hkw
                          go_wp2_with fail
                          go_round
                          case rel => exact ⟨k4 + 1, by omega, by go_num⟩
                          case measure => simp [intOf]; omega
                        · have hkv : kv.length ≤ 65536 := by omega
                          cases wk with
                          | true =>
                            have hne : ti ≠ bi := by have := Hwk.out; simp at this; exact this.2
                            have hlk : (Instr.lookup 30 (.map (some bm)) (.int .i64 ti) false).run Yba.prog w7 = .ok (.pointer (some ⟨bw, 0, none⟩)) w7 := by
                              have h := hk7.look ti htw
                              rw [fFinal_ti hne] at h
                              exact h
                            have hnq := neq27 ⟨bw, 0, none⟩ w7
                            clear hne
                            cases gone with
                            | true =>
                              have hmap : ∀ ty, (Builtin.len_ #[30] ty #[.map (some bm)]).run Yba.prog w7 = .ok (.int .i64 ((kv.length + 1 : Nat) : Int)) w7 := hk7.len
                              go_wp2_with fail
                              go_ret
                              exact ⟨rfl, hb7⟩
                            | false =>
                              have hmap : ∀ ty, (Builtin.len_ #[30] ty #[.map (some bm)]).run Yba.prog w7 = .ok (.int .i64 ((kv.length + 1 + 1 : Nat) : Int)) w7 := hk7.len
                              go_wp2_with fail
                              go_ret
                              exact ⟨rfl, hb7⟩
                          | false =>
                            cases gone with
                            | true =>
                              have hmap : ∀ ty, (Builtin.len_ #[30] ty #[.map (some bm)]).run Yba.prog w7 = .ok (.int .i64 ((kv.length : Nat) : Int)) w7 := hk7.len
                              go_wp2_with fail
                              go_ret
                              exact ⟨rfl, hb7⟩
                            | false =>
                              have hmap : ∀ ty, (Builtin.len_ #[30] ty #[.map (some bm)]).run Yba.prog w7 = .ok (.int .i64 ((kv.length + 1 : Nat) : Int)) w7 := hk7.len
                              go_wp2_with fail
                              go_ret
                              exact ⟨rfl, hb7⟩

end Go.Proofs.Ybulkehxo
