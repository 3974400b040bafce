/-
  FOR LawS6714AWhole: zzs6714acheck.
-/
import Derived.Test.YbulkeiagAdd
namespace Go.Proofs.Ybulkeiag
open Go.RowKit

theorem eqIn39 (f c : Int) (w : World) : (Op.equalIn 10000 39 (.agg #[.int .i64 f, .int .i64 c]) (.agg #[.int .i64 f, .int .i64 c])).run Yba.prog w = .ok true w := by
  have u2 := Yba.underlying2
  have hS : Yba.prog.underlying 39 = some (.struct (Yba.prog.fieldsOf 39)) := by kernel_rfl
  have hp : Yba.prog.stoodInHeld 39 = false := by kernel_rfl
  rw [show (10000 : Nat) = 9999 + 1 from rfl, run_equalIn_agg w 9999 39 _ _ hS hp]
  simp only [Program.fieldsOf, Yba.underlying39]
  go_simp
attribute [local go_sem] eqIn39

/-- The block of marks. -/
def PB (w : World) (b : Nat) (pres : Nat → Bool) : Prop := ∃ cur : Array Value, w.heap[b]? = some (.cells cur 28 (0, 0)) ∧ ∀ i, i < 256 → cur[i]? = some (.bool (pres i))
theorem PB.cell {w : World} {b : Nat} {pres : Nat → Bool} (h : PB w b pres) (i : Nat) (hi : i < 256) : w.cell? ⟨b, i, none⟩ = some (.bool (pres i)) := by
  obtain ⟨cur, h1, h2⟩ := h
  rw [cell_of_row w b _ cur 28 (0, 0) h1]
  exact h2 i hi
theorem PB.fr {w : World} {b : Nat} {pres : Nat → Bool} (h : PB w b pres) (j : Nat) : w.frozen? ⟨b, j, none⟩ = false := by
  obtain ⟨cur, h1, h2⟩ := h
  simp [World.frozen?, h1]
theorem PB.lt {w : World} {b : Nat} {pres : Nat → Bool} (h : PB w b pres) : b < w.heap.size := by
  obtain ⟨cur, h1, h2⟩ := h
  exact lt_of_block h1
theorem PB.kept {w w' : World} {b : Nat} {pres : Nat → Bool} (h : PB w b pres) (e : w'.heap[b]? = w.heap[b]?) : PB w' b pres := by
  obtain ⟨cur, h1, h2⟩ := h
  exact ⟨cur, e.trans h1, h2⟩
theorem PB.set {w : World} {b : Nat} {pres : Nat → Bool} (h : PB w b pres) (i : Nat) (hi : i < 256) : PB (w.setCell ⟨b, i, none⟩ (.bool true)) b (addP pres i) := by
  obtain ⟨cur, h1, h2⟩ := h
  refine ⟨_, heap_setCell_same w b i _ _ _ h1, fun j hj => ?_⟩
  have hs : i < cur.size := (Array.getElem?_eq_some_iff.1 (h2 i hi)).1
  by_cases e : j = i
  · subst e
    rw [addP_same]
    simp [hs]
  · rw [addP_other e, ← h2 j hj]
    simp [Array.getElem?_setIfInBounds_ne (fun q => e q.symm)]

theorem RRow.below {w w' : World} {base : Nat} {v : Value} {rs : List RunP} (h : RRow w base v rs) (g : Below w.heap.size w w') : RRow w' base v rs :=
  World.ownsRow.kept h (row := none) ⟨g.os, g.tape, g.output, g.size, fun k hk _ => g.block k hk⟩ (by rcases h.2 with ⟨rfl, _⟩ | ⟨g, cap, cur, rfl, _⟩ <;> simp [Value.ownBlock])

set_option maxHeartbeats 4000000 in
set_option maxRecDepth 100000 in
theorem check_any {base bs bp : Nat} {pres : Nat → Bool} {p : Nat} {m : Option Nat} {v : Value} (w : World) (h : Inv w base bs pres p m v true) (hP : PB w bp pres) :
    Calls Yba.prog 5 #[.pointer (some ⟨bs, 0, none⟩), v, .pointer (some ⟨bp, 0, none⟩)] w fun e w' => e = .returned (.bool true) ∧ Below w.heap.size w w' := by
  obtain ⟨i0, hi0, hz0, hz1, hz2⟩ := info_parts info39
  have hbs := h.sb.lt
  have hbp := hP.lt
  have hple := h.le
  go_enter Yba.func5, Yba.ntmps5
  go_wp2_with fail
  go_loopw [9, 7, 8] (fun i c n wr => ∃ k : Nat, k ≤ 256 ∧ i = .int .i64 k ∧ RRow wr w.heap.size c (runsTo pres k) ∧ n = .int .i64 ((chunks pres k).length : Int) ∧ Below w.heap.size w wr) (fun i _ _ _ => 256 - (intOf i).toNat)
  case atStart => exact ⟨0, by omega, rfl, World.ownsRow_nil _ _ _ _, rfl, Below.refl _ _⟩
  case round =>
    obtain ⟨k, hk, rfl, hr, rfl, hbl⟩ := hrel
    by_cases hlt : k < 256
    · have hPr : PB wr bp pres := hP.kept (hbl.block bp hbp)
      have c0 := hPr.cell k hlt
      have hcl : (chunks pres k).length ≤ k := by
        have := List.length_filter_le pres (List.range k)
        rw [List.length_range] at this
        exact this
      have hok := runsTo_small pres k hk
      have hln := runsTo_len pres k
      cases hpk : pres k with
      | false =>
        rw [hpk] at c0
        have HR : Hid (RRow wr w.heap.size u7 (runsTo pres (k + 1)) ∧ (chunks pres (k + 1)).length = (chunks pres k).length) := by
          rw [runsTo_no hpk, chunks_succ, hpk]
          exact ⟨hr, rfl⟩
        clear hr
        go_wp2_with fail
        go_roundw
        case rel => exact ⟨k + 1, by omega, by go_num, HR.out.1, by rw [HR.out.2], hbl⟩
        case measure => simp [intOf]; omega
      | true =>
        rw [hpk] at c0
        have HC : Hid ((chunks pres (k + 1)).length = (chunks pres k).length + 1) := by
          rw [chunks_succ, hpk]
          simp [Hid]
        have HY : Hid (runsTo pres (k + 1) = addR (runsTo pres k) k) := runsTo_yes hpk
        generalize (chunks pres k).length = nc at HC hcl ⊢
        generalize runsTo pres k = rs at hr hok hln HY
        rcases snoc_cases rs with rfl | ⟨rs', f, c, rfl⟩
        · obtain ⟨a, cc, rfl⟩ : ∃ a cc, u7 = .slice a 0 cc := by
            rcases hr.shape with ⟨rfl, _⟩ | ⟨g, cap, rfl, _⟩
            · exact ⟨_, _, rfl⟩
            · exact ⟨_, _, rfl⟩
          rw [addR_nil] at HY
          go_wp2_with fail
          go_quiet (fail)
          have hrq : RRow (wr.drewN nq) w.heap.size (.slice a 0 cc) [] := hr
          have hbq : Below w.heap.size w (wr.drewN nq) := hbl.trans ⟨rfl, rfl, rfl, Nat.le_refl _, fun _ _ => rfl⟩
          generalize wr.drewN nq = W at hrq hbq ⊢
          have hWs := hbq.size
          clear hr hbl
          go_wp2_with (at_builtin; refine wpList_append_own _ rfl _ _ 24 rfl w.heap.size 39 i0 (.agg #[.int .i64 0, .int .i64 0]) 2 16 Yba.underlying24 hi0 hz0 hz1 hz2 rfl (by decide) _ 0 [] rfl (World.ownsRow.alloc hrq _) ⟨W.heap.size, 0, none⟩ 1 1 [.int .i64 k, .int .i64 1] rfl rfl (cell_two_new _ _ _ _) (two_oneCell k) (by unfold maxLen; omega) (by omega) (by simp; omega) ?_; intro v' w1 ho hg _)
          go_roundw
          case rel => exact ⟨k + 1, by omega, by go_num, by rw [HY.out]; exact ho, by rw [HC.out]; go_num, (hbq.alloc hWs _).grown hg (by simp; omega) (fun b e => (World.ownsRow.lt hrq b e).1)⟩
          case measure => simp [intOf]; omega
        · have hsm := hok (f, c) (by simp)
          simp only at hsm
          obtain ⟨s1, s2, s3, s4, s5⟩ := hsm
          have hn : (rs' ++ [(f, c)]).length = rs'.length + 1 := by simp
          rw [hn] at hln
          obtain ⟨g, cap, rfl⟩ : ∃ g cap, u7 = .slice (some ⟨g, 0, none⟩) (rs'.length + 1) cap := by
            rcases hr.shape with ⟨_, q⟩ | ⟨g, cap, q, _⟩
            · simp at q
            · exact ⟨g, cap, by rw [q, hn]⟩
          have h' : RRow wr w.heap.size (.slice (some ⟨g, 0, none⟩) (rs' ++ [(f, c)]).length cap) (rs' ++ [(f, c)]) := by rw [hn]; exact hr
          obtain ⟨k0, k1⟩ := h'.at (k := rs'.length) (f := f) (c := c) (by simp)
          have ho : wr.ownsRow w.heap.size 39 2 (.slice (some ⟨g, 0, none⟩) (rs'.length + 1) cap) (rs'.length + 1) (flat (rs' ++ [(f, c)])) := by have := hr; unfold RRow at this; rw [hn] at this; exact this
          clear h' hr hok
          by_cases e : f + c = (k : Int)
          · rw [addR_hit e] at HY
            have hib : (f + c == (k : Int)) = true := by simp [e]
            have He : Hid (f + c = (k : Int)) := e
            clear e
            go_wp2_with fail
            go_quiet (fail)
            have hoq : (wr.drewN nq).ownsRow w.heap.size 39 2 (.slice (some ⟨g, 0, none⟩) (rs'.length + 1) cap) (rs'.length + 1) (flat (rs' ++ [(f, c)])) := ho
            have hbq : Below w.heap.size w (wr.drewN nq) := hbl.trans ⟨rfl, rfl, rfl, Nat.le_refl _, fun _ _ => rfl⟩
            have k1q : (wr.drewN nq).cell? ⟨g, rs'.length * 2 + 1, none⟩ = some (.int .i64 c) := k1
            generalize wr.drewN nq = W at hoq hbq k1q ⊢
            clear ho hbl k0 k1
            have f1 := hoq.frozenAt (rs'.length * 2 + 1)
            obtain ⟨hs1, hs2⟩ := hoq.stored (rs'.length * 2 + 1) (.int .i64 (c + 1))
            rw [flat_bump] at hs1
            have hgg := (hoq.lt g rfl).1
            have HS1 : Hid (RRow (W.setCell ⟨g, rs'.length * 2 + 1, none⟩ (.int .i64 (c + 1))) w.heap.size (.slice (some ⟨g, 0, none⟩) (rs'.length + 1) cap) (rs' ++ [(f, c + 1)])) := by
              unfold RRow Hid
              simpa using hs1
            clear hs1 hs2
            go_wp2_with fail
            go_roundw
            case rel => exact ⟨k + 1, by omega, by go_num, by rw [HY.out]; exact HS1.out, by rw [HC.out]; go_num, hbq.setCell hgg _⟩
            case measure => simp [intOf]; omega
          · rw [addR_miss e] at HY
            have hib : (f + c == (k : Int)) = false := beq_eq_false_iff_ne.2 e
            clear e
            go_wp2_with fail
            go_quiet (fail)
            have hoq : (wr.drewN nq).ownsRow w.heap.size 39 2 (.slice (some ⟨g, 0, none⟩) (rs'.length + 1) cap) (rs'.length + 1) (flat (rs' ++ [(f, c)])) := ho
            have hbq : Below w.heap.size w (wr.drewN nq) := hbl.trans ⟨rfl, rfl, rfl, Nat.le_refl _, fun _ _ => rfl⟩
            generalize wr.drewN nq = W at hoq hbq ⊢
            clear ho hbl k0 k1
            have hWs := hbq.size
            go_wp2_with (at_builtin; refine wpList_append_own _ rfl _ _ 24 rfl w.heap.size 39 i0 (.agg #[.int .i64 0, .int .i64 0]) 2 16 Yba.underlying24 hi0 hz0 hz1 hz2 rfl (by decide) _ (rs'.length + 1) _ rfl (World.ownsRow.alloc hoq _) ⟨W.heap.size, 0, none⟩ 1 1 [.int .i64 k, .int .i64 1] rfl rfl (cell_two_new _ _ _ _) (two_oneCell k) (by unfold maxLen; omega) (by omega) (by simp; omega) ?_; intro v' w1 ho1 hg1 _)
            have hr1 : RRow w1 w.heap.size v' (rs' ++ [(f, c)] ++ [((k : Int), 1)]) := by
              have hn2 : (rs' ++ [(f, c)] ++ [((k : Int), 1)]).length = rs'.length + 1 + 1 := by simp
              unfold RRow
              rw [flat_append, hn2]
              exact ho1
            go_roundw
            case rel => exact ⟨k + 1, by omega, by go_num, by rw [HY.out]; exact hr1, by rw [HC.out]; go_num, (hbq.alloc hWs _).grown hg1 (by simp; omega) (fun b e => (World.ownsRow.lt hoq b e).1)⟩
            case measure => simp [intOf]; omega
    · obtain rfl : k = 256 := by omega
      have hsbr : SB wr bs p m v true := h.sb.kept (hbl.block bs hbs)
      have hPr : PB wr bp pres := hP.kept (hbl.block bp hbp)
      have hvr : RunsAt wr base v (runsTo pres 256) := (h.runs rfl).kept (fun b cur _ hb => hbl.block b (lt_of_block hb))
      have hah : Ahead wr base bs pres p m := h.ahead.kept (But.of_below hbl)
      have hcnt := chunks_len_split hple h.pre.1
      have hpc : ∀ j, j < p → wr.cell? ⟨bp, j, none⟩ = some (.bool true) := fun j hj => by rw [hPr.cell j (by omega), h.pre.1 j hj]
      have hpe : p < 256 → wr.cell? ⟨bp, p, none⟩ = some (.bool false) := fun hp => by rw [hPr.cell p hp, h.pre.2]
      have hll := later_len pres p
      have hln := runsTo_len pres 256
      obtain ⟨a, rfl, hcv⟩ := hvr.at
      have hnil : (runsTo pres 256).length = 0 → a = none := by
        intro e
        rcases hvr with ⟨q, _⟩ | ⟨g, cur, _, q, _⟩
        · injection q
        · exact absurd (List.eq_nil_of_length_eq_zero e) q
      obtain ⟨aw, capw, rfl, hcw⟩ : ∃ aw capw, u7 = .slice aw (runsTo pres 256).length capw ∧ ∀ k f c, (runsTo pres 256)[k]? = some (f, c) → ∃ g, aw = some ⟨g, 0, none⟩ ∧ wr.cell? ⟨g, k * 2, none⟩ = some (.int .i64 f) ∧ wr.cell? ⟨g, k * 2 + 1, none⟩ = some (.int .i64 c) := by
        rcases hr.shape with ⟨q1, q2⟩ | ⟨g, cap, q, _⟩
        · exact ⟨none, 0, by rw [q1, q2]; rfl, fun k f c q => by rw [q2] at q; simp at q⟩
        · subst q
          exact ⟨_, _, rfl, fun k f c q => ⟨g, rfl, hr.at q⟩⟩
      have hmap : ∀ q ty, (Builtin.len_ #[23] ty #[.map m]).run Yba.prog (wr.drewN q) = .ok (.int .i64 ((later pres p 256).length : Int)) (wr.drewN q) := by
        intro q ty
        rcases hah with ⟨rfl, e⟩ | ⟨bm, n, rfl, _, _, hm⟩
        · rw [e]; exact len_none _ ty
        · obtain ⟨_, _, _, e, _⟩ := hm.sorted h.top
          rw [← e]
          exact (BMap.kept (w' := wr.drewN q) hm rfl).len ty
      have c0 := hsbr.c0
      have c1 := hsbr.c1
      have c2 := hsbr.c2
      have c3 := hsbr.c3
      have hbq : ∀ q, Below w.heap.size w (wr.drewN q) := fun q => hbl.trans ⟨rfl, rfl, rfl, Nat.le_refl _, fun _ _ => rfl⟩
      clear hr hvr hah hsbr hPr hbl
      clear h hP
      generalize (later pres p 256).length = nl at hcnt hll hmap
      generalize (chunks pres 256).length = nc at hcnt ⊢
      generalize runsTo pres 256 = rs at hln hcv hnil hcw c2 ⊢
      generalize hlen : rs.length = n at hln hnil c2 ⊢
      have hcd : ((nl : Int) != (nc : Int) - (p : Int)) = false := by
        have : (nc : Int) - (p : Int) = (nl : Int) := by omega
        rw [this]
        simp
      have hncb : nc ≤ 512 := by omega
      clear hcnt
      have hget : ∀ j, j < n → ∃ f c, rs[j]? = some (f, c) := fun j hj => ⟨rs[j].1, rs[j].2, by rw [List.getElem?_eq_getElem]⟩
      clear hlen
      go_wp2_with fail
      go_loopw [11] (fun i wr' => ∃ j : Nat, j ≤ p ∧ i = .int .i64 j ∧ wr' = wr) (fun i _ => p - (intOf i).toNat)
      case atStart => exact ⟨0, Nat.zero_le _, rfl, rfl⟩
      case round =>
        obtain ⟨j, hj, rfl, rfl⟩ := hrel
        go_upto_region 13 with fail
        go_cut [69] from 61 to 68 (fun b wx => b = .bool (decide (j < p)) ∧ wx = wr)
        case first =>
          by_cases hjp : j < p
          · have d0 := hpc j hjp
            have Hd : Hid (decide (j < p) = true) := by simp [Hid, hjp]
            go_wp2_with fail
            go_meet
            case rel => exact ⟨by rw [Hd.out], rfl⟩
          · obtain rfl : j = p := by omega
            have Hd : Hid (decide (j < j) = false) := by simp [Hid]
            by_cases hp : j < 256
            · have d0 := hpe hp
              go_wp2_with fail
              go_meet
              case rel => exact ⟨by rw [Hd.out], rfl⟩
            · go_wp2_with fail
              go_meet
              case rel => exact ⟨by rw [Hd.out], rfl⟩
        case rest =>
          obtain ⟨rfl, hwc⟩ := hcut
          have hwc' := hwc.symm
          clear hwc
          subst hwc'
          by_cases hjp : j < p
          · go_wp2_with fail
            go_roundw
            case rel => exact ⟨j + 1, by omega, by go_num, trivial⟩
            case measure => simp [intOf]; omega
          · obtain rfl : j = p := by omega
            clear hjp hpc hpe hj
            rw [show decide (j < j) = false by simp]
            go_upto_if 74 with fail
            go_cut [73, 74] from 75 to 76 (fun _ _ wx => wx = wr)
            case first =>
              by_cases hn0 : n = 0
              · subst hn0
                obtain rfl := hnil rfl
                go_wp2_with fail
                go_meet
                case rel => rfl
              · have hn1 : ((n : Int) == 0) = false := beq_eq_false_iff_ne.2 (by omega)
                go_wp2_with fail
                go_meet
                case rel => rfl
            case rest =>
              have hcw' := hcut.symm
              clear hcut
              subst hcw'
              clear hnil
              go_wp2_with fail
              go_loopw [12] (fun i wr' => ∃ i' : Nat, i' ≤ n ∧ i = .int .i64 i' ∧ ∃ q, wr' = wr.drewN q) (fun i _ => n - (intOf i).toNat)
              case atStart => exact ⟨0, Nat.zero_le _, rfl, 0, rfl⟩
              case round =>
                obtain ⟨i, hi, rfl, q, rfl⟩ := hrel
                by_cases hin : i < n
                · obtain ⟨f, c, hfc⟩ := hget i hin
                  obtain ⟨g, rfl, v0, v1⟩ := hcv i f c hfc
                  obtain ⟨gw, rfl, v2, v3⟩ := hcw i f c hfc
                  go_wp2_with fail
                  go_quiet (fail)
                  go_wp2_with fail
                  go_roundw
                  case rel => exact ⟨i + 1, by omega, by go_num, _, rfl⟩
                  case measure => simp [intOf]; omega
                · obtain rfl : i = n := by omega
                  have hmapq := hmap
                  go_wp2_with fail
                  go_loopw [13] (fun i0 wr' => ∃ i' : Nat, i' ≤ i ∧ i0 = .int .i64 i' ∧ ∃ q, wr' = wr.drewN q) (fun i0 _ => i - (intOf i0).toNat)
                  case atStart => exact ⟨0, Nat.zero_le _, rfl, q, rfl⟩
                  case round =>
                    obtain ⟨z, hz, rfl, q2, rfl⟩ := hrel
                    by_cases hzn : z < i
                    · obtain ⟨f, c, hfc⟩ := hget z hzn
                      obtain ⟨g, rfl, v0, v1⟩ := hcv z f c hfc
                      go_wp2_with fail
                      go_quiet (fail)
                      go_wp2_with fail
                      go_roundw
                      case rel => exact ⟨z + 1, by omega, by go_num, _, rfl⟩
                      case measure => simp [intOf]; omega
                    · obtain rfl : z = i := by omega
                      go_wp2_with fail
                      go_ret
                      exact ⟨rfl, hbq _⟩

end Go.Proofs.Ybulkeiag
