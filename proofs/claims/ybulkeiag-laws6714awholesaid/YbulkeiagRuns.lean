/-
  FOR LawS6714AWhole: (*ChunkSet).Runs.
-/
import Derived.Test.YbulkeiagSet
namespace Go.Proofs.Ybulkeiag
open Go.RowKit

theorem RunsAt.mono {w : World} {base base' : Nat} {v : Value} {rs : List RunP} (h : RunsAt w base v rs) (hb : base' ≤ base) : RunsAt w base' v rs := by
  rcases h with h | ⟨g, cur, h1, h2, h3, h4⟩
  · exact .inl h
  · exact .inr ⟨g, cur, h1, h2, by omega, h4⟩

theorem fold_ok : ∀ (L : List Nat) (rs : List RunP), (∀ i, i ∈ L → i < 256) → Small rs → Small (L.foldl (fun rs (i : Nat) => addR rs (i : Int)) rs) ∧ (L.foldl (fun rs (i : Nat) => addR rs (i : Int)) rs).length ≤ rs.length + L.length
  | [], rs, _, h => ⟨h, by simp⟩
  | i :: L, rs, hL, h => by
    have hi := hL i (by simp)
    obtain ⟨a, b⟩ := fold_ok L (addR rs i) (fun j hj => hL j (by simp [hj])) (h.add (by omega) (by omega))
    have := addR_len rs i
    refine ⟨a, ?_⟩
    simp only [List.foldl_cons, List.length_cons]
    omega

theorem later_len (pres : Nat → Bool) (p : Nat) : (later pres p 256).length ≤ 256 := by
  unfold later chunks
  have a1 := List.length_filter_le (fun i => decide (p ≤ i)) ((List.range 256).filter pres)
  have a2 := List.length_filter_le pres (List.range 256)
  rw [List.length_range] at a2
  omega

/-- The runs behind the first k of the sorted keys. -/
def rsK (pres : Nat → Bool) (p k : Nat) : List RunP := ((later pres p 256).take k).foldl (fun rs (i : Nat) => addR rs (i : Int)) (runsTo pres p)
theorem rsK_zero (pres : Nat → Bool) (p : Nat) : rsK pres p 0 = runsTo pres p := by simp [rsK]
theorem rsK_succ {pres : Nat → Bool} {p k i : Nat} (h : (later pres p 256)[k]? = some i) : rsK pres p (k + 1) = addR (rsK pres p k) i := by
  simp [rsK, List.take_add_one, h, List.foldl_append]
theorem rsK_all {pres : Nat → Bool} {p : Nat} (h : p ≤ 256) : rsK pres p (later pres p 256).length = runsTo pres 256 := by
  unfold rsK
  rw [List.take_length, runsTo_later h]
theorem rsK_ok {pres : Nat → Bool} {p : Nat} (h : p ≤ 256) (k : Nat) : Small (rsK pres p k) ∧ (rsK pres p k).length ≤ 1000 := by
  obtain ⟨a, b⟩ := fold_ok ((later pres p 256).take k) (runsTo pres p) (fun i hi => (mem_later.1 (List.mem_of_mem_take hi)).1) (runsTo_small pres p h)
  refine ⟨a, ?_⟩
  have h1 := runsTo_len pres p
  have h2 : ((later pres p 256).take k).length ≤ 256 := by
    have := later_len pres p
    rw [List.length_take]
    omega
  unfold rsK
  omega

/-- The row of sorted keys. -/
def KRow (w : World) (v : Value) (L : List Nat) : Prop :=
  (v = .slice none 0 0 ∧ L = []) ∨ ∃ g cap cur, v = .slice (some ⟨g, 0, none⟩) L.length cap ∧ w.heap[g]? = some (.cells cur 2 (0, 0)) ∧ cur.toList.take L.length = L.map fun (i : Nat) => Value.int .i64 (i : Int)
theorem KRow.of {w : World} {base : Nat} {v : Value} {L : List Nat} (h : w.ownsRow base 2 1 v L.length (L.map fun (i : Nat) => Value.int .i64 (i : Int))) : KRow w v L := by
  rcases h.2 with ⟨rfl, hn⟩ | ⟨g, cap, cur, rfl, h1, h2, h3, h4, h5, h6⟩
  · exact .inl ⟨rfl, List.eq_nil_of_length_eq_zero hn⟩
  · exact .inr ⟨g, cap, cur, rfl, h2, by simpa using h6⟩
theorem KRow.at {w : World} {v : Value} {L : List Nat} (h : KRow w v L) : ∃ a cap, v = .slice a L.length cap ∧ ∀ (w' : World) (k i : Nat), KRow w' (.slice a L.length cap) L → L[k]? = some i → ∃ g, a = some ⟨g, 0, none⟩ ∧ w'.cell? ⟨g, k, none⟩ = some (.int .i64 (i : Int)) := by
  rcases h with ⟨rfl, rfl⟩ | ⟨g, cap, cur, rfl, h1, h2⟩
  · exact ⟨none, 0, rfl, fun w' k i _ h => by simp at h⟩
  · refine ⟨_, _, rfl, fun w' k i hw hk => ⟨g, rfl, ?_⟩⟩
    have hlt : k < L.length := (List.getElem?_eq_some_iff.1 hk).1
    rcases hw with ⟨h3, h4⟩ | ⟨g', cap', cur', h3, h4, h5⟩
    · subst h4
      simp at hk
    · injection h3 with h3 _ h3c
      injection h3 with h3
      injection h3 with h3
      subst h3
      have e : (cur'.toList.take L.length)[k]? = some (Value.int .i64 (i : Int)) := by rw [h5]; simp [hk]
      rw [List.getElem?_take_of_lt hlt] at e
      rw [cell_of_row w' g _ cur' 2 (0, 0) h4]
      simpa using e
theorem KRow.kept {w w' : World} {base : Nat} {v v3 : Value} {L : List Nat} {rs : List RunP} (h : KRow w v L) (hr : RRow w base v3 rs) (g : w.grownBy w' v3.ownBlock) : KRow w' v L := by
  rcases h with h | ⟨b, cap, cur, h1, h2, h3⟩
  · exact .inl h
  · refine .inr ⟨b, cap, cur, h1, ?_, h3⟩
    rw [g.block b (lt_of_block h2) ?_]
    · exact h2
    · intro e
      rcases hr.2 with ⟨rfl, _⟩ | ⟨g', cap', cur', rfl, _, q, _⟩
      · simp [Value.ownBlock] at e
      · simp [Value.ownBlock] at e
        subst e
        rw [h2] at q
        injection q with q
        injection q with _ q
        cases q

set_option maxHeartbeats 400000 in
theorem runs_listed {bs : Nat} {p : Nat} {m : Option Nat} {v : Value} (w : World) (h : SB w bs p m v true) :
    Calls Yba.prog 4 #[.pointer (some ⟨bs, 0, none⟩)] w fun e w' => e = .returned v ∧ w' = w := by
  have c2 := h.c2
  have c3 := h.c3
  clear h
  go_enter Yba.func4, Yba.ntmps4
  go_wp2
  go_ret
  exact ⟨rfl, rfl⟩

set_option maxHeartbeats 2000000 in
theorem runs_fresh {base bs : Nat} {pres : Nat → Bool} {p : Nat} {m : Option Nat} {v : Value} (w : World) (h : Inv w base bs pres p m v false) (hb : base ≤ w.heap.size) :
    Calls Yba.prog 4 #[.pointer (some ⟨bs, 0, none⟩)] w fun e w' => ∃ v', e = .returned v' ∧ Inv w' base bs pres p m v' true ∧ But [bs] w w' := by
  obtain ⟨i0, hi0, hz0, hz1, hz2⟩ := info_parts info39
  have c0 := h.sb.c0
  have c1 := h.sb.c1
  have c3 := h.sb.c3
  have hbs := h.sb.lt
  have hple := h.le
  go_enter Yba.func4, Yba.ntmps4
  go_upto_if 18 with fail
  go_cut [3, 18] from 19 to 26 (fun c _ wx => RRow wx w.heap.size c (runsTo pres p) ∧ (runsTo pres p = [] → c = .slice none 0 0) ∧ Below w.heap.size w wx)
  case first =>
    have hrp := runsTo_pre p h.pre.1
    by_cases hp : p = 0
    · subst hp
      go_wp2_with fail
      go_meet
      case rel => exact ⟨World.ownsRow_nil _ _ _ _, fun _ => rfl, Below.refl _ _⟩
    · rw [if_neg hp] at hrp
      have Hrp : Hid (runsTo pres p = [((0 : Int), (p : Int))]) := hrp
      have hp0 : (0 : Int) < p := by omega
      clear hrp
      go_wp2_with (at_builtin; refine wpList_append_own _ rfl _ _ 25 rfl w.heap.size 39 i0 (.agg #[.int .i64 0, .int .i64 0]) 2 16 Yba.underlying25 hi0 hz0 hz1 hz2 rfl (by decide) _ 0 [] rfl (World.ownsRow_nil _ _ _ _) ⟨w.heap.size, 0, none⟩ 1 1 [.int .i64 0, .int .i64 p] rfl rfl (cell_two_new _ _ _ _) (by intro u hu; simp at hu; rcases hu with rfl | rfl <;> rfl) (by unfold maxLen; omega) (by omega) (by simp) ?_; intro v' w1 ho hg _)
      go_meet
      case rel =>
        rw [Hrp.out]
        exact ⟨ho, fun e => by simp at e, (((Below.refl _ w).alloc (Nat.le_refl _) _).grown hg (by simp) (fun k e => by change none = some k at e; cases e))⟩
  case rest =>
    obtain ⟨hr, hrn, hbl⟩ := hcut
    have hsb1 : SB wc bs p m v false := h.sb.kept (hbl.block bs hbs)
    have hah1 : Ahead wc base bs pres p m := h.ahead.kept (But.of_below hbl)
    have c1' := hsb1.c1
    clear c0 c1 c3 hsb1
    go_wp2_with (first
      | (go_at_call 8; refine (keys_call m _).mono ?_; rintro e w' ⟨rfl, rfl⟩)
      | (go_at_call 7; refine (sorted_any _ hah1 h.top).mono ?_; rintro e w2 ⟨v2, rfl, ho2, hb2⟩; obtain ⟨a2, cap2, rfl, hcell2⟩ := (KRow.of ho2).at))
    have hk2 := KRow.of ho2
    have hr2 : RRow w2 w.heap.size u3 (rsK pres p 0) := by
      rw [rsK_zero]
      exact World.ownsRow.kept hr (row := none) ⟨hb2.os, hb2.tape, hb2.output, hb2.size, fun k hk _ => hb2.block k hk⟩ (by rcases hr.2 with ⟨rfl, _⟩ | ⟨g, cap, cur, rfl, _⟩ <;> simp [Value.ownBlock])
    rw [← rsK_zero] at hrn
    have hbl2 : Below w.heap.size w w2 := hbl.trans (hb2.mono hbl.size)
    have hll := later_len pres p
    clear hr hbl c1' hah1 ho2 hb2
    go_loopw [34, 3] (fun i c wr => ∃ k : Nat, k ≤ (later pres p 256).length ∧ i = .int .i64 k ∧ RRow wr w.heap.size c (rsK pres p k) ∧ (rsK pres p k = [] → c = .slice none 0 0) ∧ KRow wr (.slice a2 (later pres p 256).length cap2) (later pres p 256) ∧ Below w.heap.size w wr)
      (fun i _ _ => (later pres p 256).length - (intOf i).toNat)
    case atStart => exact ⟨0, Nat.zero_le _, rfl, hr2, hrn, hk2, hbl2⟩
    case round =>
      obtain ⟨k, hk, rfl, hr, hrn, hkr, hbl⟩ := hrel
      by_cases hlt : k < (later pres p 256).length
      · obtain ⟨i, hi⟩ : ∃ i, (later pres p 256)[k]? = some i := ⟨_, List.getElem?_eq_getElem hlt⟩
        obtain ⟨g, rfl, hc⟩ := hcell2 wr k i hkr hi
        obtain ⟨ok1, ok2⟩ := rsK_ok hple k (pres := pres)
        go_wp2_with (go_at_call 9; refine (chunk_any w.heap.size _ _ _ _ hr hbl.size ok2 ok1).mono ?_; rintro e w3 ⟨v3, rfl, hr3, hg3⟩)
        go_roundw
        case rel => exact ⟨k + 1, by omega, by go_num, by rw [rsK_succ hi]; exact hr3, fun e => absurd e (by rw [rsK_succ hi]; exact addR_ne _ _), hkr.kept hr hg3, hbl.grown hg3 hbl.size (fun b e => (World.ownsRow.lt hr b e).1)⟩
        case measure => simp [intOf]; omega
      · obtain rfl : k = (later pres p 256).length := by omega
        rw [rsK_all hple] at hr hrn
        have hsb3 : SB wr bs p m v false := h.sb.kept (hbl.block bs hbs)
        have d2 := hsb3.c2
        have d3 := hsb3.c3
        have f2 := hsb3.fr 2
        have f3 := hsb3.fr 3
        have hfin : ∀ v', RunsAt wr w.heap.size v' (runsTo pres 256) → Hid (Inv ((wr.setCell ⟨bs, 2, none⟩ v').setCell ⟨bs, 3, none⟩ (.bool true)) base bs pres p m v' true ∧ But [bs] w ((wr.setCell ⟨bs, 2, none⟩ v').setCell ⟨bs, 3, none⟩ (.bool true))) := by
          intro v' hv'
          have hbut : But [bs] w ((wr.setCell ⟨bs, 2, none⟩ v').setCell ⟨bs, 3, none⟩ (.bool true)) := ((But.of_below hbl).setCell (by simp) _).setCell (by simp) _
          refine ⟨⟨(hsb3.s2 v').s3 true, h.ge, h.pre, h.le, h.top, h.ahead.kept hbut, fun _ => ?_⟩, hbut⟩
          refine RunsAt.mono (hv'.kept (fun b cur hbb _ => ?_)) hb
          rw [Below.heap_setCell _ _ _ _ (by show b ≠ bs; omega), Below.heap_setCell _ _ _ _ (by show b ≠ bs; omega)]
        clear h hkr hcell2 hk2 hr2 hbl2 hsb3
        by_cases hne : runsTo pres 256 = []
        · obtain rfl := hrn hne
          have hv := hfin (.slice none 0 0) (.inl ⟨rfl, hne⟩)
          clear hr hrn hne hfin
          go_wp2_with fail
          go_ret
          exact ⟨_, rfl, hv.out⟩
        · obtain ⟨g, cap, rfl, hcap, hra⟩ := RunsAt.of hr hne
          have hv := hfin _ hra
          clear hr hrn hra hne hfin
          generalize (runsTo pres 256).length = n at hv hcap ⊢
          go_wp2_with fail
          go_ret
          exact ⟨_, rfl, hv.out⟩

/-- '(*ChunkSet).Runs': the runs of the set; listed behind the call; the same runs again where they were listed. -/
theorem runs_any {base bs : Nat} {pres : Nat → Bool} {p : Nat} {m : Option Nat} {v : Value} {l : Bool} (w : World) (h : Inv w base bs pres p m v l) (hb : base ≤ w.heap.size) :
    Calls Yba.prog 4 #[.pointer (some ⟨bs, 0, none⟩)] w fun e w' => ∃ v', e = .returned v' ∧ Inv w' base bs pres p m v' true ∧ But [bs] w w' ∧ (l = true → v' = v) := by
  cases l with
  | true =>
    refine (runs_listed w h.sb).mono ?_
    rintro e w' ⟨rfl, rfl⟩
    exact ⟨v, rfl, h, But.refl _ _, fun _ => rfl⟩
  | false =>
    refine (runs_fresh w h hb).mono ?_
    rintro e w' ⟨v', rfl, h1, h2⟩
    exact ⟨v', rfl, h1, h2, fun e => by cases e⟩

end Go.Proofs.Ybulkeiag
