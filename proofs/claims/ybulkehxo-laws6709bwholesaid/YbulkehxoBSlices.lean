/-
  FOR LawS6709BWhole: slices.Index, slices.Contains, slices.Equal at a row of the call's own.
-/
import Derived.Test.YbulkehxoBLeaf
namespace Go.Proofs.Ybulkehxo
open Go.RowKit

theorem IRow.shape {w : World} {base : Nat} {v : Value} {ns : List Int} (h : IRow w base v ns) : (v = .slice none 0 0 ∧ ns = []) ∨ ∃ g cap, v = .slice (some ⟨g, 0, none⟩) ns.length cap := by
  rcases h.2 with ⟨rfl, hn⟩ | ⟨g, cap, cur, rfl, _⟩
  · exact .inl ⟨rfl, List.eq_nil_of_length_eq_zero hn⟩
  · exact .inr ⟨g, cap, rfl⟩
theorem IRow.at {w : World} {base g cap k : Nat} {ns : List Int} {y : Int} (h : IRow w base (.slice (some ⟨g, 0, none⟩) ns.length cap) ns) (hy : ns[k]? = some y) : w.cell? ⟨g, k, none⟩ = some (.int .i64 y) := by
  have hk : k < ns.length := (List.getElem?_eq_some_iff.1 hy).1
  rw [World.ownsRow.cellAt h k (by omega), List.getElem?_map, hy]
  rfl
theorem getS {ns : List Int} {k : Nat} (h : k < ns.length) : ∃ y, ns[k]? = some y := ⟨_, List.getElem?_eq_getElem h⟩

/-- What slices.Index answers. -/
def idxI (ns : List Int) (t : Int) : Int := if t ∈ ns then (ns.idxOf t : Int) else -1

theorem idxI_hit {ns : List Int} {t : Int} {k : Nat} (hk : ns[k]? = some t) (hno : ∀ j, j < k → ns[j]? ≠ some t) : idxI ns t = k := by
  have hm : t ∈ ns := List.mem_of_getElem? hk
  unfold idxI
  rw [if_pos hm]
  congr 1
  have hlt := List.idxOf_lt_length_of_mem hm
  have hat : ns[ns.idxOf t]? = some t := by rw [List.getElem?_eq_getElem hlt, List.getElem_idxOf hlt]
  rcases Nat.lt_trichotomy (ns.idxOf t) k with h | h | h
  · exact absurd hat (hno _ h)
  · exact h
  · exfalso
    have hkl : k < ns.length := (List.getElem?_eq_some_iff.1 hk).1
    have := List.not_of_lt_findIdx (xs := ns) (p := (· == t)) h
    rw [List.getElem?_eq_getElem hkl] at hk
    simp at hk
    simp [hk] at this
theorem idxI_miss {ns : List Int} {t : Int} (hno : ∀ j, j < ns.length → ns[j]? ≠ some t) : idxI ns t = -1 := by
  unfold idxI
  rw [if_neg]
  intro hm
  obtain ⟨j, hj, e⟩ := List.getElem_of_mem hm
  exact hno j hj (by rw [List.getElem?_eq_getElem hj, e])

set_option maxHeartbeats 400000 in
theorem index_nil (t : Int) (w : World) :
    Calls Yba.prog 15 #[.slice none 0 0, .int .i64 t] w fun e w' => e = .returned (.int .i64 (-1)) ∧ w' = w := by
  go_enter Yba.func15, Yba.ntmps15
  go_wp2
  refine wp_loop_rounds 1 ?_
  rw [rounds_succ]
  go_wp2
  go_ret
  exact ⟨rfl, rfl⟩

set_option maxHeartbeats 400000 in
theorem index_some (g cap : Nat) (ns : List Int) (t : Int) (w : World) (hl : ns.length ≤ 100000) (hc : ∀ k y, ns[k]? = some y → w.cell? ⟨g, k, none⟩ = some (.int .i64 y)) :
    Calls Yba.prog 15 #[.slice (some ⟨g, 0, none⟩) ns.length cap, .int .i64 t] w fun e w' => e = .returned (.int .i64 (idxI ns t)) ∧ w' = w := by
  have Hc : Hid (∀ k y, ns[k]? = some y → w.cell? ⟨g, k, none⟩ = some (.int .i64 y)) := hc
  clear hc
  go_enter Yba.func15, Yba.ntmps15
  go_wp2
  go_loop [8] (fun i => ∃ k : Nat, k ≤ ns.length ∧ i = .int .i64 k ∧ Hid (∀ j, j < k → ns[j]? ≠ some t)) (fun i => ns.length - (intOf i).toNat)
  case atStart => exact ⟨0, Nat.zero_le _, rfl, fun j hj => by omega⟩
  case round =>
    obtain ⟨k, hk, rfl, hno⟩ := hrel
    by_cases hlt : k < ns.length
    · obtain ⟨y, hy⟩ := getS hlt
      have hcx := Hc.out k y hy
      have Hy : Hid (ns[k]? = some y) := hy
      clear hy
      by_cases he : t = y
      · subst he
        have HI : Hid (idxI ns t = k) := idxI_hit Hy.out hno.out
        go_wp2
        go_ret
        exact ⟨by rw [HI.out]; rfl, rfl⟩
      · have heb : (t == y) = false := beq_eq_false_iff_ne.2 he
        go_wp2
        go_round
        case rel =>
          refine ⟨k + 1, by omega, by go_num, fun j hj => ?_⟩
          by_cases e : j = k
          · subst e; rw [Hy.out]; simpa using fun h => he h.symm
          · exact hno.out j (by omega)
        case measure => simp [intOf]; omega
    · have hkl : k = ns.length := by omega
      have HI : Hid (idxI ns t = -1) := idxI_miss (fun j hj => hno.out j (by omega))
      clear hkl
      go_wp2
      go_ret
      exact ⟨by rw [HI.out]; rfl, rfl⟩

theorem index_any (v : Value) (base : Nat) (ns : List Int) (t : Int) (w : World) (hv : IRow w base v ns) (hl : ns.length ≤ 100000) :
    Calls Yba.prog 15 #[v, .int .i64 t] w fun e w' => e = .returned (.int .i64 (idxI ns t)) ∧ w' = w := by
  rcases hv.shape with ⟨rfl, rfl⟩ | ⟨g, cap, rfl⟩
  · exact index_nil t w
  · exact index_some g cap ns t w hl (fun k y hy => hv.at hy)

theorem idxI_nonneg (ns : List Int) (t : Int) : decide (0 ≤ idxI ns t) = decide (t ∈ ns) := by
  unfold idxI
  split <;> simp_all <;> omega
theorem idxI_le (ns : List Int) (t : Int) : -1 ≤ idxI ns t ∧ idxI ns t ≤ ns.length := by
  unfold idxI
  have := List.idxOf_le_length (a := t) (l := ns)
  split <;> omega

set_option maxHeartbeats 400000 in
theorem contains_any (v : Value) (base : Nat) (ns : List Int) (t : Int) (w : World) (hv : IRow w base v ns) (hl : ns.length ≤ 100000) :
    Calls Yba.prog 7 #[v, .int .i64 t] w fun e w' => e = .returned (.bool (decide (t ∈ ns))) ∧ w' = w := by
  have HI : Hid (decide (0 ≤ idxI ns t) = decide (t ∈ ns)) := idxI_nonneg ns t
  go_enter Yba.func7, Yba.ntmps7
  go_wp2_with (go_at_call 15; refine (index_any _ base ns t _ hv hl).mono ?_; rintro e w' ⟨rfl, rfl⟩)
  go_ret
  exact ⟨by rw [HI.out]; rfl, rfl⟩

set_option maxHeartbeats 400000 in
theorem equal_some (v1 v2 : Value) (base : Nat) (ns : List Int) (w : World) (h1 : IRow w base v1 ns) (h2 : IRow w base v2 ns) (hl : ns.length ≤ 100000) :
    Calls Yba.prog 9 #[v1, v2] w fun e w' => e = .returned (.bool true) ∧ ∃ q, w' = w.drewN q := by
  rcases h1.shape with ⟨rfl, rfl⟩ | ⟨g1, cap1, rfl⟩
  · have : ∃ a c, v2 = .slice a 0 c := by
      rcases h2.shape with ⟨rfl, _⟩ | ⟨g, cap, rfl⟩
      · exact ⟨_, _, rfl⟩
      · exact ⟨_, _, rfl⟩
    obtain ⟨a2, c2, rfl⟩ := this
    go_enter Yba.func9, Yba.ntmps9
    go_wp2
    refine wp_loop_rounds 1 ?_
    rw [rounds_succ]
    go_wp2
    go_ret
    exact ⟨rfl, 0, rfl⟩
  · rcases h2.shape with ⟨rfl, rfl⟩ | ⟨g2, cap2, rfl⟩
    · go_enter Yba.func9, Yba.ntmps9
      go_wp2
      refine wp_loop_rounds 1 ?_
      rw [rounds_succ]
      go_wp2
      go_ret
      exact ⟨rfl, 0, rfl⟩
    · go_enter Yba.func9, Yba.ntmps9
      go_wp2
      go_loopw [13] (fun i wr => ∃ k : Nat, k ≤ ns.length ∧ i = .int .i64 k ∧ ∃ q, wr = w.drewN q) (fun i _ => ns.length - (intOf i).toNat)
      case atStart => exact ⟨0, Nat.zero_le _, rfl, 0, rfl⟩
      case round =>
        obtain ⟨k, hk, rfl, q, rfl⟩ := hrel
        by_cases hlt : k < ns.length
        · obtain ⟨y, hy⟩ := getS hlt
          have c1 := h1.at hy
          have c2 := h2.at hy
          clear hy
          go_wp2_with fail
          go_quiet (fail)
          go_wp2
          go_roundw
          case rel => exact ⟨k + 1, by omega, by go_num, _, rfl⟩
          case measure => simp [intOf]; omega
        · go_wp2
          go_ret
          exact ⟨rfl, _, rfl⟩

end Go.Proofs.Ybulkehxo
