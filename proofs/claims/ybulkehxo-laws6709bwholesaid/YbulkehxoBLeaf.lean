/-
  FOR LawS6709BWhole: the leaves: zzs6709bmap, slices.Index, slices.Contains, slices.Equal.
-/
import Derived.Test.YbulkehxoBBase
namespace Go.Proofs.Ybulkehxo
open Go.RowKit

/-- A slice of bytes that came in: nil, or a row of 'cap' cells. -/
def IsRow (k : IntKind) (w : World) (a : Option Addr) (len cap : Nat) (zs : List Int) : Prop :=
  (a = none ∧ len = 0 ∧ cap = 0 ∧ zs = []) ∨
  ∃ x, a = some x ∧ len ≤ cap ∧ cap ≤ maxLen ∧ zs.length = cap ∧ (∀ i, i < zs.length → w.cell? (x.add i) = some (.int k (zs.getD i 0))) ∧ ∀ n ∈ zs, (Lit.int k n).wf = true

/-- A row of ints of the call's own. -/
def IRow (w : World) (base : Nat) (v : Value) (ns : List Int) : Prop := w.ownsRow base 24 1 v ns.length (ns.map (Value.int .i64))

/-- The bytes that came in, taken modulo 8. -/
def m8 (zs : List Int) (len : Nat) : List Int := (zs.take len).map (· % 8)

theorem w8 {z : Int} (h : 0 ≤ z ∧ z ≤ 255) : wrap64 (z.tmod 8) = z % 8 := by
  rw [Int.tmod_eq_emod_of_nonneg h.1]
  exact IntWalk.wrap64_in _ (by omega)
theorem grownBy_setNew {w wr : World} (hg : w.grownBy wr none) {a : Addr} (ha : w.heap.size ≤ a.block) (v : Value) : w.grownBy (wr.setCell a v) none :=
  ⟨hg.os, hg.tape, hg.output, by simpa using hg.size, fun k hk h => (Below.heap_setCell _ _ _ _ (by omega)).trans (hg.block k hk h)⟩
theorem m8_length {zs : List Int} {len : Nat} (h : len ≤ zs.length) : (m8 zs len).length = len := by simp [m8]; omega
theorem m8_get {zs : List Int} {len j : Nat} (h : j < len) (hz : len ≤ zs.length) : (m8 zs len)[j]? = some (zs.getD j 0 % 8) := by
  have hj : j < zs.length := by omega
  simp [m8, List.getElem?_take_of_lt h, hj]
theorem row_ext {ys : List Value} {ns : List Int} (hl : ys.length = ns.length) (h : ∀ j, j < ns.length → ys[j]? = some (.int .i64 (ns.getD j 0))) : ys = ns.map (Value.int .i64) := by
  apply List.ext_getElem?
  intro j
  by_cases hj : j < ns.length
  · rw [h j hj]; simp [hj]
  · rw [List.getElem?_eq_none (by omega), List.getElem?_eq_none (by simp; omega)]

set_option maxHeartbeats 400000 in
theorem bmap_some (x : Addr) (len cap : Nat) (zs : List Int) (w : World) (hlen : len ≤ 65536) (hlz : len ≤ zs.length)
    (hc : ∀ i, i < len → w.cell? (x.add i) = some (.int .u8 (zs.getD i 0))) (hz : ∀ i, i < len → 0 ≤ zs.getD i 0 ∧ zs.getD i 0 ≤ 255) :
    Calls Yba.prog 5 #[.slice (some x) len cap] w fun e w' => e = .returned (.slice (some ⟨w.heap.size, 0, none⟩) len len) ∧ IRow w' w.heap.size (.slice (some ⟨w.heap.size, 0, none⟩) len len) (m8 zs len) ∧ w.grownBy w' none := by
  obtain ⟨i0, hi, hz0, hz1, hz2⟩ := info_parts info24
  go_enter Yba.func5, Yba.ntmps5
  go_wp2_with (at_make; refine wpList_make_full _ rfl _ _ 25 rfl w.heap.size 24 i0 (.int .i64 0) 1 Yba.underlying25 hi hz0 hz1 .i64 .i64 _ _ len rfl rfl rfl rfl (by rw [hz2]; omega) (by unfold maxLen; omega) (Nat.le_refl _) ?_; intro w1 ho1 hg1)
  go_loopw [11] (fun i wr => ∃ k : Nat, k ≤ len ∧ i = .int .i64 k ∧ (∃ ys, wr.ownsRow w.heap.size 24 1 (.slice (some ⟨w.heap.size, 0, none⟩) len len) len ys ∧ ∀ j, j < k → ys[j]? = some (.int .i64 (zs.getD j 0 % 8))) ∧ w.grownBy wr none)
    (fun i _ => len - (intOf i).toNat)
  case atStart => exact ⟨0, Nat.zero_le _, rfl, ⟨_, ho1, fun j hj => by omega⟩, hg1⟩
  case round =>
    obtain ⟨k, hk, rfl, ⟨ys, ho, hys⟩, hg⟩ := hrel
    by_cases hlt : k < len
    · have hxb := World.block_lt_of_cell? _ _ (hc k hlt)
      have hcx : wr.cell? (x.add k) = some (.int .u8 (zs.getD k 0)) := hg.cell (hc k hlt) (by simp)
      have hcb := ho.cellAt k (by omega)
      obtain ⟨y, hy⟩ : ∃ y, ys[k]? = some y := ⟨_, List.getElem?_eq_getElem (by rw [ho.1]; omega)⟩
      rw [hy] at hcb
      have hfb := ho.frozenAt k
      have hzk := hz k hlt
      have e8 := w8 hzk
      have HR : Hid (wrap64 ((zs[k]?.getD 0).tmod 8) = zs.getD k 0 % 8) := e8
      clear e8 hy hzk
      go_wp2
      go_roundw
      case rel =>
        rw [HR.out]
        refine ⟨k + 1, by omega, by go_num, ⟨_, (ho.stored k _).1, ?_⟩, grownBy_setNew hg (Nat.le_refl _) _⟩
        intro j hj
        by_cases e : j = k
        · subst e; rw [List.getElem?_set_self (by rw [ho.1]; omega)]
        · rw [List.getElem?_set_ne (by omega)]; exact hys j (by omega)
      case measure => simp [intOf]; omega
    · have hkl : k = len := by omega
      subst hkl
      go_wp2
      go_ret
      refine ⟨rfl, ?_, hg⟩
      unfold IRow
      rw [m8_length hlz, ← row_ext (ys := ys) (by rw [ho.1, m8_length hlz]; omega) (fun j hj => ?_)]
      · exact ho
      · rw [m8_length hlz] at hj
        rw [hys j hj]
        have := m8_get hj hlz
        simp [List.getD, this]

set_option maxHeartbeats 400000 in
theorem bmap_none (len cap : Nat) (w : World) (hlen : len ≤ 0) :
    Calls Yba.prog 5 #[.slice none len cap] w fun e w' => e = .returned (.slice (some ⟨w.heap.size, 0, none⟩) len len) ∧ IRow w' w.heap.size (.slice (some ⟨w.heap.size, 0, none⟩) len len) [] ∧ w.grownBy w' none := by
  obtain ⟨i0, hi, hz0, hz1, hz2⟩ := info_parts info24
  go_enter Yba.func5, Yba.ntmps5
  go_wp2_with (at_make; refine wpList_make_full _ rfl _ _ 25 rfl w.heap.size 24 i0 (.int .i64 0) 1 Yba.underlying25 hi hz0 hz1 .i64 .i64 _ _ len rfl rfl rfl rfl (by rw [hz2]; omega) (by unfold maxLen; omega) (Nat.le_refl _) ?_; intro w1 ho1 hg1)
  go_loopw [11] (fun i wr => ∃ k : Nat, k ≤ len ∧ i = .int .i64 k ∧ (∃ ys, wr.ownsRow w.heap.size 24 1 (.slice (some ⟨w.heap.size, 0, none⟩) len len) len ys) ∧ w.grownBy wr none)
    (fun i _ => len - (intOf i).toNat)
  case atStart => exact ⟨0, Nat.zero_le _, rfl, ⟨_, ho1⟩, hg1⟩
  case round =>
    obtain ⟨k, hk, rfl, ⟨ys, ho⟩, hg⟩ := hrel
    by_cases hlt : k < len
    · omega
    · have hkl : k = len := by omega
      subst hkl
      go_wp2
      go_ret
      refine ⟨rfl, ?_, hg⟩
      obtain rfl : k = 0 := by omega
      obtain rfl : ys = [] := List.eq_nil_of_length_eq_zero (by rw [ho.1])
      exact ho

/-- 'zzs6709bmap', at every slice of bytes. -/
theorem bmap_any (a : Option Addr) (len cap : Nat) (zs : List Int) (w : World) (ha : IsRow .u8 w a len cap zs) (hlen : len ≤ 65536) :
    Calls Yba.prog 5 #[.slice a len cap] w fun e w' => e = .returned (.slice (some ⟨w.heap.size, 0, none⟩) len len) ∧ IRow w' w.heap.size (.slice (some ⟨w.heap.size, 0, none⟩) len len) (m8 zs len) ∧ w.grownBy w' none := by
  rcases ha with ⟨rfl, rfl, rfl, rfl⟩ | ⟨x, rfl, h1, h2, h3, h4, h5⟩
  · exact bmap_none 0 0 w (by omega)
  · refine bmap_some x len cap zs w hlen (by omega) (fun i hi => h4 i (by omega)) (fun i hi => ?_)
    have := range_u8 h5 i
    simpa using this
end Go.Proofs.Ybulkehxo
