/-
  THE WALK of 'LawS6708BPart'.
-/
import Derived.Test.YbulkehxaFmtPart
import Derived.Deep.QuietTactic
import Derived.BigQuiet
import Derived.WalkSmall
namespace Go.Proofs.YbulkehxaFmt
open Go.Extern.Stop Go.Stop Go.Extern Go.RowKit

/-- A slice of integers that came in: nil, or a row of 'cap' cells. -/
def IsRow (k : IntKind) (w : World) (a : Option Addr) (len cap : Nat) (zs : List Int) : Prop :=
  (a = none ∧ len = 0 ∧ cap = 0 ∧ zs = []) ∨
  ∃ x, a = some x ∧ len ≤ cap ∧ cap ≤ maxLen ∧ zs.length = cap ∧ (∀ i, i < zs.length → w.cell? (x.add i) = some (.int k (zs.getD i 0))) ∧ ∀ n ∈ zs, (Lit.int k n).wf = true

set_option maxHeartbeats 400000 in
set_option maxRecDepth 100000 in
theorem law_long (q : Bool) (a : Option Addr) (len cap : Nat) (sz cov parts n : Int) (peer : ByteArray) (w : World) (hlen : 1048576 < len) (hm : len ≤ maxLen) :
    Calls Ybaf.prog 3 #[.bool q, .slice a len cap, .int .i64 sz, .int .i64 cov, .int .i64 parts, .int .i64 n, .string peer] w fun e w' => e = .returned (.bool true) ∧ Below w.heap.size w w' := by
  unfold maxLen at hm
  go_enter Ybaf.func3, Ybaf.ntmps3
  go_wp2
  go_ret
  exact ⟨rfl, Below.refl _ _⟩

set_option maxHeartbeats 400000 in
set_option maxRecDepth 100000 in
theorem law_nil (a : Option Addr) (len cap : Nat) (sz cov parts n : Int) (peer : ByteArray) (w : World) (hlen : len ≤ 1048576) :
    Calls Ybaf.prog 3 #[.bool true, .slice a len cap, .int .i64 sz, .int .i64 cov, .int .i64 parts, .int .i64 n, .string peer] w fun e w' => e = .returned (.bool true) ∧ Below w.heap.size w w' := by
  go_enter Ybaf.func3, Ybaf.ntmps3
  go_wp2_with (go_at_call 4; refine (unparsed_nil _ _).mono ?_; rintro e w' ⟨rfl, rfl⟩)
  go_ret
  exact ⟨rfl, Below.refl _ _⟩

theorem strCells_get (s : ByteArray) (i : Nat) (h : i < s.size) : (Lib.strCells s)[i]? = some (.int .u8 (s[i].toNat : Int)) := by
  have h' : i < s.data.size := h
  simp only [Lib.strCells, List.getElem?_map, Array.getElem?_toList, Array.getElem?_eq_getElem h', Option.map_some]
  rfl

attribute [local go_sem] neq25

set_option maxHeartbeats 1000000 in
set_option maxRecDepth 100000 in
theorem law_main (F : Interp) (x : Addr) (len cap : Nat) (zs : List Int) (sz cov parts n : Int) (peer : ByteArray) (w : World) (hF : F.answers w.tape) (hlen : len ≤ 1048576) (hlz : len ≤ zs.length)
    (hc : ∀ i, i < zs.length → w.cell? (x.add i) = some (.int .u8 (zs.getD i 0))) (ht : (FmtStop.textOf (F "fmt.Sprintf" (reading n) 0)).size ≤ 1000) :
    Calls Ybaf.prog 3 #[.bool false, .slice (some x) len cap, .int .i64 sz, .int .i64 cov, .int .i64 parts, .int .i64 n, .string peer] w fun e w' => e = .returned (.bool true) ∧ Below w.heap.size w w' := by
  obtain ⟨i0, hi, hz0, hz1, hz2⟩ := info_parts info5
  go_enter Ybaf.func3, Ybaf.ntmps3
  go_wp2_with (at_make; refine wpList_make_full _ rfl _ _ 22 rfl w.heap.size 5 i0 (.int .u8 0) 1 Ybaf.underlying22 hi hz0 hz1 .i64 .i64 _ _ len rfl rfl rfl rfl (by rw [hz2]; omega) (by unfold maxLen; omega) (Nat.le_refl _) ?_; intro w1 ho1 hg1)
  have hb1 : Below w.heap.size w w1 := (Below.refl _ _).grown hg1 (Nat.le_refl _) (by simp)
  go_loopw [17] (fun i wr => ∃ k : Nat, k ≤ len ∧ i = .int .i64 k ∧ (∃ ys, wr.ownsRow w.heap.size 5 1 (.slice (some ⟨w.heap.size, 0, none⟩) len len) len ys ∧ ∀ j, j < k → ys[j]? = some (.int .u8 (zs.getD j 0))) ∧ Below w.heap.size w wr)
    (fun i _ => len - (intOf i).toNat)
  case atStart => exact ⟨0, Nat.zero_le _, rfl, ⟨_, ho1, fun j hj => by omega⟩, hb1⟩
  case round =>
    obtain ⟨k, hk, rfl, ⟨ys, ho, hys⟩, hb⟩ := hrel
    by_cases hlt : k < len
    · have hcx : wr.cell? (x.add k) = some (.int .u8 (zs.getD k 0)) := (hb.cell (World.block_lt_of_cell? _ _ (hc k (by omega)))).trans (hc k (by omega))
      have hcb := ho.cellAt k (by omega)
      obtain ⟨y, hy⟩ : ∃ y, ys[k]? = some y := ⟨_, List.getElem?_eq_getElem (by rw [ho.1]; omega)⟩
      rw [hy] at hcb
      have hfb := ho.frozenAt k
      obtain ⟨ho2, hg2⟩ := ho.stored k (.int .u8 (zs.getD k 0))
      have hb2 : Below w.heap.size w (wr.setCell ⟨w.heap.size, k, none⟩ (.int .u8 (zs.getD k 0))) := hb.setCell (Nat.le_refl _) _
      have hys2 : ∀ j, j < k + 1 → (ys.set k (.int .u8 (zs.getD k 0)))[j]? = some (.int .u8 (zs.getD j 0)) := by
        intro j hj
        by_cases e : j = k
        · subst e; rw [List.getElem?_set_self (by rw [ho.1]; omega)]
        · rw [List.getElem?_set_ne (by omega)]; exact hys j (by omega)
      have HR : Hid ((∃ ys, (wr.setCell ⟨w.heap.size, k, none⟩ (.int .u8 (zs.getD k 0))).ownsRow w.heap.size 5 1 (.slice (some ⟨w.heap.size, 0, none⟩) len len) len ys ∧ ∀ j, j < k + 1 → ys[j]? = some (.int .u8 (zs.getD j 0))) ∧ Below w.heap.size w (wr.setCell ⟨w.heap.size, k, none⟩ (.int .u8 (zs.getD k 0)))) := ⟨⟨_, ho2, hys2⟩, hb2⟩
      clear ho2 hg2 hb2 hys2 hy ho hys hb hc ho1 hg1 hb1
      go_wp2
      go_roundw
      case rel => exact ⟨k + 1, by omega, by go_num, HR.out⟩
      case measure => simp [intOf]; omega
    · have hkl : k = len := by omega
      subst hkl
      have hFr : F.answers wr.tape := by rw [hb.tape]; exact hF
      have hsz := hb.size
      have hws : w.heap.size < wr.heap.size := (ho.lt _ rfl).2
      clear ho1 hg1 hb1
      go_wp2_with fail
      have hl0 : IsLine ((wr.alloc (.cells #[.nilIface, .string peer] 29)).alloc (.cells #[.pointer (some ⟨wr.heap.size, 0, none⟩), .slice (some ⟨w.heap.size, 0, none⟩) k k, .int .i64 sz, .int .i64 cov, .int .i64 parts] 31)) (wr.heap.size + 1) (.pointer (some ⟨wr.heap.size, 0, none⟩)) (.slice (some ⟨w.heap.size, 0, none⟩) k k) sz cov parts := by
        unfold IsLine
        have := heap_alloc_new (wr.alloc (.cells #[.nilIface, .string peer] 29)) (.cells #[.pointer (some ⟨wr.heap.size, 0, none⟩), .slice (some ⟨w.heap.size, 0, none⟩) k k, .int .i64 sz, .int .i64 cov, .int .i64 parts] 31)
        simpa using this
      refine (unparsed_any F (wr.heap.size + 1) w.heap.size k n _ _ ys sz cov parts _ (by exact hFr) hl0 ((ho.alloc _).alloc _) (by simp; omega) (by omega) ht).mono ?_
      rintro e w2 ⟨rfl, v2, hl2, ho2, hst2⟩
      have hsl := sep_le parts
      obtain ⟨g2, cap2, rfl⟩ := owns_shape ho2 (by omega)
      have c0 := hl2.c0
      have c1 := hl2.c1
      have c2 := hl2.c2
      have c3 := hl2.c3
      have c4 := hl2.c4
      have hbt : w2.heap[wr.heap.size]? = some (.cells #[.nilIface, .string peer] 29 (0, 0)) := hst2.other wr.heap.size _ 29 (0, 0) (by rw [Below.heap_alloc _ _ _ (by simp)]; exact heap_alloc_new _ _) (by decide) (by omega)
      have t0 : w2.cell? ⟨wr.heap.size, 0, none⟩ = some .nilIface := by simp [World.cell?, hbt]
      have t1 : w2.cell? ⟨wr.heap.size, 1, none⟩ = some (.string peer) := by simp [World.cell?, hbt]
      have hb2 : Below w.heap.size w w2 := ((hb.alloc (by omega) _).alloc (by simp; omega) _).trans (hst2.toBelow (by omega))
      have hcx : ∀ i, i < k → w2.cell? (x.add i) = some (.int .u8 (zs.getD i 0)) := fun i hi' => (hb2.cell (World.block_lt_of_cell? _ _ (hc i (by omega)))).trans (hc i (by omega))
      have hcl : ∀ i, i < k → w2.cell? ⟨g2, i, none⟩ = some (.int .u8 (zs.getD i 0)) := fun i hi' => by
        rw [ho2.cellAt i (by omega), List.append_assoc, List.getElem?_append_left (by rw [ho.1]; omega)]
        exact hys i hi'
      have hcs : ∀ i, (h : i < (sep parts).size) → w2.cell? ⟨g2, k + i, none⟩ = some (.int .u8 ((sep parts)[i].toNat : Int)) := fun i hi' => by
        rw [ho2.cellAt (k + i) (by omega), List.append_assoc, List.getElem?_append_right (by rw [ho.1]; omega), ho.1, Nat.mul_one, Nat.add_sub_cancel_left, List.getElem?_append_left (by rw [Lib.strCells_length]; exact hi')]
        exact strCells_get _ _ hi'
      clear hl0 hl2 hst2 hbt hys hc ho2 ho hb
      generalize (FmtStop.textOf (F "fmt.Sprintf" (reading n) 0)).size = m at *
      have hb3 : ∀ q, Below w.heap.size w (w2.drewN q) := fun q => below_drewN hb2 q
      by_cases hp : parts = 0
      · subst hp
        have es : sep 0 = ⟨#[58, 32]⟩ := rfl
        have e1 : wrap64 (0 + 1) = 1 := by decide +kernel
        rw [es] at hcs c1
        rw [e1] at c4
        clear es e1 hsl
        go_wp2_with fail
        go_loopw [21] (fun i wr' => ∃ j : Nat, j ≤ k ∧ i = .int .i64 j ∧ ∃ q, wr' = w2.drewN q) (fun i _ => k - (intOf i).toNat)
        case atStart => exact ⟨0, Nat.zero_le _, rfl, 0, rfl⟩
        case round =>
          obtain ⟨j, hj, rfl, q, rfl⟩ := hrel
          by_cases hlt2 : j < k
          · have c5 := hcx j hlt2
            have c6 := hcl j hlt2
            go_wp2_with fail
            go_quiet (fail)
            go_wp2
            go_roundw
            case rel => exact ⟨j + 1, by omega, by go_num, _, rfl⟩
            case measure => simp [intOf]; omega
          · have hjk : j = k := by omega
            subst hjk
            go_wp2_with fail
            go_loopw [22] (fun i wr' => ∃ j : Nat, j ≤ 2 ∧ i = .int .i64 j ∧ ∃ q, wr' = w2.drewN q) (fun i _ => 2 - (intOf i).toNat)
            case atStart => exact ⟨0, Nat.zero_le _, rfl, _, rfl⟩
            case round =>
              obtain ⟨i, hi3, rfl, q3, rfl⟩ := hrel
              by_cases hlt3 : i < 2
              · have c7 := hcs i hlt3
                go_wp2_with fail
                go_quiet (fail)
                go_wp2
                go_roundw
                case rel => exact ⟨i + 1, by omega, by go_num, _, rfl⟩
                case measure => simp [intOf]; omega
              · go_wp2_with fail
                go_ret
                exact ⟨rfl, hb3 _⟩
      · have es : sep parts = ⟨#[32, 124, 32]⟩ := if_neg hp
        rw [es] at hcs c1
        clear es hsl
        go_wp2_with fail
        go_loopw [21] (fun i wr' => ∃ j : Nat, j ≤ k ∧ i = .int .i64 j ∧ ∃ q, wr' = w2.drewN q) (fun i _ => k - (intOf i).toNat)
        case atStart => exact ⟨0, Nat.zero_le _, rfl, 0, rfl⟩
        case round =>
          obtain ⟨j, hj, rfl, q, rfl⟩ := hrel
          by_cases hlt2 : j < k
          · have c5 := hcx j hlt2
            have c6 := hcl j hlt2
            go_wp2_with fail
            go_quiet (fail)
            go_wp2
            go_roundw
            case rel => exact ⟨j + 1, by omega, by go_num, _, rfl⟩
            case measure => simp [intOf]; omega
          · have hjk : j = k := by omega
            subst hjk
            go_wp2_with fail
            go_loopw [22] (fun i wr' => ∃ j : Nat, j ≤ 3 ∧ i = .int .i64 j ∧ ∃ q, wr' = w2.drewN q) (fun i _ => 3 - (intOf i).toNat)
            case atStart => exact ⟨0, Nat.zero_le _, rfl, _, rfl⟩
            case round =>
              obtain ⟨i, hi3, rfl, q3, rfl⟩ := hrel
              by_cases hlt3 : i < 3
              · have c7 := hcs i hlt3
                go_wp2_with fail
                go_quiet (fail)
                go_wp2
                go_roundw
                case rel => exact ⟨i + 1, by omega, by go_num, _, rfl⟩
                case measure => simp [intOf]; omega
              · go_wp2_with fail
                go_ret
                exact ⟨rfl, hb3 _⟩

set_option maxHeartbeats 1000000 in
set_option maxRecDepth 100000 in
theorem law_none (F : Interp) (len cap : Nat) (sz cov parts n : Int) (peer : ByteArray) (w : World) (hF : F.answers w.tape) (hlen : len ≤ 1048576) (hlz : len ≤ 0)
    (ht : (FmtStop.textOf (F "fmt.Sprintf" (reading n) 0)).size ≤ 1000) :
    Calls Ybaf.prog 3 #[.bool false, .slice none len cap, .int .i64 sz, .int .i64 cov, .int .i64 parts, .int .i64 n, .string peer] w fun e w' => e = .returned (.bool true) ∧ Below w.heap.size w w' := by
  obtain ⟨i0, hi, hz0, hz1, hz2⟩ := info_parts info5
  go_enter Ybaf.func3, Ybaf.ntmps3
  go_wp2_with (at_make; refine wpList_make_full _ rfl _ _ 22 rfl w.heap.size 5 i0 (.int .u8 0) 1 Ybaf.underlying22 hi hz0 hz1 .i64 .i64 _ _ len rfl rfl rfl rfl (by rw [hz2]; omega) (by unfold maxLen; omega) (Nat.le_refl _) ?_; intro w1 ho1 hg1)
  have hb1 : Below w.heap.size w w1 := (Below.refl _ _).grown hg1 (Nat.le_refl _) (by simp)
  go_loopw [17] (fun i wr => ∃ k : Nat, k ≤ len ∧ i = .int .i64 k ∧ (∃ ys, wr.ownsRow w.heap.size 5 1 (.slice (some ⟨w.heap.size, 0, none⟩) len len) len ys) ∧ Below w.heap.size w wr)
    (fun i _ => len - (intOf i).toNat)
  case atStart => exact ⟨0, Nat.zero_le _, rfl, ⟨_, ho1⟩, hb1⟩
  case round =>
    obtain ⟨k, hk, rfl, ⟨ys, ho⟩, hb⟩ := hrel
    by_cases hlt : k < len
    · omega
    · have hkl : k = len := by omega
      subst hkl
      have hFr : F.answers wr.tape := by rw [hb.tape]; exact hF
      have hsz := hb.size
      have hws : w.heap.size < wr.heap.size := (ho.lt _ rfl).2
      clear ho1 hg1 hb1
      go_wp2_with fail
      have hl0 : IsLine ((wr.alloc (.cells #[.nilIface, .string peer] 29)).alloc (.cells #[.pointer (some ⟨wr.heap.size, 0, none⟩), .slice (some ⟨w.heap.size, 0, none⟩) k k, .int .i64 sz, .int .i64 cov, .int .i64 parts] 31)) (wr.heap.size + 1) (.pointer (some ⟨wr.heap.size, 0, none⟩)) (.slice (some ⟨w.heap.size, 0, none⟩) k k) sz cov parts := by
        unfold IsLine
        have := heap_alloc_new (wr.alloc (.cells #[.nilIface, .string peer] 29)) (.cells #[.pointer (some ⟨wr.heap.size, 0, none⟩), .slice (some ⟨w.heap.size, 0, none⟩) k k, .int .i64 sz, .int .i64 cov, .int .i64 parts] 31)
        simpa using this
      refine (unparsed_any F (wr.heap.size + 1) w.heap.size k n _ _ ys sz cov parts _ (by exact hFr) hl0 ((ho.alloc _).alloc _) (by simp; omega) (by omega) ht).mono ?_
      rintro e w2 ⟨rfl, v2, hl2, ho2, hst2⟩
      have hsl := sep_le parts
      obtain ⟨g2, cap2, rfl⟩ := owns_shape ho2 (by omega)
      have c0 := hl2.c0
      have c1 := hl2.c1
      have c2 := hl2.c2
      have c3 := hl2.c3
      have c4 := hl2.c4
      have hbt : w2.heap[wr.heap.size]? = some (.cells #[.nilIface, .string peer] 29 (0, 0)) := hst2.other wr.heap.size _ 29 (0, 0) (by rw [Below.heap_alloc _ _ _ (by simp)]; exact heap_alloc_new _ _) (by decide) (by omega)
      have t0 : w2.cell? ⟨wr.heap.size, 0, none⟩ = some .nilIface := by simp [World.cell?, hbt]
      have t1 : w2.cell? ⟨wr.heap.size, 1, none⟩ = some (.string peer) := by simp [World.cell?, hbt]
      have hb2 : Below w.heap.size w w2 := ((hb.alloc (by omega) _).alloc (by simp; omega) _).trans (hst2.toBelow (by omega))
      have hcs : ∀ i, (h : i < (sep parts).size) → w2.cell? ⟨g2, k + i, none⟩ = some (.int .u8 ((sep parts)[i].toNat : Int)) := fun i hi' => by
        rw [ho2.cellAt (k + i) (by omega), List.append_assoc, List.getElem?_append_right (by rw [ho.1]; omega), ho.1, Nat.mul_one, Nat.add_sub_cancel_left, List.getElem?_append_left (by rw [Lib.strCells_length]; exact hi')]
        exact strCells_get _ _ hi'
      clear hl0 hl2 hst2 hbt ho2 ho hb
      generalize (FmtStop.textOf (F "fmt.Sprintf" (reading n) 0)).size = m at *
      have hb3 : ∀ q, Below w.heap.size w (w2.drewN q) := fun q => below_drewN hb2 q
      by_cases hp : parts = 0
      · subst hp
        have es : sep 0 = ⟨#[58, 32]⟩ := rfl
        have e1 : wrap64 (0 + 1) = 1 := by decide +kernel
        rw [es] at hcs c1
        rw [e1] at c4
        clear es e1 hsl
        go_wp2_with fail
        go_loopw [21] (fun i wr' => ∃ j : Nat, j ≤ k ∧ i = .int .i64 j ∧ ∃ q, wr' = w2.drewN q) (fun i _ => k - (intOf i).toNat)
        case atStart => exact ⟨0, Nat.zero_le _, rfl, 0, rfl⟩
        case round =>
          obtain ⟨j, hj, rfl, q, rfl⟩ := hrel
          by_cases hlt2 : j < k
          · omega
          · have hjk : j = k := by omega
            subst hjk
            go_wp2_with fail
            go_loopw [22] (fun i wr' => ∃ j : Nat, j ≤ 2 ∧ i = .int .i64 j ∧ ∃ q, wr' = w2.drewN q) (fun i _ => 2 - (intOf i).toNat)
            case atStart => exact ⟨0, Nat.zero_le _, rfl, _, rfl⟩
            case round =>
              obtain ⟨i, hi3, rfl, q3, rfl⟩ := hrel
              by_cases hlt3 : i < 2
              · have c7 := hcs i hlt3
                go_wp2_with fail
                go_quiet (fail)
                go_wp2
                go_roundw
                case rel => exact ⟨i + 1, by omega, by go_num, _, rfl⟩
                case measure => simp [intOf]; omega
              · go_wp2_with fail
                go_ret
                exact ⟨rfl, hb3 _⟩
      · have es : sep parts = ⟨#[32, 124, 32]⟩ := if_neg hp
        rw [es] at hcs c1
        clear es hsl
        go_wp2_with fail
        go_loopw [21] (fun i wr' => ∃ j : Nat, j ≤ k ∧ i = .int .i64 j ∧ ∃ q, wr' = w2.drewN q) (fun i _ => k - (intOf i).toNat)
        case atStart => exact ⟨0, Nat.zero_le _, rfl, 0, rfl⟩
        case round =>
          obtain ⟨j, hj, rfl, q, rfl⟩ := hrel
          by_cases hlt2 : j < k
          · omega
          · have hjk : j = k := by omega
            subst hjk
            go_wp2_with fail
            go_loopw [22] (fun i wr' => ∃ j : Nat, j ≤ 3 ∧ i = .int .i64 j ∧ ∃ q, wr' = w2.drewN q) (fun i _ => 3 - (intOf i).toNat)
            case atStart => exact ⟨0, Nat.zero_le _, rfl, _, rfl⟩
            case round =>
              obtain ⟨i, hi3, rfl, q3, rfl⟩ := hrel
              by_cases hlt3 : i < 3
              · have c7 := hcs i hlt3
                go_wp2_with fail
                go_quiet (fail)
                go_wp2
                go_roundw
                case rel => exact ⟨i + 1, by omega, by go_num, _, rfl⟩
                case measure => simp [intOf]; omega
              · go_wp2_with fail
                go_ret
                exact ⟨rfl, hb3 _⟩

/-- THE LAW's WALK, at every slice of bytes. -/
theorem law_walk (F : Interp) (q : Bool) (a : Option Addr) (len cap : Nat) (zs : List Int) (sz cov parts n : Int) (peer : ByteArray) (w : World) (hF : F.answers w.tape) (ha : IsRow .u8 w a len cap zs)
    (ht : (FmtStop.textOf (F "fmt.Sprintf" (reading n) 0)).size ≤ 1000) :
    Calls Ybaf.prog 3 #[.bool q, .slice a len cap, .int .i64 sz, .int .i64 cov, .int .i64 parts, .int .i64 n, .string peer] w fun e w' => e = .returned (.bool true) ∧ Below w.heap.size w w' := by
  by_cases hlen : 1048576 < len
  · refine law_long q a len cap sz cov parts n peer w hlen ?_
    rcases ha with ⟨_, rfl, _⟩ | ⟨x, _, h1, h2, _⟩ <;> omega
  · cases q with
    | true => exact law_nil a len cap sz cov parts n peer w (by omega)
    | false =>
      rcases ha with ⟨rfl, rfl, rfl, rfl⟩ | ⟨x, rfl, h1, h2, h3, h4, _⟩
      · exact law_none F 0 0 sz cov parts n peer w hF (by omega) (by omega) ht
      · exact law_main F x len cap zs sz cov parts n peer w hF (by omega) (by omega) h4 ht

end Go.Proofs.YbulkehxaFmt
