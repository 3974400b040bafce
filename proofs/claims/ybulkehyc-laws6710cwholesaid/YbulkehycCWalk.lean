/-
  FOR LawS6710CWhole: (*scanner).digits, zzs6710cmodel, and the bytes as a string.
-/
import Derived.Test.YbulkehycRows
import Derived.WalkKit
import Derived.WalkSpells
import Derived.WalkSmall
import Derived.Handy
import Derived.Laws.BytesString
import Derived.Deep.CutRange
import Derived.WalkLawsBesides
namespace Go.Proofs.Ybulkehyc
open Go.RowKit

/-- k is the first index from n on that is past the text or holds no digit. -/
def Stops (s : ByteArray) (n k : Nat) : Prop :=
  n ≤ k ∧ (∀ j, n ≤ j → j < k → ∃ h : j < s.size, (48 : Int) ≤ (s[j].toNat : Int) ∧ (s[j].toNat : Int) ≤ 57) ∧ ∀ h : k < s.size, ¬ ((48 : Int) ≤ (s[k].toNat : Int) ∧ (s[k].toNat : Int) ≤ 57)

theorem Stops.one {s : ByteArray} {n k k' : Nat} (h : Stops s n k) (h' : Stops s n k') : k = k' := by
  obtain ⟨a, b, c⟩ := h
  obtain ⟨a', b', c'⟩ := h'
  rcases Nat.lt_trichotomy k k' with h | h | h
  · obtain ⟨hk, hd⟩ := b' k a h
    exact absurd hd (c hk)
  · exact h
  · obtain ⟨hk, hd⟩ := b k' a' h
    exact absurd hd (c' hk)

/-- All from n up to k are digits. -/
def Digs (s : ByteArray) (n k : Nat) : Prop := ∀ j, n ≤ j → j < k → ∃ h : j < s.size, (48 : Int) ≤ (s[j].toNat : Int) ∧ (s[j].toNat : Int) ≤ 57
theorem Digs.snoc {s : ByteArray} {n k : Nat} (h : Digs s n k) (hk : k < s.size) (hd : (48 : Int) ≤ (s[k].toNat : Int) ∧ (s[k].toNat : Int) ≤ 57) : Digs s n (k + 1) := fun j h1 h2 => by
  by_cases e : j = k
  · subst e; exact ⟨hk, hd⟩
  · exact h j h1 (by omega)
theorem ret_int {k : IntKind} {a b : Int} (h : a = b) : Ending.returned (.int k a) = .returned (.int k b) := by rw [h]

set_option maxHeartbeats 400000 in
theorem digits_any (b : Nat) (s : ByteArray) (n : Nat) (w : World) (hs : s.size ≤ 1048576) (hn : (n : Int) ≤ 9223372036854775807) (hc : w.cell? ⟨b, 0, none⟩ = some (.string s)) :
    Calls Yba.prog 6 #[.pointer (some ⟨b, 0, none⟩), .int .i64 n] w fun e w' => (∃ k : Nat, e = .returned (.int .i64 k) ∧ Stops s n k) ∧ w' = w := by
  go_enter Yba.func6, Yba.ntmps6
  go_wp2
  go_loop [1] (fun i => ∃ k : Nat, (n ≤ k ∧ (k ≤ s.size ∨ k = n)) ∧ i = .int .i64 k ∧ Hid (Digs s n k)) (fun i => s.size - (intOf i).toNat)
  case atStart => exact ⟨n, ⟨Nat.le_refl _, .inr rfl⟩, rfl, fun j h1 h2 => by omega⟩
  case round =>
    obtain ⟨k, ⟨hk1, hk2⟩, rfl, hd⟩ := hrel
    by_cases hlt : k < s.size
    · by_cases h1 : (48 : Int) ≤ (s[k].toNat : Int)
      · by_cases h2 : (s[k].toNat : Int) ≤ 57
        · go_wp2
          go_round
          case rel => exact ⟨k + 1, ⟨by omega, by omega⟩, by go_num, Digs.snoc hd.out hlt ⟨h1, h2⟩⟩
          case measure => simp [intOf]; omega
        · go_wp2
          go_ret
          exact ⟨⟨k, rfl, hk1, hd.out, fun _ h => by omega⟩, rfl⟩
      · go_wp2
        go_ret
        exact ⟨⟨k, rfl, hk1, hd.out, fun _ h => by omega⟩, rfl⟩
    · have hkn : (k : Int) ≤ 9223372036854775807 := by omega
      go_wp2
      go_ret
      exact ⟨⟨k, rfl, hk1, hd.out, fun h => absurd h hlt⟩, rfl⟩

set_option maxHeartbeats 400000 in
theorem model_any (s : ByteArray) (n : Nat) (w : World) (hs : s.size ≤ 1048576) (_ : (n : Int) ≤ 9223372036854775807) :
    Calls Yba.prog 7 #[.string s, .int .i64 n] w fun e w' => (∃ k : Nat, e = .returned (.int .i64 k) ∧ Stops s n k) ∧ w' = w := by
  by_cases hns : s.size ≤ n
  · go_enter Yba.func7, Yba.ntmps7
    go_wp2
    go_ret
    exact ⟨⟨n, rfl, Nat.le_refl _, fun j h1 h2 => by omega, fun h => by omega⟩, rfl⟩
  · go_enter Yba.func7, Yba.ntmps7
    go_wp2
    go_loop [5] (fun i => ∃ k : Nat, (n ≤ k ∧ k ≤ s.size) ∧ i = .int .i64 k ∧ Hid (Digs s n k)) (fun i => s.size - (intOf i).toNat)
    case atStart => exact ⟨n, ⟨Nat.le_refl _, by omega⟩, rfl, fun j h1 h2 => by omega⟩
    case round =>
      obtain ⟨k, ⟨hk1, hk2⟩, rfl, hd⟩ := hrel
      by_cases hlt : k < s.size
      · by_cases h1 : (48 : Int) ≤ (s[k].toNat : Int)
        · by_cases h2 : (s[k].toNat : Int) ≤ 57
          · go_wp2
            go_round
            case rel => exact ⟨k + 1, ⟨by omega, by omega⟩, by go_num, Digs.snoc hd.out hlt ⟨h1, h2⟩⟩
            case measure => simp [intOf]; omega
          · go_wp2
            go_ret
            exact ⟨⟨k, rfl, hk1, hd.out, fun _ h => by omega⟩, rfl⟩
        · go_wp2
          go_ret
          exact ⟨⟨k, rfl, hk1, hd.out, fun _ h => by omega⟩, rfl⟩
      · go_wp2
        go_ret
        have hke : k = s.size := by omega
        exact ⟨⟨s.size, rfl, by omega, fun j h1 h2 => hd.out j h1 (by omega), fun h => absurd h (by omega)⟩, rfl⟩

theorem info5 : (Yba.prog.info? 5).map (fun i => (i.zero, i.size, i.bytes)) = some (some (.int .u8 0), 1, 1) := by kernel_rfl

theorem pushes_size : ∀ (ns : List Int) (s : ByteArray), (ns.foldl (fun r n => r.push (UInt8.ofNat n.toNat)) s).size = s.size + ns.length
  | [], s => rfl
  | n :: ns, s => by
    rw [List.foldl_cons, pushes_size ns, ByteArray.size_push, List.length_cons]
    omega

/-- The row of bytes, as a string: SOME text of that length. -/
theorem row_text (w : World) (base g len cap : Nat) (ys : List Value) (ho : w.ownsRow base 5 1 (.slice (some ⟨g, 0, none⟩) len cap) len ys) (hb : ∀ j, j < len → ∃ n : Int, ys[j]? = some (.int .u8 n)) :
    ∃ T : ByteArray, T.size = len ∧ (convert 29 9 (.slice (some ⟨g, 0, none⟩) len cap)).run Yba.prog w = .ok (.string T) w := by
  obtain ⟨ns, hns⟩ : ∃ ns : List Int, ys = ns.map (Value.int .u8) := by
    have hl : ys.length = len := by rw [ho.1]; omega
    refine ⟨(List.range len).map (fun j => intOf (ys.getD j undef)), ?_⟩
    apply List.ext_getElem?
    intro j
    by_cases hj : j < len
    · obtain ⟨n, hn⟩ := hb j hj
      rw [hn]
      simp [hj, hn, intOf]
    · rw [List.getElem?_eq_none (by omega), List.getElem?_eq_none (by simp; omega)]
  have hl : ns.length = len := by have := ho.1; rw [hns] at this; simpa using this
  refine ⟨ns.foldl (fun r n => r.push (UInt8.ofNat n.toNat)) ByteArray.empty, ?_, ?_⟩
  · rw [pushes_size]; simpa using hl
  · rw [run_convert_bytes_string w 29 9 5 _ _ _ Yba.underlying29 Yba.underlying5 Yba.underlying9]
    refine run_bytesToString w _ len cap ns ?_
    have := run_loadCells_list (P := Yba.prog) w ⟨g, 0, none⟩ (ns.map (Value.int .u8)) (fun j v hj => by
      rw [Addr.add_lit, Nat.zero_add]
      rw [← hns] at hj
      have hjl : j < len := by have := (List.getElem?_eq_some_iff.1 hj).1; rw [ho.1] at this; omega
      rw [ho.cellAt j (by omega)]
      exact hj)
    rw [List.length_map, hl] at this
    exact this

theorem eql_slice_nil {P : Program} (w : World) (t e : TypeId) (a : Option Addr) (l c : Nat) (h : P.underlying t = some (.slice e)) : (binOp .eql t (.slice a l c) (.slice none 0 0)).run P w = .ok (.bool a.isNone) w := by
  simp only [binOp]
  simp [run_equal_slice_nil w t e a l c h]
theorem eql31 (w : World) : (binOp .eql 31 (.slice none 0 0) (.slice none 0 0)).run Yba.prog w = .ok (.bool true) w := eql_slice_nil w 31 62 none 0 0 Yba.underlying31
theorem eql32 (w : World) : (binOp .eql 32 (.slice none 0 0) (.slice none 0 0)).run Yba.prog w = .ok (.bool true) w := eql_slice_nil w 32 26 none 0 0 Yba.underlying32
attribute [local go_sem] eql31 eql32

set_option maxHeartbeats 400000 in
theorem law_long (s : ByteArray) (a i : Int) (w : World) (hs : 1048576 < s.size) (hm : s.size ≤ maxLen) :
    Calls Yba.prog 4 #[.string s, .int .i64 a, .int .i64 i] w fun e w' => e = .returned (.bool true) ∧ Below w.heap.size w w' := by
  unfold maxLen at hm
  go_enter Yba.func4, Yba.ntmps4
  go_wp2
  go_ret
  exact ⟨rfl, Below.refl _ _⟩

set_option maxHeartbeats 2000000 in
set_option maxRecDepth 100000 in
theorem law_main (s : ByteArray) (a i : Int) (w : World) (hs : s.size ≤ 1048576) (hi1 : -9223372036854775808 ≤ i) (hi2 : i ≤ 9223372036854775807) :
    Calls Yba.prog 4 #[.string s, .int .i64 a, .int .i64 i] w fun e w' => e = .returned (.bool true) ∧ Below w.heap.size w w' := by
  obtain ⟨i0, hi, hz0, hz1, hz2⟩ := info_parts info5
  obtain ⟨n, hn, hn0⟩ : ∃ n : Nat, (n : Int) = (if i < 0 then -(i + 1) else i) ∧ (n : Int) ≤ 9223372036854775807 := ⟨(if i < 0 then -(i + 1) else i).toNat, by split <;> omega, by split <;> omega⟩
  have Hn : Hid ((n : Int) = (if i < 0 then -(i + 1) else i)) := hn
  clear hn
  go_enter Yba.func4, Yba.ntmps4
  go_upto_if 17 with fail
  go_cut [2] from 18 to 20 (fun c wx => c = .int .i64 n ∧ wx = w)
  case first =>
    by_cases hneg : i < 0
    · have hn' : (n : Int) = -(i + 1) := by rw [Hn.out, if_pos hneg]
      have Hn' : Hid ((n : Int) = -(i + 1)) := hn'
      clear hn'
      go_wp2_with fail
      go_meet
      case rel => exact ⟨by rw [Hn'.out], rfl⟩
    · have Hn' : Hid ((n : Int) = i) := by rw [Hn.out, if_neg hneg]; exact rfl
      go_wp2_with fail
      go_meet
      case rel => exact ⟨by rw [Hn'.out], rfl⟩
  case rest =>
    obtain ⟨rfl, hwc⟩ := hcut
    have hwc' := hwc.symm
    clear hwc
    subst hwc'
    go_wp2_with (at_make; refine wpList_make_full _ rfl _ _ 29 rfl w.heap.size 5 i0 (.int .u8 0) 1 Yba.underlying29 hi hz0 hz1 .i64 .i64 _ _ s.size rfl rfl rfl rfl (by rw [hz2]; omega) (by unfold maxLen; omega) (Nat.le_refl _) ?_; intro w1 ho1 hg1)
    have hb1 : Below w.heap.size w w1 := (Below.refl _ _).grown hg1 (Nat.le_refl _) (by simp)
    have hy1 : ∀ j, j < s.size → ∃ n : Int, (madeCells (Value.int .u8 0).cells (s.size * 1)).toList[j]? = some (.int .u8 n) := fun j hj => by
      have hj' : j < (madeCells (Value.int .u8 0).cells (s.size * 1)).size := by rw [size_madeCells]; omega
      refine ⟨0, ?_⟩
      rw [Array.getElem?_toList, Array.getElem?_eq_getElem hj']
      simp [madeCells, Value.cells, Nat.mod_one]
    go_loopw [8] (fun i wr => ∃ k : Nat, k ≤ s.size ∧ i = .int .i64 k ∧ (∃ ys, wr.ownsRow w.heap.size 5 1 (.slice (some ⟨w.heap.size, 0, none⟩) s.size s.size) s.size ys ∧ ∀ j, j < s.size → ∃ n : Int, ys[j]? = some (.int .u8 n)) ∧ Below w.heap.size w wr)
      (fun i _ => s.size - (intOf i).toNat)
    case atStart => exact ⟨0, Nat.zero_le _, rfl, ⟨_, ho1, hy1⟩, hb1⟩
    clear ho1 hg1 hb1 hy1
    case round =>
      obtain ⟨k, hk, rfl, ⟨ys, ho, hys⟩, hb⟩ := hrel
      by_cases hlt : k < s.size
      · have hcb := ho.cellAt k (by omega)
        obtain ⟨y, hy⟩ := hys k hlt
        rw [hy] at hcb
        have hfb := ho.frozenAt k
        clear hy
        have HR : Hid (∀ x : Int, (∃ ys, (wr.setCell ⟨w.heap.size, k, none⟩ (.int .u8 x)).ownsRow w.heap.size 5 1 (.slice (some ⟨w.heap.size, 0, none⟩) s.size s.size) s.size ys ∧ ∀ j, j < s.size → ∃ n : Int, ys[j]? = some (.int .u8 n)) ∧ Below w.heap.size w (wr.setCell ⟨w.heap.size, k, none⟩ (.int .u8 x))) := by
          intro x
          refine ⟨⟨_, (ho.stored k (.int .u8 x)).1, fun j hj => ?_⟩, hb.setCell (Nat.le_refl _) _⟩
          by_cases e : j = k
          · subst e; rw [List.getElem?_set_self (by rw [ho.1]; omega)]; exact ⟨_, rfl⟩
          · rw [List.getElem?_set_ne (by omega)]; exact hys j hj
        clear ho hys hb
        go_wp2
        all_goals
          go_roundw
          case rel => exact ⟨k + 1, by omega, by go_num, HR.out _⟩
          case measure => simp [intOf]; omega
      · obtain ⟨T, hT, hconv⟩ := row_text wr w.heap.size w.heap.size s.size s.size ys ho hys
        have hsz := hb.size
        have hm : (n : Int) % ((s.size : Int) + 3) = ((n % (s.size + 3) : Nat) : Int) := by push_cast; rfl
        have hml : n % (s.size + 3) < s.size + 3 := Nat.mod_lt _ (by omega)
        by_cases hz : s.size = 0
        · have hz' : s.size ≤ 0 := by omega
          clear hm hz
          go_wp2_with fail
          refine (digits_any wr.heap.size T (n) _ (by omega) (by omega) (by simp)).mono ?_
          rintro e w' ⟨⟨k1, rfl, hk1⟩, rfl⟩
          go_wp2_with fail
          refine (model_any T (n) _ (by omega) (by omega)).mono ?_
          rintro e w' ⟨⟨k2, rfl, hk2⟩, rfl⟩
          obtain rfl := hk1.one hk2
          clear hk1 hk2
          go_wp2_with fail
          go_ret
          exact ⟨rfl, hb.alloc hsz _⟩
        · have hz' : 0 < s.size := by omega
          clear hz
          by_cases hbig : s.size + 2 < n
          · have Hm : Hid ((n : Int) % ((s.size : Int) + 3) = ((n % (s.size + 3) : Nat) : Int)) := hm
            clear hm
            go_wp2_with fail
            rw [Hm.out]
            generalize n % (s.size + 3) = m at hml ⊢
            refine (digits_any wr.heap.size T (m) _ (by omega) (by omega) (by simp)).mono ?_
            rintro e w' ⟨⟨k1, rfl, hk1⟩, rfl⟩
            go_wp2_with fail
            refine (model_any T (m) _ (by omega) (by omega)).mono ?_
            rintro e w' ⟨⟨k2, rfl, hk2⟩, rfl⟩
            obtain rfl := hk1.one hk2
            clear hk1 hk2
            go_wp2_with fail
            go_ret
            exact ⟨rfl, hb.alloc hsz _⟩
          · clear hm
            go_wp2_with fail
            refine (digits_any wr.heap.size T (n) _ (by omega) (by omega) (by simp)).mono ?_
            rintro e w' ⟨⟨k1, rfl, hk1⟩, rfl⟩
            go_wp2_with fail
            refine (model_any T (n) _ (by omega) (by omega)).mono ?_
            rintro e w' ⟨⟨k2, rfl, hk2⟩, rfl⟩
            obtain rfl := hk1.one hk2
            clear hk1 hk2
            go_wp2_with fail
            go_ret
            exact ⟨rfl, hb.alloc hsz _⟩

end Go.Proofs.Ybulkehyc
