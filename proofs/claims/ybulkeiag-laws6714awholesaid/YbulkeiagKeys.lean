/-
  FOR LawS6714AWhole: maps.Keys(m), slices.Sorted(..), by the shelf's contracts laid at this dump.
-/
import Derived.Test.YbulkeiagShelf
import Derived.Test.YbulkeiagBase
namespace Go.Proofs.Ybulkeiag
open Go.RowKit Go.Maps Go.Sort Go.Shelf

theorem sortsA (m : Nat) : AnyZI.SortsIn Yba.prog Yba.sortedA_ren Fence.wide m :=
  ⟨fun blk off cap ss W hH hblk hsz => callsIn_wide.2 (AnyM.slices_Sort_int Yba.sortA blk off cap ss W hH hblk hsz),
   fun p cap W => callsIn_wide.2 (AnyM.slices_Sort_int_none Yba.sortA p cap W)⟩

/-- 'maps.Keys(m)'. -/
theorem keys_call (mb : Option Nat) (W : World) : Calls Yba.prog 8 #[.map mb] W fun e w' => e = .returned (.func (.func 12) #[] #[.pointer (some ⟨W.heap.size, 0, none⟩)]) ∧ w' = W.alloc (.cells #[.map mb] 23) :=
  (callsIn_wide (n := 5)).1 (AnyZI.keys_in Yba.keysA Fence.wide 5 trivial rfl mb W)

/-- 'slices.Sorted(maps.Keys(m))', m not nil: behind 'maps.Keys'. -/
theorem sorted_call {H : Type} (b nn : Nat) (D0 : DataW H) (R : Value → Option (DataW H × List MemPlace)) (w : World) (hown : w.ownsMap Yba.prog 2 R b nn D0) (hmax : Maps.size D0 ≤ maxLen) (hbytes : Maps.size D0 * 8 ≤ 140737488355328) :
    Calls Yba.prog 7 #[.func (.func 12) #[] #[.pointer (some ⟨w.heap.size, 0, none⟩)]] (w.alloc (.cells #[.map (some b)] 23)) fun e w' => ∃ (v : Value) (ss : List Int), e = .returned v ∧ ss.Perm (intKeys D0) ∧
      w'.ownsRow (w.heap.size + 1) 2 1 v ss.length ((ss.mergeSort (fun x y => decide (x ≤ y))).map encZ) ∧ (v = .slice none 0 0 ↔ ss = []) ∧ Below (w.heap.size + 1) (w.alloc (.cells #[.map (some b)] 23)) w' := by
  have hbl := hown.lt
  have hseq : SeqGives Fence.wide 2 Yba.prog 12 #[.pointer (some ⟨w.heap.size, 0, none⟩)] encZ (fun ss => ss.Perm (intKeys D0)) (Maps.size D0) (w.alloc (.cells #[.map (some b)] 23)) :=
    AnyZI.keys_gives (ρ := Yba.keysA_ren) { Yba.keysA with } Fence.wide _ trivial rfl (by omega) w.heap.size b nn D0 _ (by simp) (by simp) (by
      obtain ⟨es, clock, hb, Ft, hs, hD⟩ := hown
      exact ⟨es, clock, (Below.heap_alloc _ _ b hbl).trans hb, Ft, hs, hD⟩)
  have cS := AnyZI.sorted_in Yba.sortedA Fence.wide 5 trivial trivial trivial trivial rfl (by omega) (sortsA _) (enters_of Yba.func11 (by kernel_rfl) rfl) 12 #[.pointer (some ⟨w.heap.size, 0, none⟩)] trivial (enters_of Yba.func12 (by kernel_rfl) rfl) _ _ hmax hbytes _ hseq
  change CallsIn _ _ Yba.prog 7 _ _ _ at cS
  refine ((callsIn_wide (n := 5)).1 cS).mono ?_
  rintro e w' ⟨v, ss, rfl, hS, hrow, hnil, hb⟩
  simp only [World.size_alloc] at hrow hb
  exact ⟨v, ss, rfl, hS, hrow, hnil, hb⟩

/-- .. at the nil map. -/
theorem sorted_call_nil (w : World) :
    Calls Yba.prog 7 #[.func (.func 12) #[] #[.pointer (some ⟨w.heap.size, 0, none⟩)]] (w.alloc (.cells #[.map none] 23)) fun e w' => e = .returned (.slice none 0 0) ∧ Below (w.heap.size + 1) (w.alloc (.cells #[.map none] 23)) w' := by
  have hseq : SeqGives Fence.wide 2 Yba.prog 12 #[.pointer (some ⟨w.heap.size, 0, none⟩)] encZ (fun ss : List Int => ss = []) 0 (w.alloc (.cells #[.map none] 23)) :=
    AnyZI.keys_gives_nil (ρ := Yba.keysA_ren) { Yba.keysA with } Fence.wide _ trivial rfl w.heap.size _ (by simp) (by simp)
  have cS := AnyZI.sorted_in Yba.sortedA Fence.wide 5 trivial trivial trivial trivial rfl (by omega) (sortsA _) (enters_of Yba.func11 (by kernel_rfl) rfl) 12 #[.pointer (some ⟨w.heap.size, 0, none⟩)] trivial (enters_of Yba.func12 (by kernel_rfl) rfl) _ 0 (Nat.zero_le _) (by omega) _ hseq
  change CallsIn _ _ Yba.prog 7 _ _ _ at cS
  refine ((callsIn_wide (n := 5)).1 cS).mono ?_
  rintro e w' ⟨v, ss, rfl, rfl, hrow, hnil, hb⟩
  obtain rfl : v = .slice none 0 0 := hnil.2 rfl
  simp only [World.size_alloc] at hb
  exact ⟨rfl, hb⟩

end Go.Proofs.Ybulkeiag
