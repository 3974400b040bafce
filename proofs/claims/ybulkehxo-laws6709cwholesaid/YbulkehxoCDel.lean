/-
  FOR LawS6709CWhole: slices.DeleteFunc at the accounts, with the closure of resolve.
-/
import Derived.Test.YbulkehxoCShelf
import Derived.Test.YbulkehxoCLeaf
namespace Go.Proofs.Ybulkehxo
open Go.RowKit Go.Shelf Go.Lib Go.Sort

theorem info57 : (Yba.prog.info? 57).map (fun i => (i.zero, i.size, i.bytes)) = some (some (.pointer none), 1, 8) := by kernel_rfl
theorem info71 : ∃ j, Yba.prog.info? 71 = some j ∧ j.size = 9 := by
  have h : (Yba.prog.info? 71).map (·.size) = some 9 := by kernel_rfl
  obtain ⟨j, hj, e⟩ := Option.map_eq_some_iff.1 h
  exact ⟨j, hj, e⟩
theorem zero57 (w : World) : (zeroValue 57).run Yba.prog w = .ok (.pointer none) w := by kernel_rfl

section
variable {P : Program} (w : World)
theorem eqIn_ptr_same (n : Nat) {t e : TypeId} {j : TypeInfo} (a : Addr) (hp : P.underlying t = some (.pointer e)) (hte : P.info? e = some j) :
    (Op.equalIn (n + 1) t (.pointer (some a)) (.pointer (some a))).run P w = .ok true w := by
  simp [Op.equalIn, run_underlying hp, typeInfo, sizeOf, run_sameAddr_same, hte]
theorem eqIn_ptr_other (n : Nat) {t e : TypeId} {j : TypeInfo} {a b : Addr} {ca cb : Array Value} {ta tb : TypeId} (hne : a ≠ b) (ha : w.heap[a.block]? = some (.cells ca ta (0, 0))) (hb : w.heap[b.block]? = some (.cells cb tb (0, 0)))
    (hp : P.underlying t = some (.pointer e)) (hte : P.info? e = some j) (hj : j.size ≠ 0) :
    (Op.equalIn (n + 1) t (.pointer (some a)) (.pointer (some b))).run P w = .ok false w := by
  simp [Op.equalIn, run_underlying hp, typeInfo, sizeOf, run_sameAddr_other w hne ha hb, hte, hj]
theorem eqIn_ptr_nil (n : Nat) {t e : TypeId} (b : Addr) (hp : P.underlying t = some (.pointer e)) :
    (Op.equalIn (n + 1) t (.pointer none) (.pointer (some b))).run P w = .ok false w := by
  simp [Op.equalIn, run_underlying hp]
end

/-- Where account k lies: a block of its own, in this world. -/
def Lies (w : World) (bl : Nat → Nat) : Prop := ∀ k, ∃ ca, w.heap[bl k]? = some (.cells ca 71 (0, 0))
def ptrK (bl : Nat → Nat) (k : Nat) : Value := .pointer (some ⟨bl k, 0, none⟩)
def encO (bl : Nat → Nat) : Option Nat → Value
  | none => .pointer none
  | some k => ptrK bl k
def isO (bl : Nat → Nat) (c : Nat) : Option Nat → Bool
  | none => false
  | some k => bl k == bl c

theorem eql57 (bl : Nat → Nat) (c : Nat) (o : Option Nat) (w : World) (h : Lies w bl) : (binOp .eql 57 (encO bl o) (ptrK bl c)).run Yba.prog w = .ok (.bool (isO bl c o)) w := by
  obtain ⟨j, hj, hj9⟩ := info71
  have key : (Op.equal 57 (encO bl o) (ptrK bl c)).run Yba.prog w = .ok (isO bl c o) w := by
    cases o with
    | none => exact eqIn_ptr_nil w 9999 _ Yba.underlying57
    | some k =>
      by_cases e : bl k = bl c
      · have : isO bl c (some k) = true := by simp [isO, e]
        rw [this]
        show (Op.equal 57 (.pointer (some ⟨bl k, 0, none⟩)) (.pointer (some ⟨bl c, 0, none⟩))).run Yba.prog w = _
        rw [e]
        exact eqIn_ptr_same w 9999 _ Yba.underlying57 hj
      · have : isO bl c (some k) = false := by simp [isO, e]
        rw [this]
        obtain ⟨ca, ha⟩ := h k
        obtain ⟨cb, hb⟩ := h c
        exact eqIn_ptr_other w 9999 (by intro q; injection q with q; exact e q) ha hb Yba.underlying57 hj (by omega)
  simp only [binOp]
  have hk := key
  cases o with
  | none => simp only [encO, ptrK] at hk ⊢; simp [hk]
  | some k => simp only [encO, ptrK] at hk ⊢; simp [hk]

set_option maxHeartbeats 400000 in
theorem gives21 (bl : Nat → Nat) (c B : Nat) (o : Option Nat) (W : World) (hL : Lies W bl) (hc : W.cell? ⟨B, 0, none⟩ = some (ptrK bl c)) :
    FnGives Yba.prog 21 #[.pointer (some ⟨B, 0, none⟩)] #[encO bl o] (.bool (isO bl c o)) W := by
  show Calls Yba.prog 21 #[encO bl o, .pointer (some ⟨B, 0, none⟩)] W _
  have he := eql57 bl c o W hL
  generalize isO bl c o = r at he ⊢
  unfold ptrK at hc he
  cases o with
  | none =>
    unfold encO at he ⊢
    go_enter Yba.func21, Yba.ntmps21
    go_wp2
    go_ret
    exact ⟨rfl, 0, rfl⟩
  | some k =>
    unfold encO ptrK at he ⊢
    go_enter Yba.func21, Yba.ntmps21
    go_wp2
    go_ret
    exact ⟨rfl, 0, rfl⟩

theorem Lies.kept {w w' : World} {bl : Nat → Nat} (h : Lies w bl) (hk : ∀ k, w'.heap[bl k]? = w.heap[bl k]?) : Lies w' bl := fun k => by
  obtain ⟨ca, e⟩ := h k
  exact ⟨ca, (hk k).trans e⟩
theorem Lies.lt {w : World} {bl : Nat → Nat} (h : Lies w bl) (k : Nat) : bl k < w.heap.size := by
  obtain ⟨ca, e⟩ := h k
  exact lt_of_block e

theorem heap_putRow_other {α : Type} [Inhabited α] (enc : α → Value) (w : World) (blk off : Nat) (d : Array α) (k : Nat) (h : k ≠ blk) : (putRow enc w blk off d).heap[k]? = w.heap[k]? := by
  unfold putRow mapBlock
  simp [Array.getElem?_modify, Ne.symm h]
theorem heap_putRow_same {α : Type} [Inhabited α] (enc : α → Value) (w : World) (blk off : Nat) (d : Array α) {c : Array Value} {e : TypeId} (h : w.heap[blk]? = some (.cells c e (0, 0))) : (putRow enc w blk off d).heap[blk]? = some (.cells (putCells enc off d c) e (0, 0)) := by
  unfold putRow mapBlock
  simp [Array.getElem?_modify, h, onCells]

/-- 'slices.DeleteFunc(s, o == c)' at a row of accounts of the call's own. -/
theorem del_some (bl : Nat → Nat) (c B base g cap : Nat) (ks : List Nat) (w : World) (hL : Lies w bl) (hB : B < w.heap.size) (hc : w.cell? ⟨B, 0, none⟩ = some (ptrK bl c)) (hBg : B ≠ g)
    (hr : w.ownsRow base 57 1 (.slice (some ⟨g, 0, none⟩) ks.length cap) ks.length (ks.map (ptrK bl))) :
    Calls Yba.prog 20 #[.slice (some ⟨g, 0, none⟩) ks.length cap, .func (.func 21) #[] #[.pointer (some ⟨B, 0, none⟩)]] w fun e w' => ∃ v', e = .returned v' ∧
      w'.ownsRow base 57 1 v' (ks.filter fun k => !(bl k == bl c)).length ((ks.filter fun k => !(bl k == bl c)).map (ptrK bl)) ∧ w.grownBy w' (some g) ∧ (v'.ownBlock = some g) := by
  obtain ⟨cur, hbg, hcm, hH, hnc, hcs, hct⟩ : ∃ cur : Array Value, base ≤ g ∧ cap ≤ maxLen ∧ w.heap[g]? = some (.cells cur 57 (0, 0)) ∧ ks.length ≤ cap ∧ cur.size = cap ∧ cur.toList.take ks.length = ks.map (ptrK bl) := by
    rcases hr.2 with ⟨q, _⟩ | ⟨g', cap', cur, q, a1, a2, a3, a4, a5, a6⟩
    · cases q
    · injection q with q1 _ q3
      injection q1 with q1
      injection q1 with q1
      subst q1
      subst q3
      exact ⟨cur, a1, a4, a2, a3, by simpa using a5, by simpa using a6⟩
  have hgk : ∀ k, bl k ≠ g := fun k e => by
    obtain ⟨ca, h⟩ := hL k
    rw [e, hH] at h
    injection h with h
    injection h with _ h
    cases h
  have hHold : Holds (encO bl) w g 0 (ks.map some).toArray := by
    intro j hj
    have hj' : j < ks.length := by simpa using hj
    refine ⟨?_, by simp [World.frozen?, hH]⟩
    rw [Nat.zero_add, hr.cellAt j (by omega), getElem!_pos _ j hj]
    simp [hj', encO]
  have eg : ∀ args w, (callFunc 21 args).run Yba.prog w = .ok (.enter 21 args) w := enters_of Yba.func21 (by kernel_rfl) rfl
  have hcon := AnyE.slices_DeleteFunc Yba.delC (encO bl) (fun o => by cases o <;> rfl) (isO bl c) 21 #[.pointer (some ⟨B, 0, none⟩)] eg none zero57 g 0 cap (ks.map some).toArray w
    (fun W x hb => gives21 bl c B x W (hL.kept (fun k => hb.block _ (hL.lt k))) ((hb.cell (p := ⟨B, 0, none⟩) hB).trans hc))
    (fun n os dk x _ => gives21 bl c B x _ (hL.kept (fun k => by
      unfold sortWorld grow
      have h1 : bl k < (putRow (encO bl) (Sort.ahead w n) g 0 dk).heap.size := by rw [size_putRow]; exact hL.lt k
      show ((putRow (encO bl) (Sort.ahead w n) g 0 dk).heap ++ os)[bl k]? = _
      rw [Array.getElem?_append_left h1, heap_putRow_other _ _ _ _ _ _ (hgk k)]
      rfl)) (by
      unfold sortWorld
      rw [cell?_grow _ _ _ (by show B < (putRow _ _ _ _ _).heap.size; rw [size_putRow]; exact hB), cell?_putRow_other _ _ g 0 _ _ (Or.inl hBg)]
      exact hc)) hHold (by simp; unfold maxLen at hcm; omega) (by simpa using hnc)
  change Calls Yba.prog 20 _ _ _ at hcon
  have hsz : (ks.map some).toArray.size = ks.length := by simp
  have hF : ((ks.map some).toArray.toList.filter fun x => !isO bl c x) = (ks.filter fun k => !(bl k == bl c)).map some := by
    rw [List.toList_toArray, List.filter_map]
    rfl
  rw [hF, hsz] at hcon
  clear hF
  have hfl : (ks.filter fun k => !(bl k == bl c)).length ≤ ks.length := List.length_filter_le _ _
  generalize (ks.filter fun k => !(bl k == bl c)) = F at hcon hfl ⊢
  refine hcon.mono ?_
  rintro e w' ⟨rfl, q, rfl⟩
  have hHa : (Sort.ahead w q).heap[g]? = some (.cells cur 57 (0, 0)) := hH
  have hlen : (F.map some).length = F.length := by simp
  rw [hlen]
  refine ⟨_, rfl, ⟨by simp, .inr ⟨g, cap, _, rfl, hbg, heap_putRow_same _ _ _ _ _ hHa, by omega, hcm, ?_, ?_⟩⟩, ⟨rfl, rfl, rfl, by rw [size_putRow]; exact Nat.le_refl _, fun k _ hk => ?_⟩, rfl⟩
  · simp [putCells, hcs]
  · apply List.ext_getElem?
    intro j
    by_cases hj : j < F.length
    · have hd : j < (List.map some F ++ List.replicate (ks.length - F.length) none).toArray.size := by simp; omega
      rw [List.getElem?_take_of_lt (by omega)]
      have hjc : j < cur.size := by omega
      have e1 : (putCells (encO bl) 0 (List.map some F ++ List.replicate (ks.length - F.length) none).toArray cur).toList[j]? = some (encO bl (List.map some F ++ List.replicate (ks.length - F.length) none).toArray[j]!) := by
        simp only [putCells, Array.toList_mapIdx, List.getElem?_mapIdx]
        have : cur.toList[j]? = some cur[j] := by simp [hjc]
        rw [this]
        simp only [Option.map_some]
        rw [if_pos ⟨Nat.zero_le _, by omega⟩, Nat.sub_zero]
      rw [e1, getElem!_pos _ j hd]
      simp [hj, List.getElem_append_left, encO]
    · rw [List.getElem?_eq_none (by simp; omega), List.getElem?_eq_none (by simp; omega)]
  · rw [heap_putRow_other _ _ _ _ _ _ (fun e => hk (by rw [e]))]
    rfl

set_option maxHeartbeats 400000 in
theorem index_nil (fn : Value) (w : World) : Calls Yba.prog 39 #[.slice none 0 0, fn] w fun e w' => e = .returned (.int .i64 (-1)) ∧ w' = w := by
  go_enter Yba.func39, Yba.ntmps39
  go_wp2_with fail
  go_loop [8] (fun i => i = .int .i64 0) (fun _ => 0)
  case atStart => rfl
  case round =>
    subst hrel
    go_wp2_with fail
    go_ret
    exact ⟨rfl, rfl⟩
set_option maxHeartbeats 400000 in
theorem del_nil (fn : Value) (w : World) : Calls Yba.prog 20 #[.slice none 0 0, fn] w fun e w' => e = .returned (.slice none 0 0) ∧ w' = w := by
  go_enter Yba.func20, Yba.ntmps20
  go_wp2_with (go_at_call 39; refine (index_nil _ _).mono ?_; rintro e w' ⟨rfl, rfl⟩)
  go_ret
  exact ⟨rfl, rfl⟩

theorem del_any (bl : Nat → Nat) (c B base : Nat) (v : Value) (ks : List Nat) (w : World) (hL : Lies w bl) (hB : B < w.heap.size) (hc : w.cell? ⟨B, 0, none⟩ = some (ptrK bl c)) (hBg : v.ownBlock ≠ some B)
    (hr : w.ownsRow base 57 1 v ks.length (ks.map (ptrK bl))) :
    Calls Yba.prog 20 #[v, .func (.func 21) #[] #[.pointer (some ⟨B, 0, none⟩)]] w fun e w' => ∃ v', e = .returned v' ∧
      w'.ownsRow base 57 1 v' (ks.filter fun k => !(bl k == bl c)).length ((ks.filter fun k => !(bl k == bl c)).map (ptrK bl)) ∧ w.grownBy w' v.ownBlock ∧ v'.ownBlock = v.ownBlock := by
  rcases hr.2 with ⟨rfl, h0⟩ | ⟨g, cap, cur, rfl, _⟩
  · have hk : ks = [] := List.eq_nil_of_length_eq_zero h0
    subst hk
    refine (del_nil _ w).mono ?_
    rintro e w' ⟨rfl, rfl⟩
    exact ⟨_, rfl, World.ownsRow_nil _ _ _ _, ⟨rfl, rfl, rfl, Nat.le_refl _, fun _ _ _ => rfl⟩, rfl⟩
  · refine (del_some bl c B base g cap ks w hL hB hc (fun e => hBg (by rw [e]; rfl)) hr).mono ?_
    rintro e w' ⟨v', rfl, h1, h2, h3⟩
    exact ⟨v', rfl, h1, h2, h3⟩

end Go.Proofs.Ybulkehxo
