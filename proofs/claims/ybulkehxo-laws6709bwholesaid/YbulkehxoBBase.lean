/-
  FOR LawS6709BWhole: the closed facts of this program, the map of pointers as a function from keys, rows of integers and of pointers, and a frame 'all but these blocks'.
-/
import Derived.Test.YbulkehxoRows
import Derived.WalkKit
import Derived.WalkSpells
import Derived.WalkSmall
import Derived.Handy
import Derived.Maps.OwnSet
import Derived.LaidEql
import Derived.WideLaws
import Derived.Deep.QuietTactic
import Derived.BigQuiet
namespace Go.Proofs.Ybulkehxo
open Go.RowKit
open Go.ChangeMaps Go.MapKept
open Go.WideElems (Fit rd rg pl rd_val elemAt)
open Go.Maps (Keyed IsMap Tidy)

theorem info24 : (Yba.prog.info? 24).map (fun i => (i.zero, i.size, i.bytes)) = some (some (.int .i64 0), 1, 8) := by kernel_rfl
theorem info27 : (Yba.prog.info? 27).map (fun i => (i.zero, i.size, i.bytes)) = some (some (.pointer none), 1, 8) := by kernel_rfl
theorem key24 : Keyed Yba.prog 24 := Maps.int_keyed Yba.underlying24
theorem zero27 (w : World) : (zeroValue 27).run Yba.prog w = .ok (.pointer none) w := by kernel_rfl
theorem info29 : ∃ j, Yba.prog.info? 29 = some j ∧ j.size = 5 := by
  have h : (Yba.prog.info? 29).map (·.size) = some 5 := by kernel_rfl
  obtain ⟨j, hj, e⟩ := Option.map_eq_some_iff.1 h
  exact ⟨j, hj, e⟩

section
variable {P : Program} (w : World)
/-- '==' between two pointers to one place; to two places. -/
theorem run_equalIn_ptr_same (d : Nat) {t e : TypeId} {j : TypeInfo} (a : Addr) (hp : P.underlying t = some (.pointer e)) (hte : P.info? e = some j) :
    (Op.equalIn (d + 1) t (.pointer (some a)) (.pointer (some a))).run P w = .ok true w := by
  simp [Op.equalIn, run_underlying hp, typeInfo, sizeOf, run_sameAddr_same, hte]
theorem run_eql_ptr_same {t e : TypeId} {j : TypeInfo} (a : Addr) (hp : P.underlying t = some (.pointer e)) (hte : P.info? e = some j) :
    (binOp .eql t (.pointer (some a)) (.pointer (some a))).run P w = .ok (.bool true) w := by
  have h : (Op.equal t (.pointer (some a)) (.pointer (some a))).run P w = .ok true w := run_equalIn_ptr_same w 9999 a hp hte
  simp only [binOp]
  simp [h]
theorem run_neq_ptr_same {t e : TypeId} {j : TypeInfo} (a : Addr) (hp : P.underlying t = some (.pointer e)) (hte : P.info? e = some j) :
    (binOp .neq t (.pointer (some a)) (.pointer (some a))).run P w = .ok (.bool false) w := by
  have h : (Op.equal t (.pointer (some a)) (.pointer (some a))).run P w = .ok true w := run_equalIn_ptr_same w 9999 a hp hte
  simp only [binOp]
  simp [h]
end
theorem neq27 (a : Addr) (w : World) : (binOp .neq 27 (.pointer (some a)) (.pointer (some a))).run Yba.prog w = .ok (.bool false) w := by
  obtain ⟨j, hj, _⟩ := info29
  exact run_neq_ptr_same w a Yba.underlying27 hj

/-! ### the map of pointers -/
def ptrOf : Option Nat → Value
  | none => .pointer none
  | some b => .pointer (some ⟨b, 0, none⟩)
def encOf : Option Nat → DataW Unit
  | none => .lit (.int .i64 (-1))
  | some b => .lit (.int .i64 b)
theorem encOf_inj {o o' : Option Nat} (h : encOf o = encOf o') : o = o' := by
  cases o <;> cases o' <;> simp [encOf] at h ⊢
  all_goals omega
/-- How an element of the map reads: by its block's number. -/
def ptrElem : Value → Option (DataW Unit × List MemPlace)
  | .pointer none => some (encOf none, [])
  | .pointer (some a) => if a = ⟨a.block, 0, none⟩ then some (encOf (some a.block), []) else none
  | _ => none
theorem ptrElem_of (o : Option Nat) : ptrElem (ptrOf o) = some (encOf o, []) := by cases o <;> simp [ptrElem, ptrOf]
theorem ptrElem_inv {v : Value} {o : Option Nat} {ps : List MemPlace} (h : ptrElem v = some (encOf o, ps)) : v = ptrOf o := by
  cases v with
  | pointer x =>
    cases x with
    | none =>
      simp only [ptrElem, Option.some.injEq, Prod.mk.injEq] at h
      rw [← encOf_inj h.1]; rfl
    | some a =>
      simp only [ptrElem] at h
      split at h
      · rename_i ha
        simp only [Option.some.injEq, Prod.mk.injEq] at h
        rw [← encOf_inj h.1]
        show Value.pointer (some a) = .pointer (some ⟨a.block, 0, none⟩)
        rw [← ha]
      · cases h
  | _ => simp [ptrElem] at h

/-- Block bm is a map of n entries: at key k the pointer to block 'f k', or no entry. -/
def KMap (w : World) (bm : Nat) (f : Int → Option Nat) (n : Nat) : Prop :=
  ∃ D : DataW Unit, w.ownsMap Yba.prog 24 ptrElem bm n D ∧ Maps.size D = n ∧ ∀ k, (Lit.int .i64 k).wf = true → D.atKey (.int .i64 k) (encOf none) = encOf (f k) ∧ Maps.has D (.int .i64 k) = (f k).isSome

/-- One key set, or struck. -/
def upd (f : Int → Option Nat) (k : Int) (o : Option Nat) : Int → Option Nat := fun j => if j = k then o else f j
theorem upd_same (f : Int → Option Nat) (k : Int) (o : Option Nat) : upd f k o k = o := by simp [upd]
theorem upd_other (f : Int → Option Nat) {k j : Int} (o : Option Nat) (h : j ≠ k) : upd f k o j = f j := by simp [upd, h]

theorem KMap.made (w : World) : KMap (w.alloc (.map #[] 0)) w.heap.size (fun _ => none) 0 :=
  ⟨.map [], World.ownsMap_made w _ _ _, rfl, fun _ _ => ⟨rfl, rfl⟩⟩
theorem KMap.lt {w : World} {bm n : Nat} {f : Int → Option Nat} (h : KMap w bm f n) : bm < w.heap.size := by obtain ⟨D, h, _⟩ := h; exact h.lt
theorem KMap.kept {w w' : World} {bm n : Nat} {f : Int → Option Nat} (h : KMap w bm f n) (hb : w'.heap[bm]? = w.heap[bm]?) : KMap w' bm f n := by
  obtain ⟨D, ⟨es, clock, h1, h2⟩, h3⟩ := h
  exact ⟨D, ⟨es, clock, hb.trans h1, h2⟩, h3⟩
theorem KMap.look {w : World} {bm n : Nat} {f : Int → Option Nat} (h : KMap w bm f n) (k : Int) (hk : (Lit.int .i64 k).wf = true) :
    (Instr.lookup 30 (.map (some bm)) (.int .i64 k) false).run Yba.prog w = .ok (ptrOf (f k)) w := by
  obtain ⟨D, h1, _, h2⟩ := h
  obtain ⟨v, ps, hr, hv⟩ := h1.lookup key24 Yba.underlying30 (zero27 w) (ptrElem_of none) (Maps.keyOf_int_mk Yba.underlying24 hk)
  rw [(h2 k hk).1] at hv
  rw [hr, ptrElem_inv hv]
theorem KMap.look_ok {w : World} {bm n : Nat} {f : Int → Option Nat} (h : KMap w bm f n) (k : Int) (hk : (Lit.int .i64 k).wf = true) :
    (Instr.lookup 30 (.map (some bm)) (.int .i64 k) true).run Yba.prog w = .ok (.tuple #[ptrOf (f k), .bool (f k).isSome]) w := by
  obtain ⟨D, h1, _, h2⟩ := h
  obtain ⟨v, ps, hr, hv⟩ := h1.look_ok key24 Yba.underlying30 (zero27 w) (ptrElem_of none) (Maps.keyOf_int_mk Yba.underlying24 hk)
  rw [(h2 k hk).1] at hv
  rw [hr, ptrElem_inv hv, (h2 k hk).2]
theorem KMap.len {w : World} {bm n : Nat} {f : Int → Option Nat} (h : KMap w bm f n) (ty : TypeId) :
    (Builtin.len_ #[30] ty #[.map (some bm)]).run Yba.prog w = .ok (.int .i64 n) w := by
  obtain ⟨D, h1, h2, _⟩ := h
  rw [h1.len Yba.underlying30, h2]
theorem isKey (k : Int) : WideAt.IsKeyLit (.int .i64 k) := trivial
theorem KMap.store {w : World} {bm n : Nat} {f : Int → Option Nat} (h : KMap w bm f n) (k : Int) (hk : (Lit.int .i64 k).wf = true) (g : Nat) (hn : n < maxLen) :
    ∃ w', (Instr.mapUpdate 30 (.map (some bm)) (.int .i64 k) (.pointer (some ⟨g, 0, none⟩))).run Yba.prog w = .ok () w' ∧
      KMap w' bm (fun j => if j = k then some g else f j) (if (f k).isSome then n else n + 1) ∧ w.grownBy w' (some bm) := by
  obtain ⟨D, h1, h2, h3⟩ := h
  obtain ⟨w', hr, ho, ht⟩ := h1.store key24 Yba.underlying30 hn (Maps.keyOf_int_mk Yba.underlying24 hk) (ptrElem_of (some g))
  have hti := h1.tidy key24
  have hs : Maps.size (D.put (.int .i64 k) (encOf (some g))) = if (f k).isSome then n else n + 1 := by
    rw [Maps.size_put hti, (h3 k hk).2, h2]
  refine ⟨w', hr, ⟨_, ?_, hs, fun j hj => ?_⟩, ht.grown⟩
  · obtain ⟨es, clock, hb, F, _, hD⟩ := ho
    refine ⟨es, clock, hb, F, ?_, hD⟩
    rw [← hs, hD]
    simp [Maps.size, length_sorted]
  · by_cases e : j = k
    · subst e
      simp [Maps.atKey_put_same hti.isMap (isKey j), Maps.has_put_same hti.isMap (isKey j)]
    · have hne : (Lit.int .i64 j) ≠ .int .i64 k := by simpa using e
      simp [Maps.atKey_put_other hne, Maps.has_put_other hne, e, h3 j hj]
theorem KMap.drop {w : World} {bm n : Nat} {f : Int → Option Nat} (h : KMap w bm f n) (k : Int) (hk : (Lit.int .i64 k).wf = true) (ty : TypeId) :
    ∃ w', (Builtin.delete_ #[30, 24] ty #[.map (some bm), .int .i64 k]).run Yba.prog w = .ok (.tuple #[]) w' ∧
      KMap w' bm (fun j => if j = k then none else f j) (if (f k).isSome then n - 1 else n) ∧ w.grownBy w' (some bm) := by
  obtain ⟨D, h1, h2, h3⟩ := h
  obtain ⟨w', hr, ho, ht⟩ := h1.drop key24 Yba.underlying30 (Maps.keyOf_int_mk Yba.underlying24 hk) ty
  have hti := h1.tidy key24
  have hs : Maps.size (D.del (.int .i64 k)) = if (f k).isSome then n - 1 else n := by
    have := Maps.size_del (k := .int .i64 k) hti
    rw [(h3 k hk).2, h2] at this
    split at this <;> simp_all <;> omega
  refine ⟨w', hr, ⟨_, ?_, hs, fun j hj => ?_⟩, ht.grown⟩
  · obtain ⟨es, clock, hb, F, _, hD⟩ := ho
    refine ⟨es, clock, hb, F, ?_, hD⟩
    rw [← hs, hD]
    simp [Maps.size, length_sorted]
  · by_cases e : j = k
    · subst e
      simp [Maps.atKey_del_same, Maps.has_del_same]
    · have hne : (Lit.int .i64 j) ≠ .int .i64 k := by simpa using e
      simp [Maps.atKey_del_other hne, Maps.has_del_other hne, e, h3 j hj]

/-! ### at the operation, for the walk -/
section
variable (w : World) {ops : Array Oper} {rest : List Oper} {o : Oper} {a : Act} {Q : Exit → Act → World → Prop}
/-- A store at a key that is not there yet. -/
theorem wpList_store_k (hg : o.guard = none) (m x v : Operand) (hop : o.op = Op.mapUpdate 30 m x v) (bm n : Nat) (f : Int → Option Nat) (hm : a.eval m = .map (some bm)) (hk : KMap w bm f n) (hn : n < maxLen)
    (k : Int) (hkw : (Lit.int .i64 k).wf = true) (g : Nat) (hf : f k = none) (hx : a.eval x = .int .i64 k) (hv : a.eval v = .pointer (some ⟨g, 0, none⟩))
    (hK : ∀ w', KMap w' bm (upd f k (some g)) (n + 1) → w.grownBy w' (some bm) → wpList Yba.prog ops Q rest (a.put o.dst undef) w') :
    wpList Yba.prog ops Q (o :: rest) a w := by
  refine wpList_plain hg fun K' hK' => ?_
  obtain ⟨w', hrun, r1, r2⟩ := hk.store k hkw g hn
  rw [hf] at r1
  unfold Oper.wp
  simp [execOp, hop, hm, hx, hv, hrun, Result.andThen]
  exact hK' _ _ (hK w' r1 r2)
/-- 'delete' of a key that is there. -/
theorem wpList_delete_k (hg : o.guard = none) (m x : Operand) (hop : o.op = Op.call { callee := Callee.builtin Builtin.delete, args := #[m, x], argTypes := #[30, 24] }) (bm n : Nat) (f : Int → Option Nat) (hm : a.eval m = .map (some bm)) (hk : KMap w bm f n)
    (k : Int) (hkw : (Lit.int .i64 k).wf = true) (g : Nat) (hf : f k = some g) (hx : a.eval x = .int .i64 k)
    (hK : ∀ w', KMap w' bm (upd f k none) (n - 1) → w.grownBy w' (some bm) → wpList Yba.prog ops Q rest (a.put o.dst (.tuple #[])) w') :
    wpList Yba.prog ops Q (o :: rest) a w := by
  refine wpList_plain hg fun K' hK' => ?_
  obtain ⟨w', hrun, r1, r2⟩ := hk.drop k hkw o.type
  rw [hf] at r1
  unfold Oper.wp
  simp [execOp, hop, resolve, invoke, builtin, hm, hx, hrun, Result.andThen]
  exact hK' _ _ (hK w' r1 r2)
end

end Go.Proofs.Ybulkehxo
