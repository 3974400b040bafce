/-
  FOR LawS6714AWhole: the set's invariant; the sorted keys of its map.
-/
import Derived.Test.YbulkeiagKeys
import Derived.Test.YbulkeiagChunk
namespace Go.Proofs.Ybulkeiag
open Go.RowKit Go.Maps Go.Sort Go.Shelf
open Go.ChangeMaps Go.MapKept

/-- The keys of the map: the chunks behind the full head. -/
def aheadF (pres : Nat → Bool) (p : Nat) : Int → Bool := fun k => decide ((p : Int) ≤ k) && pres k.toNat

theorem mem_keys_of_has {H : Type} {es : List (Lit × DataW H)} (hk : ∀ p ∈ es, ∃ x, p.1 = .int .i64 x) {x : Int} (h : has (.map es) (.int .i64 x) = true) : x ∈ intKeys (.map es : DataW H) := by
  rw [has_eq, List.any_eq_true] at h
  obtain ⟨q, hq, hs⟩ := h
  obtain ⟨a, ha⟩ := hk q hq
  rw [ha] at hs
  refine List.mem_map.2 ⟨q, hq, ?_⟩
  rw [ha]
  simpa [Lit.sameKey, Go.intOf] using hs

theorem wf_small {x : Int} (h0 : 0 ≤ x) (h1 : x ≤ 1000) : (Lit.int .i64 x).wf = true := by
  have e0 : IntKind.i64.min = -9223372036854775808 := rfl
  have e1 : IntKind.i64.max = 9223372036854775807 := rfl
  simp only [Lit.wf, e0, e1, Bool.and_eq_true, decide_eq_true_eq]
  omega

theorem BMap.sorted {w : World} {bm n : Nat} {pres : Nat → Bool} {p : Nat} (h : BMap w bm (aheadF pres p) n) (top : ∀ i, 256 ≤ i → pres i = false) :
    ∃ D : DataW Unit, w.ownsMap Yba.prog 2 (plainElem Yba.prog 4) bm n D ∧ Maps.size D = (later pres p 256).length ∧ n = (later pres p 256).length ∧
      ∀ ss : List Int, ss.Perm (intKeys D) → ss.length = (later pres p 256).length ∧ ss.mergeSort (fun x y => decide (x ≤ y)) = (later pres p 256).map (fun (i : Nat) => (i : Int)) := by
  obtain ⟨D, h1, h2, h3⟩ := h
  obtain ⟨es, hD, hpw, _⟩ := h1.entries key2
  obtain ⟨es', hD', hko⟩ := h1.keysOf
  obtain rfl : es = es' := by rw [hD] at hD'; simpa using hD'
  have hkk : ∀ q ∈ es, ∃ x, q.1 = Lit.int .i64 x := fun q hq => by obtain ⟨v, hv⟩ := hko q hq; obtain ⟨x, _, hx, _⟩ := Maps.keyOf_i64 Yba.underlying2 hv; exact ⟨x, hx⟩
  have hwf := intKeys_wf h1 Yba.underlying2
  have hl := later_sorted pres p 256
  have hnd2 : ((later pres p 256).map (fun (i : Nat) => (i : Int))).Nodup := by
    unfold List.Nodup
    rw [List.pairwise_map]
    exact List.pairwise_iff_getElem.2 (fun i j hi hj hij => by have := List.pairwise_iff_getElem.1 hl i j hi hj hij; omega)
  have hmem : ∀ x, x ∈ (later pres p 256).map (fun (i : Nat) => (i : Int)) ↔ has D (.int .i64 x) = true := by
    intro x
    rw [List.mem_map]
    constructor
    · rintro ⟨i, hi, rfl⟩
      obtain ⟨m1, m2, m3⟩ := mem_later.1 hi
      rw [(h3 _ (wf_small (by omega) (by omega))).2]
      simp [aheadF, m2, m3]
    · intro hx
      have hin : x ∈ intKeys D := by rw [hD] at hx ⊢; exact mem_keys_of_has hkk hx
      have := (h3 x (hwf x hin)).2
      rw [hx] at this
      have := this.symm
      simp [aheadF] at this
      obtain ⟨m1, m2⟩ := this
      refine ⟨x.toNat, mem_later.2 ⟨?_, m2, by omega⟩, by omega⟩
      rcases Nat.lt_or_ge x.toNat 256 with q | q
      · exact q
      · rw [top _ q] at m2; cases m2
  have hperm : ((later pres p 256).map (fun (i : Nat) => (i : Int))).Perm (intKeys D) := by
    have := hmem
    rw [hD] at this ⊢
    exact perm_intKeys hpw hkk hnd2 this
  have hlen : Maps.size D = (later pres p 256).length := by
    have := hperm.length_eq
    rw [hD] at this ⊢
    simpa [intKeys, Maps.size] using this.symm
  refine ⟨D, h1, hlen, by omega, fun ss hss => ?_⟩
  have hp2 := hss.trans hperm.symm
  refine ⟨by simpa using hp2.length_eq, sorted_later (hp2.nodup_iff.2 hnd2) (fun x => ?_)⟩
  rw [hp2.mem_iff, List.mem_map]
  exact ⟨fun ⟨i, q1, q2⟩ => ⟨i, q1, q2.symm⟩, fun ⟨i, q1, q2⟩ => ⟨i, q1, q2.symm⟩⟩

/-- The map of the set: nil while nothing lies behind the full head, or the chunks behind it. -/
def Ahead (w : World) (base bs : Nat) (pres : Nat → Bool) (p : Nat) (m : Option Nat) : Prop :=
  (m = none ∧ later pres p 256 = []) ∨ ∃ bm n, m = some bm ∧ base ≤ bm ∧ bm ≠ bs ∧ BMap w bm (aheadF pres p) n

theorem Ahead.kept {w w' : World} {base bs : Nat} {pres : Nat → Bool} {p : Nat} {m : Option Nat} (h : Ahead w base bs pres p m) (g : But [bs] w w') : Ahead w' base bs pres p m := by
  rcases h with h | ⟨bm, n, h1, h2, h3, h4⟩
  · exact .inl h
  · exact .inr ⟨bm, n, h1, h2, h3, h4.kept (g.block bm h4.lt (by simpa using h3))⟩

/-- The set in memory: its members are pres. -/
structure Inv (w : World) (base bs : Nat) (pres : Nat → Bool) (p : Nat) (m : Option Nat) (v : Value) (l : Bool) : Prop where
  sb : SB w bs p m v l
  ge : base ≤ bs
  pre : IsPre pres p
  le : p ≤ 256
  top : ∀ i, 256 ≤ i → pres i = false
  ahead : Ahead w base bs pres p m
  runs : l = true → RunsAt w base v (runsTo pres 256)

/-- 'slices.Sorted(maps.Keys(s.ahead))'. -/
theorem sorted_any {base bs : Nat} {pres : Nat → Bool} {p : Nat} {m : Option Nat} (w : World) (h : Ahead w base bs pres p m) (top : ∀ i, 256 ≤ i → pres i = false) :
    Calls Yba.prog 7 #[.func (.func 12) #[] #[.pointer (some ⟨w.heap.size, 0, none⟩)]] (w.alloc (.cells #[.map m] 23)) fun e w' => ∃ v : Value, e = .returned v ∧
      w'.ownsRow (w.heap.size + 1) 2 1 v (later pres p 256).length ((later pres p 256).map fun (i : Nat) => Value.int .i64 (i : Int)) ∧ Below w.heap.size w w' := by
  rcases h with ⟨rfl, hl⟩ | ⟨bm, n, rfl, h2, h3, h4⟩
  · refine (sorted_call_nil w).mono ?_
    rintro e w' ⟨rfl, hb⟩
    rw [hl]
    exact ⟨_, rfl, World.ownsRow_nil _ _ _ _, ((Below.refl _ w).alloc (Nat.le_refl _) _).trans (hb.mono (by omega))⟩
  · obtain ⟨D, d1, d2, d3, d4⟩ := h4.sorted top
    have hle : (later pres p 256).length ≤ 256 := by
      unfold later chunks
      have a1 := List.length_filter_le (fun i => decide (p ≤ i)) ((List.range 256).filter pres)
      have a2 := List.length_filter_le pres (List.range 256)
      rw [List.length_range] at a2
      omega
    refine (sorted_call bm n D _ w d1 (by rw [d2]; unfold maxLen; omega) (by omega)).mono ?_
    rintro e w' ⟨v, ss, rfl, hp, ho, _, hb⟩
    obtain ⟨q1, q2⟩ := d4 ss hp
    rw [q2, q1, List.map_map] at ho
    exact ⟨v, rfl, ho, ((Below.refl _ w).alloc (Nat.le_refl _) _).trans (hb.mono (by omega))⟩

end Go.Proofs.Ybulkeiag
