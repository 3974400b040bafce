/-
  FOR LawS6714AWhole: closed facts, the map of bools as a set, rows of runs, the ChunkSet in memory.
-/
import Derived.Test.YbulkeiagRows
import Derived.Test.YbulkeiagPlain
import Derived.WalkKit
import Derived.WalkSpells
import Derived.WalkSmall
import Derived.WalkLawsBesides
import Derived.Handy
import Derived.Maps.OwnSet
import Derived.LaidEql
import Derived.Deep.QuietTactic
import Derived.BigQuiet
import Derived.Deep.RegionLaw
import Derived.Deep.CutRange
namespace Go.Proofs.Ybulkeiag
open Go.RowKit
open Go.ChangeMaps Go.MapKept
open Go.WideElems (Fit rd rg pl rd_val elemAt)
open Go.Maps (Keyed IsMap Tidy)

theorem info39 : (Yba.prog.info? 39).map (fun i => (i.zero, i.size, i.bytes)) = some (some (.agg #[.int .i64 0, .int .i64 0]), 2, 16) := by kernel_rfl
theorem key2 : Keyed Yba.prog 2 := Maps.int_keyed Yba.underlying2
theorem zero4 (w : World) : (zeroValue 4).run Yba.prog w = .ok (.bool false) w := by kernel_rfl

/-! ### the map of bools, every element true -/
theorem plainElem_bool_inv {v : Value} {x : Bool} {ps : List MemPlace} (h : plainElem (H := Unit) Yba.prog 4 v = some (.lit (.bool x), ps)) : v = .bool x := by
  unfold plainElem at h
  rw [Yba.underlying4] at h
  cases v <;> simp at h
  rw [h.1]

/-- Block bm is a map of n entries, each true: 'f k' says whether k is a key. -/
def BMap (w : World) (bm : Nat) (f : Int → Bool) (n : Nat) : Prop :=
  ∃ D : DataW Unit, w.ownsMap Yba.prog 2 (plainElem Yba.prog 4) bm n D ∧ Maps.size D = n ∧ ∀ k, (Lit.int .i64 k).wf = true → D.atKey (.int .i64 k) (.lit (.bool false)) = .lit (.bool (f k)) ∧ Maps.has D (.int .i64 k) = f k

def updB (f : Int → Bool) (k : Int) (b : Bool) : Int → Bool := fun j => if j = k then b else f j
theorem updB_same (f : Int → Bool) (k : Int) (b : Bool) : updB f k b k = b := by simp [updB]
theorem updB_other (f : Int → Bool) {k j : Int} (b : Bool) (h : j ≠ k) : updB f k b j = f j := by simp [updB, h]

theorem BMap.made (w : World) : BMap (w.alloc (.map #[] 0)) w.heap.size (fun _ => false) 0 :=
  ⟨.map [], World.ownsMap_made w _ _ _, rfl, fun _ _ => ⟨rfl, rfl⟩⟩
theorem BMap.lt {w : World} {bm n : Nat} {f : Int → Bool} (h : BMap w bm f n) : bm < w.heap.size := by obtain ⟨D, h, _⟩ := h; exact h.lt
theorem BMap.kept {w w' : World} {bm n : Nat} {f : Int → Bool} (h : BMap w bm f n) (hb : w'.heap[bm]? = w.heap[bm]?) : BMap w' bm f n := by
  obtain ⟨D, ⟨es, clock, h1, h2⟩, h3⟩ := h
  exact ⟨D, ⟨es, clock, hb.trans h1, h2⟩, h3⟩
theorem BMap.look {w : World} {bm n : Nat} {f : Int → Bool} (h : BMap w bm f n) (k : Int) (hk : (Lit.int .i64 k).wf = true) :
    (Instr.lookup 23 (.map (some bm)) (.int .i64 k) false).run Yba.prog w = .ok (.bool (f k)) w := by
  obtain ⟨D, h1, _, h2⟩ := h
  obtain ⟨v, ps, hr, hv⟩ := h1.lookup key2 Yba.underlying23 (zero4 w) (plainElem_bool Yba.underlying4 false) (Maps.keyOf_int_mk Yba.underlying2 hk)
  rw [(h2 k hk).1] at hv
  rw [hr, plainElem_bool_inv hv]
theorem look_none (w : World) (k : Int) (hk : (Lit.int .i64 k).wf = true) : (Instr.lookup 23 (.map none) (.int .i64 k) false).run Yba.prog w = .ok (.bool false) w := by
  have := Maps.look_nil (w := w) false key2 Yba.underlying23 (zero4 w) (Maps.keyOf_int_mk Yba.underlying2 hk)
  simpa using this
theorem BMap.len {w : World} {bm n : Nat} {f : Int → Bool} (h : BMap w bm f n) (ty : TypeId) :
    (Builtin.len_ #[23] ty #[.map (some bm)]).run Yba.prog w = .ok (.int .i64 n) w := by
  obtain ⟨D, h1, h2, _⟩ := h
  rw [h1.len Yba.underlying23, h2]
theorem len_none (w : World) (ty : TypeId) : (Builtin.len_ #[23] ty #[.map none]).run Yba.prog w = .ok (.int .i64 0) w := Maps.len_nil Yba.underlying23 ty
theorem isKey (k : Int) : WideAt.IsKeyLit (.int .i64 k) := trivial
theorem BMap.store {w : World} {bm n : Nat} {f : Int → Bool} (h : BMap w bm f n) (k : Int) (hk : (Lit.int .i64 k).wf = true) (hf : f k = false) (hn : n < maxLen) :
    ∃ w', (Instr.mapUpdate 23 (.map (some bm)) (.int .i64 k) (.bool true)).run Yba.prog w = .ok () w' ∧ BMap w' bm (updB f k true) (n + 1) ∧ w.grownBy w' (some bm) := by
  obtain ⟨D, h1, h2, h3⟩ := h
  obtain ⟨w', hr, ho, ht⟩ := h1.store key2 Yba.underlying23 hn (Maps.keyOf_int_mk Yba.underlying2 hk) (plainElem_bool Yba.underlying4 true)
  have hti := h1.tidy key2
  have hs : Maps.size (D.put (.int .i64 k) (.lit (.bool true))) = n + 1 := by
    rw [Maps.size_put hti, (h3 k hk).2, h2, hf]; rfl
  refine ⟨w', hr, ⟨_, ho, hs, fun j hj => ?_⟩, ht.grown⟩
  by_cases e : j = k
  · subst e
    simp [Maps.atKey_put_same hti.isMap (isKey j), Maps.has_put_same hti.isMap (isKey j), updB_same]
  · have hne : (Lit.int .i64 j) ≠ .int .i64 k := by simpa using e
    simp [Maps.atKey_put_other hne, Maps.has_put_other hne, updB_other _ _ e, h3 j hj]
theorem BMap.drop {w : World} {bm n : Nat} {f : Int → Bool} (h : BMap w bm f n) (k : Int) (hk : (Lit.int .i64 k).wf = true) (hf : f k = true) (ty : TypeId) :
    ∃ w', (Builtin.delete_ #[23, 2] ty #[.map (some bm), .int .i64 k]).run Yba.prog w = .ok (.tuple #[]) w' ∧ BMap w' bm (updB f k false) (n - 1) ∧ w.grownBy w' (some bm) := by
  obtain ⟨D, h1, h2, h3⟩ := h
  obtain ⟨w', hr, ho, ht⟩ := h1.drop key2 Yba.underlying23 (Maps.keyOf_int_mk Yba.underlying2 hk) ty
  have hti := h1.tidy key2
  have hs : Maps.size (D.del (.int .i64 k)) = n - 1 := by
    have := Maps.size_del (k := .int .i64 k) hti
    rw [(h3 k hk).2, h2, hf] at this
    simp at this
    omega
  refine ⟨w', hr, ⟨_, ?_, hs, fun j hj => ?_⟩, ht.grown⟩
  · obtain ⟨es, clock, hb, F, _, hD⟩ := ho
    refine ⟨es, clock, hb, F, ?_, hD⟩
    rw [← hs, hD]
    simp [Maps.size, length_sorted]
  · by_cases e : j = k
    · subst e
      simp [Maps.atKey_del_same, Maps.has_del_same, updB_same]
    · have hne : (Lit.int .i64 j) ≠ .int .i64 k := by simpa using e
      simp [Maps.atKey_del_other hne, Maps.has_del_other hne, updB_other _ _ e, h3 j hj]

/-! ### rows of runs -/
def flat : List RunP → List Value
  | [] => []
  | (f, c) :: rs => .int .i64 f :: .int .i64 c :: flat rs
theorem flat_append : ∀ (a b : List RunP), flat (a ++ b) = flat a ++ flat b
  | [], _ => rfl
  | (f, c) :: a, b => by simp [flat, flat_append a b]
theorem flat_length : ∀ rs : List RunP, (flat rs).length = rs.length * 2
  | [] => rfl
  | (f, c) :: rs => by simp [flat, flat_length rs]; omega
theorem flat_get : ∀ (rs : List RunP) (k : Nat) (f c : Int), rs[k]? = some (f, c) → (flat rs)[k * 2]? = some (.int .i64 f) ∧ (flat rs)[k * 2 + 1]? = some (.int .i64 c)
  | [], k, f, c, h => by simp at h
  | (f', c') :: rs, 0, f, c, h => by
    simp at h
    obtain ⟨rfl, rfl⟩ := h
    exact ⟨rfl, rfl⟩
  | (f', c') :: rs, k + 1, f, c, h => by
    have := flat_get rs k f c (by simpa using h)
    rw [show (k + 1) * 2 = k * 2 + 2 by omega]
    simpa [flat] using this
theorem flat_bump (rs : List RunP) (f c x : Int) : (flat (rs ++ [(f, c)])).set (rs.length * 2 + 1) (.int .i64 x) = flat (rs ++ [(f, x)]) := by
  rw [flat_append, flat_append, ← flat_length, List.set_append_right _ _ (by omega)]
  congr 1
  rw [show (flat rs).length + 1 - (flat rs).length = 1 by omega]
  rfl
/-- A row of runs of the call's own, still growing. -/
def RRow (w : World) (base : Nat) (v : Value) (rs : List RunP) : Prop := w.ownsRow base 39 2 v rs.length (flat rs)
theorem RRow.shape {w : World} {base : Nat} {v : Value} {rs : List RunP} (h : RRow w base v rs) : (v = .slice none 0 0 ∧ rs = []) ∨ ∃ g cap, v = .slice (some ⟨g, 0, none⟩) rs.length cap ∧ base ≤ g ∧ rs.length ≤ cap := by
  rcases h.2 with ⟨rfl, hn⟩ | ⟨g, cap, cur, rfl, h1, _, h3, _⟩
  · exact .inl ⟨rfl, List.eq_nil_of_length_eq_zero hn⟩
  · exact .inr ⟨g, cap, rfl, h1, h3⟩
theorem RRow.at {w : World} {base g cap k : Nat} {rs : List RunP} {f c : Int} (h : RRow w base (.slice (some ⟨g, 0, none⟩) rs.length cap) rs) (hy : rs[k]? = some (f, c)) : w.cell? ⟨g, k * 2, none⟩ = some (.int .i64 f) ∧ w.cell? ⟨g, k * 2 + 1, none⟩ = some (.int .i64 c) := by
  have hk : k < rs.length := (List.getElem?_eq_some_iff.1 hy).1
  have := flat_get rs k f c hy
  rw [World.ownsRow.cellAt h (k * 2) (by omega), World.ownsRow.cellAt h (k * 2 + 1) (by omega)]
  exact this

/-- A slice of runs, cut to its length: what 'Runs' hands back. -/
def RunsAt (w : World) (base : Nat) (v : Value) (rs : List RunP) : Prop :=
  (v = .slice none 0 0 ∧ rs = []) ∨ ∃ g cur, v = .slice (some ⟨g, 0, none⟩) rs.length rs.length ∧ rs ≠ [] ∧ base ≤ g ∧ w.heap[g]? = some (.cells cur 39 (0, 0)) ∧ cur.toList.take (rs.length * 2) = flat rs
theorem RunsAt.kept {w w' : World} {base : Nat} {v : Value} {rs : List RunP} (h : RunsAt w base v rs) (hk : ∀ b cur, base ≤ b → w.heap[b]? = some (.cells cur 39 (0, 0)) → w'.heap[b]? = w.heap[b]?) : RunsAt w' base v rs := by
  rcases h with h | ⟨g, cur, h1, h2, h3, h4, h5⟩
  · exact .inl h
  · exact .inr ⟨g, cur, h1, h2, h3, (hk g cur h3 h4).trans h4, h5⟩
theorem RunsAt.at {w : World} {base : Nat} {v : Value} {rs : List RunP} (h : RunsAt w base v rs) : ∃ a, v = .slice a rs.length rs.length ∧ ∀ k f c, rs[k]? = some (f, c) → ∃ g, a = some ⟨g, 0, none⟩ ∧ w.cell? ⟨g, k * 2, none⟩ = some (.int .i64 f) ∧ w.cell? ⟨g, k * 2 + 1, none⟩ = some (.int .i64 c) := by
  rcases h with ⟨rfl, rfl⟩ | ⟨g, cur, rfl, h2, h3, h4, h5⟩
  · exact ⟨none, rfl, fun k f c h => by simp at h⟩
  · refine ⟨_, rfl, fun k f c hk => ⟨g, rfl, ?_⟩⟩
    have hlt : k < rs.length := (List.getElem?_eq_some_iff.1 hk).1
    obtain ⟨e1, e2⟩ := flat_get rs k f c hk
    rw [← h5, List.getElem?_take_of_lt (by omega)] at e1 e2
    rw [cell_of_row w g _ cur 39 (0, 0) h4, cell_of_row w g _ cur 39 (0, 0) h4]
    exact ⟨by simpa using e1, by simpa using e2⟩
theorem RunsAt.of {w : World} {base : Nat} {v : Value} {rs : List RunP} (h : RRow w base v rs) (hne : rs ≠ []) : ∃ g cap, v = .slice (some ⟨g, 0, none⟩) rs.length cap ∧ rs.length ≤ cap ∧ RunsAt w base (.slice (some ⟨g, 0, none⟩) rs.length rs.length) rs := by
  rcases h.2 with ⟨rfl, hn⟩ | ⟨g, cap, cur, rfl, h1, h2, h3, h4, h5, h6⟩
  · exact absurd (List.eq_nil_of_length_eq_zero hn) hne
  · exact ⟨g, cap, rfl, h3, .inr ⟨g, cur, rfl, hne, h1, h2, h6⟩⟩

/-! ### the ChunkSet's block and the array of marks -/
def SB (w : World) (b : Nat) (p : Int) (m : Option Nat) (v : Value) (l : Bool) : Prop := w.heap[b]? = some (.cells #[.int .i64 p, .map m, v, .bool l] 27 (0, 0))
section
variable {w : World} {b : Nat} {p : Int} {m : Option Nat} {v : Value} {l : Bool}
theorem SB.c0 (h : SB w b p m v l) : w.cell? ⟨b, 0, none⟩ = some (.int .i64 p) := by unfold SB at h; simp [World.cell?, h]
theorem SB.c1 (h : SB w b p m v l) : w.cell? ⟨b, 1, none⟩ = some (.map m) := by unfold SB at h; simp [World.cell?, h]
theorem SB.c2 (h : SB w b p m v l) : w.cell? ⟨b, 2, none⟩ = some v := by unfold SB at h; simp [World.cell?, h]
theorem SB.c3 (h : SB w b p m v l) : w.cell? ⟨b, 3, none⟩ = some (.bool l) := by unfold SB at h; simp [World.cell?, h]
theorem SB.fr (h : SB w b p m v l) (j : Nat) : w.frozen? ⟨b, j, none⟩ = false := by unfold SB at h; simp [World.frozen?, h]
theorem SB.lt (h : SB w b p m v l) : b < w.heap.size := lt_of_block h
theorem SB.s0 (h : SB w b p m v l) (x : Int) : SB (w.setCell ⟨b, 0, none⟩ (.int .i64 x)) b x m v l := by unfold SB at *; rw [heap_setCell_same w b 0 _ _ _ h]; rfl
theorem SB.s1 (h : SB w b p m v l) (x : Option Nat) : SB (w.setCell ⟨b, 1, none⟩ (.map x)) b p x v l := by unfold SB at *; rw [heap_setCell_same w b 1 _ _ _ h]; rfl
theorem SB.s2 (h : SB w b p m v l) (x : Value) : SB (w.setCell ⟨b, 2, none⟩ x) b p m x l := by unfold SB at *; rw [heap_setCell_same w b 2 _ _ _ h]; rfl
theorem SB.s3 (h : SB w b p m v l) (x : Bool) : SB (w.setCell ⟨b, 3, none⟩ (.bool x)) b p m v x := by unfold SB at *; rw [heap_setCell_same w b 3 _ _ _ h]; rfl
theorem SB.kept {w' : World} (h : SB w b p m v l) (e : w'.heap[b]? = w.heap[b]?) : SB w' b p m v l := by unfold SB at *; rw [e]; exact h
end

/-! ### all but these blocks -/
structure But (S : List Nat) (w w' : World) : Prop where
  os : w'.os = w.os
  tape : w'.tape = w.tape
  output : w'.output = w.output
  size : w.heap.size ≤ w'.heap.size
  block : ∀ k, k < w.heap.size → k ∉ S → w'.heap[k]? = w.heap[k]?
theorem But.refl (S : List Nat) (w : World) : But S w w := ⟨rfl, rfl, rfl, Nat.le_refl _, fun _ _ _ => rfl⟩
theorem But.trans {S : List Nat} {a b c : World} (h : But S a b) (g : But S b c) : But S a c :=
  ⟨g.os.trans h.os, g.tape.trans h.tape, g.output.trans h.output, Nat.le_trans h.size g.size, fun k hk hn => (g.block k (Nat.lt_of_lt_of_le hk h.size) hn).trans (h.block k hk hn)⟩
theorem But.mono {S S' : List Nat} {a b : World} (h : But S a b) (hs : ∀ k, k ∈ S → k ∈ S') : But S' a b := ⟨h.os, h.tape, h.output, h.size, fun k hk hn => h.block k hk (fun m => hn (hs k m))⟩
theorem But.grown {S : List Nat} {a b : World} {row : Option Nat} (h : a.grownBy b row) (hr : ∀ k, row = some k → k ∈ S) : But S a b :=
  ⟨h.os, h.tape, h.output, h.size, fun k hk hn => h.block k hk (fun e => hn (hr k e.symm))⟩
theorem But.setCell {S : List Nat} {a b : World} (h : But S a b) {p : Addr} (hp : p.block ∈ S) (v : Value) : But S a (b.setCell p v) :=
  h.trans ⟨rfl, rfl, rfl, by simp, fun k _ hn => Below.heap_setCell _ _ _ _ (fun e => hn (e ▸ hp))⟩
theorem But.alloc {S : List Nat} {a b : World} (h : But S a b) (o : Obj) : But S a (b.alloc o) :=
  h.trans ⟨rfl, rfl, rfl, by simp, fun k hk _ => Below.heap_alloc _ _ _ hk⟩
theorem But.drewN {S : List Nat} {a b : World} (h : But S a b) (q : Nat) : But S a (b.drewN q) := h.trans ⟨rfl, rfl, rfl, Nat.le_refl _, fun _ _ _ => rfl⟩
theorem But.of_below {S : List Nat} {a b : World} (h : Below a.heap.size a b) : But S a b := ⟨h.os, h.tape, h.output, h.size, fun k hk _ => h.block k hk⟩
theorem But.below {S : List Nat} {a b : World} {B : Nat} (h : But S a b) (hB : B ≤ a.heap.size) (hs : ∀ k, k ∈ S → B ≤ k) : Below B a b :=
  ⟨h.os, h.tape, h.output, h.size, fun k hk => h.block k (by omega) (fun m => by have := hs k m; omega)⟩

end Go.Proofs.Ybulkeiag
