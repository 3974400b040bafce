/-
  FOR LawS6709BWhole: newConflicts; the state in the loop over 'others'; plain lemmas.
-/
import Derived.Test.YbulkehxoBUnwait
namespace Go.Proofs.Ybulkehxo
open Go.RowKit

set_option maxHeartbeats 400000 in
theorem newc_any (w : World) :
    Calls Yba.prog 6 #[.int .i64 5] w fun e w' => e = .returned (.agg #[.int .i64 5, .map (some (w.heap.size + 1)), .slice none 0 0]) ∧
      ∃ o : Obj, w' = (w.alloc o).alloc (.map #[] 0) := by
  have hmm := @run_makeMap Yba.prog
  go_enter Yba.func6, Yba.ntmps6
  go_wp2
  go_returns
  exact ⟨rfl, _, rfl⟩

/-! ### 'exp': what is left when the first t is struck -/
theorem erase_snoc (l : List Int) (t x : Int) : (l ++ [x]).erase t = if t ∈ l then l.erase t ++ [x] else if x = t then l else l ++ [x] := by
  by_cases h : t ∈ l
  · rw [if_pos h, List.erase_append_left _ h]
  · rw [if_neg h, List.erase_append_right _ h]
    by_cases hx : x = t
    · subst hx; simp
    · simp [hx]
theorem take_snoc {l : List Int} {k : Nat} {y : Int} (h : l[k]? = some y) : l.take (k + 1) = l.take k ++ [y] := by
  obtain ⟨hk, rfl⟩ := List.getElem?_eq_some_iff.1 h
  exact List.take_succ_eq_append_getElem hk

def seenB (hw : List Int) (t : Int) (k : Nat) : Bool := decide (t ∈ hw.take k)
def ex (hw : List Int) (t : Int) (k : Nat) : List Int := (hw.take k).erase t
theorem ex_seen {hw : List Int} {t y : Int} {k : Nat} (hy : hw[k]? = some y) (h : seenB hw t k = true) : ex hw t (k + 1) = ex hw t k ++ [y] ∧ seenB hw t (k + 1) = true := by
  unfold seenB at h
  have h' : t ∈ hw.take k := of_decide_eq_true h
  unfold ex seenB
  rw [take_snoc hy, erase_snoc, if_pos h']
  exact ⟨rfl, decide_eq_true (List.mem_append_left _ h')⟩
theorem ex_hit {hw : List Int} {t : Int} {k : Nat} (hy : hw[k]? = some t) (h : seenB hw t k = false) : ex hw t (k + 1) = ex hw t k ∧ seenB hw t (k + 1) = true := by
  unfold seenB at h
  have h' : t ∉ hw.take k := of_decide_eq_false h
  unfold ex seenB
  rw [take_snoc hy, erase_snoc, if_neg h', if_pos rfl, List.erase_of_not_mem h']
  exact ⟨rfl, decide_eq_true (by simp)⟩
theorem ex_miss {hw : List Int} {t y : Int} {k : Nat} (hy : hw[k]? = some y) (hne : y ≠ t) (h : seenB hw t k = false) : ex hw t (k + 1) = ex hw t k ++ [y] ∧ seenB hw t (k + 1) = false := by
  unfold seenB at h
  have h' : t ∉ hw.take k := of_decide_eq_false h
  unfold ex seenB
  rw [take_snoc hy, erase_snoc, if_neg h', if_neg hne, List.erase_of_not_mem h']
  exact ⟨rfl, decide_eq_false (by simp [h', Ne.symm hne])⟩
theorem ex_zero (hw : List Int) (t : Int) : ex hw t 0 = [] ∧ seenB hw t 0 = false := by simp [ex, seenB]
theorem ex_all (hw : List Int) (t : Int) {k : Nat} (h : hw.length ≤ k) : ex hw t k = hw.erase t := by unfold ex; rw [List.take_of_length_le h]
theorem ex_le (hw : List Int) (t : Int) (k : Nat) : (ex hw t k).length ≤ k := by
  unfold ex
  have h1 := List.length_erase_le (a := t) (l := hw.take k)
  have h2 := List.length_take_le k hw
  omega
theorem grownBy_new {w a b : World} {row : Option Nat} (h : w.grownBy a none) (g : a.grownBy b row) (hr : ∀ k, row = some k → w.heap.size ≤ k) : w.grownBy b none :=
  ⟨g.os.trans h.os, g.tape.trans h.tape, g.output.trans h.output, Nat.le_trans h.size g.size,
    fun k hk hn => (g.block k (Nat.lt_of_lt_of_le hk h.size) (fun e => by have := hr k e.symm; omega)).trans (h.block k hk hn)⟩

/-- One round that keeps y. -/
theorem ex_rel {w1 wr w5 : World} {hw : List Int} {ti y : Int} {k len2 : Nat} {b : Bool} (hk : k < len2) (HE : ex hw ti (k + 1) = ex hw ti k ++ [y] ∧ seenB hw ti (k + 1) = b) (hg : w1.grownBy wr none) {o : Obj}
    (ho5 : w5.ownsRow w1.heap.size 24 1 (.slice (some ⟨w1.heap.size, 0, none⟩) ((ex hw ti k).length + 1) len2) ((ex hw ti k).length + 1) (List.map (Value.int .i64) (ex hw ti k) ++ [.int .i64 y])) (hg5 : (wr.alloc o).grownBy w5 (some w1.heap.size)) :
    ∃ k1 : Nat, k1 ≤ len2 ∧ Value.int .i64 (↑k + 1) = .int .i64 ↑k1 ∧ Value.bool b = .bool (seenB hw ti k1) ∧ Value.slice (some ⟨w1.heap.size, 0, none⟩) ((ex hw ti k).length + 1) len2 = .slice (some ⟨w1.heap.size, 0, none⟩) (ex hw ti k1).length len2 ∧
      IRow w5 w1.heap.size (.slice (some ⟨w1.heap.size, 0, none⟩) (ex hw ti k1).length len2) (ex hw ti k1) ∧ w1.grownBy w5 none := by
  refine ⟨k + 1, by omega, by simp, by rw [HE.2], by rw [HE.1]; simp, ?_, grownBy_new (grownBy_new hg (World.grownBy_alloc wr o none) (by simp)) hg5 (by simp)⟩
  unfold IRow
  rw [HE.1]
  simpa using ho5

theorem len0 (n : Nat) : ((n : Int) == 0) = (n == 0) := by
  by_cases h : n = 0
  · subst h; rfl
  · rw [beq_eq_false_iff_ne.2 (by omega), beq_eq_false_iff_ne.2 h]

theorem IsRow.below {k : IntKind} {w w' : World} {a : Option Addr} {len cap : Nat} {zs : List Int} (h : IsRow k w a len cap zs) (hb : Below w.heap.size w w') : IsRow k w' a len cap zs := by
  rcases h with h | ⟨x, h1, h2, h3, h4, h5, h6⟩
  · exact .inl h
  · exact .inr ⟨x, h1, h2, h3, h4, fun i hi => (hb.cell (World.block_lt_of_cell? _ _ (h5 i hi))).trans (h5 i hi), h6⟩

/-! ### the map as the loop has filled it -/
def fOf (f0 : Int → Option Nat) (kv : List (Int × Nat)) : Int → Option Nat := kv.foldl (fun f p => upd f p.1 (some p.2)) f0
theorem fOf_snoc (f0 : Int → Option Nat) (kv : List (Int × Nat)) (k : Int) (b : Nat) : fOf f0 (kv ++ [(k, b)]) = upd (fOf f0 kv) k (some b) := by simp [fOf, List.foldl_append]
theorem fOf_out {k : Int} : ∀ (kv : List (Int × Nat)) (f0 : Int → Option Nat), k ∉ kv.map (·.1) → fOf f0 kv k = f0 k
  | [], _, _ => rfl
  | (a, b) :: kv, f0, h => by
    simp only [List.map_cons, List.mem_cons, not_or] at h
    show fOf (upd f0 a (some b)) kv k = f0 k
    rw [fOf_out kv _ h.2, upd_other _ _ h.1]
theorem fOf_in {k : Int} {b : Nat} : ∀ (kv : List (Int × Nat)) (f0 : Int → Option Nat), (kv.map (·.1)).Nodup → (k, b) ∈ kv → fOf f0 kv k = some b
  | [], _, _, h => by cases h
  | (a, c) :: kv, f0, hn, hm => by
    rw [List.map_cons, List.nodup_cons] at hn
    show fOf (upd f0 a (some c)) kv k = some b
    rcases List.mem_cons.1 hm with h | h
    · simp only [Prod.mk.injEq] at h
      obtain ⟨rfl, rfl⟩ := h
      rw [fOf_out kv _ hn.1, upd_same]
    · exact fOf_in kv _ hn.2 h

/-- A row of pointers of the call's own. -/
def PRow (w : World) (base : Nat) (v : Value) (bs : List Nat) : Prop := w.ownsRow base 27 1 v bs.length (bs.map fun b => Value.pointer (some ⟨b, 0, none⟩))

/-- The state in the loop over 'others': w0 the world ahead of it, kv the entries laid so far. -/
structure Oth (w0 wr : World) (bm bh : Nat) (bi : Int) (kv : List (Int × Nat)) (v35 v36 : Value) : Prop where
  but : But [bm] w0 wr
  r35 : IRow wr w0.heap.size v35 (kv.map (·.1))
  r36 : PRow wr w0.heap.size v36 (kv.map (·.2))
  nodup : (kv.map (·.1)).Nodup
  map : KMap wr bm (fOf (upd (fun _ => none) bi (some bh)) kv) (kv.length + 1)
  ent : ∀ p, p ∈ kv → WB wr p.2 0 p.1 false (.slice none 0 0) false ∧ w0.heap.size ≤ p.2
  rng : ∀ p, p ∈ kv → 0 ≤ p.1 ∧ p.1 < 8
  nbi : bi ∉ kv.map (·.1)
  blt : bm < w0.heap.size

theorem IRow.own {w : World} {base k : Nat} {v : Value} {ns : List Int} (h : IRow w base v ns) (hk : v.ownBlock = some k) : base ≤ k ∧ ∃ cur, w.heap[k]? = some (.cells cur 24 (0, 0)) := by
  rcases h.2 with ⟨rfl, _⟩ | ⟨g', cap', cur, rfl, h1, h2, _⟩
  · simp [Value.ownBlock] at hk
  · simp [Value.ownBlock] at hk
    subst hk
    exact ⟨h1, cur, h2⟩
theorem PRow.own {w : World} {base k : Nat} {v : Value} {bs : List Nat} (h : PRow w base v bs) (hk : v.ownBlock = some k) : base ≤ k ∧ ∃ cur, w.heap[k]? = some (.cells cur 27 (0, 0)) := by
  rcases h.2 with ⟨rfl, _⟩ | ⟨g', cap', cur, rfl, h1, h2, _⟩
  · simp [Value.ownBlock] at hk
  · simp [Value.ownBlock] at hk
    subst hk
    exact ⟨h1, cur, h2⟩
theorem KMap.block {w : World} {bm n : Nat} {f : Int → Option Nat} (h : KMap w bm f n) : ∃ es clock, w.heap[bm]? = some (.map es clock) := by
  obtain ⟨D, ⟨es, clock, h1, _⟩, _⟩ := h
  exact ⟨es, clock, h1⟩

/-- A new entry: its block laid, the map written, the two rows grown: w1 = the entry's block laid; w2: the map written; w3: 'okeys' grown (behind the one-cell block); w4: 'ovals' grown. -/
theorem Oth.step {w0 wr w2 w3 w4 : World} {bm bh : Nat} {bi k : Int} {kv : List (Int × Nat)} {v35 v36 v35' v36' : Value} (h : Oth w0 wr bm bh bi kv v35 v36)
    (hk0 : 0 ≤ k) (hk8 : k < 8) (hnk : k ∉ kv.map (·.1)) (hbi : k ≠ bi) (o3 o4 : Obj)
    (hm2 : KMap w2 bm (upd (fOf (upd (fun _ => none) bi (some bh)) kv) k (some wr.heap.size)) (kv.length + 1 + 1)) (hg2 : (wr.alloc (.cells #[.int .i64 0, .int .u64 k, .bool false, .slice none 0 0, .bool false] 29)).grownBy w2 (some bm))
    (h35 : w3.ownsRow w0.heap.size 24 1 v35' ((kv.map (·.1)).length + 1) ((kv.map (·.1)).map (Value.int .i64) ++ [.int .i64 k])) (hg3 : (w2.alloc o3).grownBy w3 v35.ownBlock)
    (h36 : w4.ownsRow w0.heap.size 27 1 v36' ((kv.map (·.2)).length + 1) ((kv.map (·.2)).map (fun b => Value.pointer (some ⟨b, 0, none⟩)) ++ [.pointer (some ⟨wr.heap.size, 0, none⟩)])) (hg4 : (w3.alloc o4).grownBy w4 v36.ownBlock) :
    Oth w0 w4 bm bh bi (kv ++ [(k, wr.heap.size)]) v35' v36' := by
  have hs0 := h.but.size
  have hbl := h.blt
  have s2 := hg2.size
  have s3 := hg3.size
  have s4 := hg4.size
  simp only [World.size_alloc] at s2 s3 s4
  -- a block of wr that is neither the map nor one of the two rows
  have keep : ∀ b, b < wr.heap.size → b ≠ bm → v35.ownBlock ≠ some b → v36.ownBlock ≠ some b → w4.heap[b]? = wr.heap[b]? := fun b hb h1 h2 h3 => by
    rw [hg4.block b (by simp; omega) (fun e => h3 e.symm), Below.heap_alloc _ _ _ (by omega), hg3.block b (by simp; omega) (fun e => h2 e.symm), Below.heap_alloc _ _ _ (by omega), hg2.block b (by simp; omega) (by simpa using h1), Below.heap_alloc _ _ _ hb]
  have notrow : ∀ b cs t, wr.heap[b]? = some (.cells cs t (0, 0)) → t ≠ 24 → v35.ownBlock ≠ some b := fun b cs t hb ht e => by
    obtain ⟨_, cur, hc⟩ := h.r35.own e
    rw [hc] at hb
    simp at hb
    exact ht hb.2.symm
  have notrow' : ∀ b cs t, wr.heap[b]? = some (.cells cs t (0, 0)) → t ≠ 27 → v36.ownBlock ≠ some b := fun b cs t hb ht e => by
    obtain ⟨_, cur, hc⟩ := h.r36.own e
    rw [hc] at hb
    simp at hb
    exact ht hb.2.symm
  have lt35 : ∀ b, v35.ownBlock = some b → b < wr.heap.size := fun b e => by obtain ⟨_, cur, hc⟩ := h.r35.own e; exact lt_of_block hc
  have lt36 : ∀ b, v36.ownBlock = some b → b < wr.heap.size := fun b e => by obtain ⟨_, cur, hc⟩ := h.r36.own e; exact lt_of_block hc
  have nm35 : v35.ownBlock ≠ some bm := fun e => by have := (h.r35.own e).1; omega
  have nm36 : v36.ownBlock ≠ some bm := fun e => by have := (h.r36.own e).1; omega
  have hnew : w4.heap[wr.heap.size]? = some (.cells #[.int .i64 0, .int .u64 k, .bool false, .slice none 0 0, .bool false] 29 (0, 0)) := by
    rw [hg4.block _ (by simp; omega) (fun e => by have := lt36 _ e.symm; omega), Below.heap_alloc _ _ _ (by omega), hg3.block _ (by simp; omega) (fun e => by have := lt35 _ e.symm; omega), Below.heap_alloc _ _ _ (by omega), hg2.block _ (by simp) (by simp; omega)]
    exact heap_alloc_new _ _
  refine ⟨?_, ?_, ?_, ?_, ?_, ?_, ?_, ?_, hbl⟩
  · refine ⟨(hg4.os.trans (hg3.os.trans hg2.os)).trans h.but.os, (hg4.tape.trans (hg3.tape.trans hg2.tape)).trans h.but.tape, (hg4.output.trans (hg3.output.trans hg2.output)).trans h.but.output, by omega, fun b hb hn => ?_⟩
    rw [keep b (by omega) (by simpa using hn) (fun e => by have := (h.r35.own e).1; omega) (fun e => by have := (h.r36.own e).1; omega)]
    exact h.but.block b hb hn
  · -- okeys: kept while 'ovals' grows
    have hrow : ∀ b, v35'.ownBlock = some b → v36.ownBlock ≠ some b := fun b e e' => by
      have hb36 := h.r36.own e'
      obtain ⟨_, cur, hc⟩ := hb36
      have hlt : b < wr.heap.size := lt_of_block hc
      have h3c : ∃ cur', w3.heap[b]? = some (.cells cur' 24 (0, 0)) := by
        rcases h35.2 with ⟨rfl, _⟩ | ⟨g', cap', cur', rfl, _, h2, _⟩
        · simp [Value.ownBlock] at e
        · simp [Value.ownBlock] at e
          subst e
          exact ⟨cur', h2⟩
      obtain ⟨cur', hc'⟩ := h3c
      have : w3.heap[b]? = wr.heap[b]? := by
        rw [hg3.block b (by simp; omega) (fun x => notrow b cur 27 hc (by decide) x.symm), Below.heap_alloc _ _ _ (by omega), hg2.block b (by simp; omega) (fun x => nm36 (by rw [e']; exact x)), Below.heap_alloc _ _ _ hlt]
      rw [this, hc] at hc'
      simp at hc'
    have h35' := (h35.alloc o4).kept hg4 (by
      cases hv : v35'.ownBlock with
      | none => exact .inl rfl
      | some b => exact .inr (fun x => hrow b hv x.symm))
    unfold IRow
    simpa using h35'
  · unfold PRow
    simpa using h36
  · rw [List.map_append, List.nodup_append]
    refine ⟨h.nodup, by simp, fun a ha b hb => ?_⟩
    simp at hb
    subst hb
    exact fun e => hnk (e ▸ ha)
  · rw [fOf_snoc, List.length_append]
    refine hm2.kept ?_
    rw [hg4.block bm (by simp; omega) (fun x => nm36 x.symm), Below.heap_alloc _ _ _ (by omega), hg3.block bm (by simp; omega) (fun x => nm35 x.symm), Below.heap_alloc _ _ _ (by omega)]
  · intro p hp
    rcases List.mem_append.1 hp with hp | hp
    · obtain ⟨e1, e2⟩ := h.ent p hp
      refine ⟨e1.kept (keep _ e1.lt (by omega) (notrow _ _ _ e1 (by decide)) (notrow' _ _ _ e1 (by decide))), e2⟩
    · simp at hp
      subst hp
      exact ⟨hnew, hs0⟩
  · intro p hp
    rcases List.mem_append.1 hp with hp | hp
    · exact h.rng p hp
    · simp at hp
      subst hp
      exact ⟨hk0, hk8⟩
  · simp only [List.map_append, List.map_cons, List.map_nil, List.mem_append, List.mem_singleton, not_or]
    exact ⟨h.nbi, fun e => hbi e.symm⟩

theorem Oth.later35 {w0 wr w2 : World} {bm bh : Nat} {bi : Int} {kv : List (Int × Nat)} {v35 v36 : Value} (h : Oth w0 wr bm bh bi kv v35 v36) {o : Obj} (hg2 : (wr.alloc o).grownBy w2 (some bm)) : IRow w2 w0.heap.size v35 (kv.map (·.1)) := by
  refine World.ownsRow.kept (World.ownsRow.alloc h.r35 o) hg2 ?_
  have hbl := h.blt
  cases hv : v35.ownBlock with
  | none => exact .inl rfl
  | some b => exact .inr (fun e => by have := (h.r35.own hv).1; simp at e; omega)
theorem Oth.later36 {w0 wr w2 w3 : World} {bm bh : Nat} {bi : Int} {kv : List (Int × Nat)} {v35 v36 : Value} (h : Oth w0 wr bm bh bi kv v35 v36) {o o3 : Obj} (hg2 : (wr.alloc o).grownBy w2 (some bm)) (hg3 : (w2.alloc o3).grownBy w3 v35.ownBlock) : PRow w3 w0.heap.size v36 (kv.map (·.2)) := by
  have hbl := h.blt
  have h2 : PRow w2 w0.heap.size v36 (kv.map (·.2)) := by
    refine World.ownsRow.kept (World.ownsRow.alloc h.r36 o) hg2 ?_
    cases hv : v36.ownBlock with
    | none => exact .inl rfl
    | some b => exact .inr (fun e => by have := (h.r36.own hv).1; simp at e; omega)
  refine World.ownsRow.kept (World.ownsRow.alloc h2 o3) hg3 ?_
  cases hv : v36.ownBlock with
  | none => exact .inl rfl
  | some b =>
    refine .inr (fun e => ?_)
    obtain ⟨_, c1, h1⟩ := h.r35.own e.symm
    obtain ⟨_, c2, h2'⟩ := h.r36.own hv
    rw [h1] at h2'
    simp at h2'
theorem Oth.mapAlloc {w0 wr : World} {bm bh : Nat} {bi : Int} {kv : List (Int × Nat)} {v35 v36 : Value} (h : Oth w0 wr bm bh bi kv v35 v36) (o : Obj) : KMap (wr.alloc o) bm (fOf (upd (fun _ => none) bi (some bh)) kv) (kv.length + 1) :=
  h.map.kept (Below.heap_alloc _ _ _ h.map.lt)
theorem Oth.free {w0 wr : World} {bm bh : Nat} {bi k : Int} {kv : List (Int × Nat)} {v35 v36 : Value} (_ : Oth w0 wr bm bh bi kv v35 v36) (hk : k ≠ bi) (hn : k ∉ kv.map (·.1)) : fOf (upd (fun _ => none) bi (some bh)) kv k = none := by
  rw [fOf_out kv _ hn, upd_other _ _ hk]
theorem Oth.start {w0 : World} {bm bh : Nat} {bi : Int} (hk : KMap w0 bm (upd (fun _ => none) bi (some bh)) 1) : Oth w0 w0 bm bh bi [] (.slice none 0 0) (.slice none 0 0) :=
  ⟨But.refl _ _, World.ownsRow_nil _ _ _ _, World.ownsRow_nil _ _ _ _, List.Pairwise.nil, hk, fun _ h => (by cases h), fun _ h => (by cases h), by simp, hk.lt⟩

theorem IRow.base {w : World} {base base' : Nat} {v : Value} {ns : List Int} (h : IRow w base v ns) (hb : base' ≤ base) : IRow w base' v ns := by
  refine ⟨h.1, ?_⟩
  rcases h.2 with h' | ⟨g', cap', cur, h', h1, h2, h3⟩
  · exact .inl h'
  · exact .inr ⟨g', cap', cur, h', by omega, h2, h3⟩
/-- The entries that the loop has laid, all from block 'top' on. -/
structure Ent (top : Nat) (w : World) (kv : List (Int × Nat)) (v35 v36 : Value) : Prop where
  r35 : IRow w top v35 (kv.map (·.1))
  r36 : PRow w top v36 (kv.map (·.2))
  nodup : (kv.map (·.1)).Nodup
  ent : ∀ p, p ∈ kv → WB w p.2 0 p.1 false (.slice none 0 0) false ∧ top ≤ p.2
  rng : ∀ p, p ∈ kv → 0 ≤ p.1 ∧ p.1 < 8
theorem Oth.toEnt {w0 wr : World} {bm bh : Nat} {bi : Int} {kv : List (Int × Nat)} {v35 v36 : Value} (h : Oth w0 wr bm bh bi kv v35 v36) : Ent w0.heap.size wr kv v35 v36 := ⟨h.r35, h.r36, h.nodup, h.ent, h.rng⟩
theorem ownsRow_blocks {w w' : World} {base : Nat} {e : TypeId} {v : Value} {n : Nat} {xs : List Value} (h : w.ownsRow base e 1 v n xs) (hk : ∀ b, base ≤ b → b < w.heap.size → w'.heap[b]? = w.heap[b]?) : w'.ownsRow base e 1 v n xs := by
  refine ⟨h.1, ?_⟩
  rcases h.2 with h' | ⟨g', cap', cur, h', h1, h2, h3⟩
  · exact .inl h'
  · exact .inr ⟨g', cap', cur, h', h1, (hk g' h1 (lt_of_block h2)).trans h2, h3⟩
theorem Ent.kept {top : Nat} {w w' : World} {kv : List (Int × Nat)} {v35 v36 : Value} (h : Ent top w kv v35 v36) (hk : ∀ b, top ≤ b → b < w.heap.size → w'.heap[b]? = w.heap[b]?) : Ent top w' kv v35 v36 :=
  ⟨ownsRow_blocks h.r35 hk, ownsRow_blocks h.r36 hk, h.nodup, fun p hp => ⟨(h.ent p hp).1.kept (hk _ (h.ent p hp).2 (h.ent p hp).1.lt), (h.ent p hp).2⟩, h.rng⟩
theorem Ent.but {top : Nat} {S : List Nat} {w w' : World} {kv : List (Int × Nat)} {v35 v36 : Value} (h : Ent top w kv v35 v36) (hb : But S w w') (hs : ∀ b, b ∈ S → b < top) : Ent top w' kv v35 v36 :=
  h.kept (fun b h1 h2 => hb.block b h2 (fun m => by have := hs b m; omega))

/-- What the map holds once 'w' is known, or not. -/
def fKnown (f : Int → Option Nat) (ti : Int) (bw : Nat) (wk : Bool) : Int → Option Nat := if wk then upd f ti (some bw) else f
def nKnown (n : Nat) (wk : Bool) : Nat := if wk then n + 1 else n

/-- What the map holds behind 'tidy'. -/
def fGone (f : Int → Option Nat) (bi : Int) (gone : Bool) : Int → Option Nat := if gone then upd f bi none else f
def nGone (n : Nat) (gone : Bool) : Nat := if gone then n - 1 else n
def topOf (bh : Nat) (gone : Bool) : Value := if gone then .pointer (some ⟨bh, 0, none⟩) else .pointer none

/-- 'c.spare.Take()' behind 'tidy'. -/
theorem take_tid {gone : Bool} {w : World} {top bc bm bh n : Nat} {f : Int → Option Nat} {bi wf rep : Int} {hw : Bool} {v : Value} {pend : Bool} (h : Tid gone w top bc bm bh n f bi wf rep hw v pend) (hbc : bc < top) (hbm : bm < top) (nbm : bm ≠ bc) :
    Calls Yba.prog 10 #[.pointer (some ⟨bc, 2, none⟩)] w fun e w' => e = .returned (.tuple #[topOf bh gone, .bool gone]) ∧ (∃ u, CB w' bc bm u) ∧ KMap w' bm (fGone f bi gone) (nGone n gone) ∧ (w'.os = w.os ∧ w'.tape = w.tape ∧ w'.output = w.output ∧ w.heap.size ≤ w'.heap.size) ∧
      (∀ b, b < top → b ≠ bc → w'.heap[b]? = w.heap[b]?) := by
  cases gone with
  | true =>
    obtain ⟨hk7, hh7, g, cap', hc7, ho7⟩ := h.yes rfl
    have hht := ho7.lt g rfl
    have h1c : 1 ≤ cap' := by
      rcases ho7.2 with ⟨h', _⟩ | ⟨g', cap'', cur, h', _, _, h3, _⟩
      · simp at h'
      · simp only [Value.slice.injEq, Option.some.injEq, Addr.mk.injEq, and_true, true_and] at h'
        omega
    refine (take_one bc bm g cap' bh top w hc7 ho7 (by omega) h1c).mono ?_
    rintro e w7 ⟨rfl, hb7, v7, hc8⟩
    have hbl : ∀ b, b < top → b ≠ bc → w7.heap[b]? = w.heap[b]? := fun b h1 h2 => hb7.block b (by omega) (by simp; omega)
    refine ⟨rfl, ⟨v7, hc8⟩, hk7.kept (hbl bm hbm nbm), ⟨hb7.os, hb7.tape, hb7.output, hb7.size⟩, hbl⟩
  | false =>
    obtain ⟨hk7, hh7, hc7⟩ := h.no rfl
    refine (take_nil bc bm w hc7).mono ?_
    rintro e w7 ⟨rfl, rfl⟩
    exact ⟨rfl, ⟨_, hc7⟩, hk7, ⟨rfl, rfl, rfl, Nat.le_refl _⟩, fun _ _ _ => rfl⟩

theorem Ent.at35 {top : Nat} {w : World} {kv : List (Int × Nat)} {v35 v36 : Value} (h : Ent top w kv v35 v36) : ∃ a c, v35 = .slice a kv.length c ∧ ∀ k p, kv[k]? = some p → ∃ g, a = some ⟨g, 0, none⟩ ∧ w.cell? ⟨g, k, none⟩ = some (.int .i64 p.1) := by
  have hr := h.r35
  rcases hr.shape with ⟨rfl, hn⟩ | ⟨g, cap, rfl⟩
  · have : kv = [] := by simpa using hn
    subst this
    exact ⟨_, _, rfl, fun k p hp => by simp at hp⟩
  · refine ⟨_, cap, by simp, fun k p hp => ⟨g, rfl, ?_⟩⟩
    exact hr.at (by rw [List.getElem?_map, hp]; rfl)
theorem Ent.at36 {top : Nat} {w : World} {kv : List (Int × Nat)} {v35 v36 : Value} (h : Ent top w kv v35 v36) : ∃ a c, v36 = .slice a kv.length c ∧ ∀ k p, kv[k]? = some p → ∃ g, a = some ⟨g, 0, none⟩ ∧ w.cell? ⟨g, k, none⟩ = some (.pointer (some ⟨p.2, 0, none⟩)) := by
  have hr := h.r36
  rcases hr.2 with ⟨rfl, hn⟩ | ⟨g, cap, cur, rfl, _⟩
  · have : kv = [] := by simpa using hn
    subst this
    exact ⟨_, _, rfl, fun k p hp => by simp at hp⟩
  · refine ⟨_, cap, by simp, fun k p hp => ⟨g, rfl, ?_⟩⟩
    have hk : k < kv.length := (List.getElem?_eq_some_iff.1 hp).1
    rw [World.ownsRow.cellAt hr k (by simp; omega), List.getElem?_map, List.getElem?_map, hp]
    rfl
theorem fFinal {F : Int → Option Nat} {ti bi k : Int} {bw b : Nat} {wk gone : Bool} (h : F k = some b) (h1 : k ≠ bi) (h2 : wk = true → k ≠ ti) : fGone (fKnown F ti bw wk) bi gone k = some b := by
  have e : fKnown F ti bw wk k = some b := by
    unfold fKnown
    cases wk with
    | false => exact h
    | true => show upd F ti (some bw) k = some b; rw [upd_other _ _ (h2 rfl)]; exact h
  unfold fGone
  cases gone with
  | false => exact e
  | true => show upd _ bi none k = some b; rw [upd_other _ _ h1]; exact e
theorem fFinal_ti {F : Int → Option Nat} {ti bi : Int} {bw : Nat} {gone : Bool} (h1 : ti ≠ bi) : fGone (fKnown F ti bw true) bi gone ti = some bw := by
  have e : fKnown F ti bw true ti = some bw := upd_same _ _ _
  unfold fGone
  cases gone with
  | false => exact e
  | true => show upd _ bi none ti = some bw; rw [upd_other _ _ h1]; exact e

theorem wpList_len_k (w : World) {ops : Array Oper} {rest : List Oper} {o : Oper} {a : Act} {Q : Exit → Act → World → Prop} (hg : o.guard = none) (m : Operand) (hop : o.op = Op.call { callee := Callee.builtin Builtin.len, args := #[m], argTypes := #[30] }) (bm n : Nat) (f : Int → Option Nat) (hm : a.eval m = .map (some bm)) (hk : KMap w bm f n)
    (hK : wpList Yba.prog ops Q rest (a.put o.dst (.int .i64 n)) w) : wpList Yba.prog ops Q (o :: rest) a w := by
  refine wpList_plain hg fun K' hK' => ?_
  unfold Oper.wp
  simp [execOp, hop, resolve, invoke, builtin, hm, hk.len o.type, Result.andThen]
  exact hK' _ _ hK

end Go.Proofs.Ybulkehxo
