/-
  FOR LawS6709CWhole: the data of a call; what holds between the law's statements.
-/
import Derived.Test.YbulkehxoCRes
import Derived.Test.YbulkehxoCFrame
import Derived.Sort.OwnSortedInts
import Derived.Laws.OwnMore
namespace Go.Proofs.Ybulkehxo
open Go.RowKit

/-- One account as it is given. -/
structure Rw where
  waiter : ByteArray
  holder : ByteArray
  at_ : Int
  last : Int
  msgs : Int
  line : Int
  due : Bool
  opn : Bool
/-- A call's arguments. -/
structure Dat where
  now : Int
  hop : Int
  a2 : Option Addr
  a3 : Option Addr
  c2 : Nat
  c3 : Nat
  n : Nat
  N : Nat
  nm : Nat → ByteArray
  rw : Nat → Rw

structure Inp (D : Dat) (w0 : World) : Prop where
  sz : D.n + D.N ≤ 4096
  s2 : ∀ i, i < D.n → ∃ b o, D.a2 = some ⟨b, o, none⟩ ∧ b < w0.heap.size ∧ w0.cell? ⟨b, o + i, none⟩ = some (.string (D.nm i))
  s3 : ∀ i, i < D.N → ∃ b o, D.a3 = some ⟨b, o, none⟩ ∧ b < w0.heap.size ∧
    w0.cell? ⟨b, o + i * 8, none⟩ = some (.string (D.rw i).waiter) ∧ w0.cell? ⟨b, o + i * 8 + 1, none⟩ = some (.string (D.rw i).holder) ∧
    w0.cell? ⟨b, o + i * 8 + 2, none⟩ = some (.int .i64 (D.rw i).at_) ∧ w0.cell? ⟨b, o + i * 8 + 3, none⟩ = some (.int .i64 (D.rw i).last) ∧
    w0.cell? ⟨b, o + i * 8 + 4, none⟩ = some (.int .i64 (D.rw i).msgs) ∧ w0.cell? ⟨b, o + i * 8 + 5, none⟩ = some (.int .u64 (D.rw i).line) ∧
    w0.cell? ⟨b, o + i * 8 + 6, none⟩ = some (.bool (D.rw i).due) ∧ w0.cell? ⟨b, o + i * 8 + 7, none⟩ = some (.bool (D.rw i).opn)
  lw : ∀ i, i < D.N → 0 ≤ (D.rw i).line ∧ (D.rw i).line < 18446744073709551616

/-- The frame: its size, the arguments. -/
structure Fr (D : Dat) (a : Act) : Prop where
  size : a.tmps.size = 421
  defers : a.defers = []
  h0 : a.tmps[0]? = some (.int .i64 D.now)
  h1 : a.tmps[1]? = some (.int .i64 D.hop)
  h2 : a.tmps[2]? = some (.slice D.a2 D.n D.c2)
  h3 : a.tmps[3]? = some (.slice D.a3 D.N D.c3)

def evBg (D : Dat) (i : Nat) : List Value := evC i ⟨#[98, 101, 103, 105, 110]⟩ (D.nm i) 0 0 ⟨#[]⟩
def ev0 (D : Dat) : List (List Value) := (List.range D.n).map (evBg D)
def dueL (D : Dat) (m : Nat) : List Nat := (List.range m).filter fun i => (D.rw i).due
def opnL (D : Dat) (m : Nat) : List Nat := (List.range m).filter fun i => (D.rw i).opn
def lnR (D : Dat) (i : Nat) : Int := (D.rw i).line % ((D.n : Int) + 1)
def lineS (D : Dat) : List Int := ((dueL D D.N).map (lnR D)).mergeSort fun x y => decide (x ≤ y)
def lnN (D : Dat) (i : Nat) : Nat := if (D.rw i).due then ((lineS D).getD (dueL D i).length 0).toNat else 0
def cfD (D : Dat) (i : Nat) : Conf := ⟨(D.rw i).waiter, (D.rw i).holder, (D.rw i).at_, (D.rw i).last, (D.rw i).msgs⟩

theorem ev0_length (D : Dat) : (ev0 D).length = D.n := by simp [ev0]
theorem ev0_all (D : Dat) : AllEv (ev0 D) := fun e he => by
  obtain ⟨i, _, rfl⟩ := List.mem_map.1 he
  exact evC_ok _ _ _ _ _ _
theorem dueL_succ (D : Dat) (i : Nat) : dueL D (i + 1) = dueL D i ++ if (D.rw i).due then [i] else [] := by
  unfold dueL
  rw [List.range_succ, List.filter_append]
  congr 1
  cases h : (D.rw i).due <;> simp [h]
theorem opnL_succ (D : Dat) (i : Nat) : opnL D (i + 1) = opnL D i ++ if (D.rw i).opn then [i] else [] := by
  unfold opnL
  rw [List.range_succ, List.filter_append]
  congr 1
  cases h : (D.rw i).opn <;> simp [h]
theorem dueL_len (D : Dat) (i : Nat) : (dueL D i).length ≤ i := by
  have := List.length_filter_le (fun i => (D.rw i).due) (List.range i)
  rwa [List.length_range] at this
theorem opnL_len (D : Dat) (i : Nat) : (opnL D i).length ≤ i := by
  have := List.length_filter_le (fun i => (D.rw i).opn) (List.range i)
  rwa [List.length_range] at this

/-- Cells written one after the other. -/
def lset (xs : List Value) (o : Nat) : List Value → List Value
  | [] => xs
  | v :: vs => lset (xs.set o v) (o + 1) vs
theorem lset_eq : ∀ (vs xs : List Value) (o : Nat), o + vs.length ≤ xs.length → lset xs o vs = xs.take o ++ vs ++ xs.drop (o + vs.length)
  | [], xs, o, _ => by simp [lset]
  | v :: vs, xs, o, h => by
    simp only [List.length_cons] at h
    rw [lset, lset_eq vs (xs.set o v) (o + 1) (by rw [List.length_set]; omega)]
    have hx : xs = xs.take o ++ xs.drop o := (List.take_append_drop o xs).symm
    obtain ⟨y, ys, hy⟩ : ∃ y ys, xs.drop o = y :: ys := by
      cases hd : xs.drop o with
      | nil => have := congrArg List.length hd; simp at this; omega
      | cons y ys => exact ⟨y, ys, rfl⟩
    have ht : (xs.take o).length = o := by rw [List.length_take]; omega
    have e1 : xs.set o v = xs.take o ++ v :: ys := by
      conv => lhs; rw [hx, hy]
      rw [List.set_append_right _ _ (by omega), ht, Nat.sub_self, List.set_cons_zero]
    rw [e1, List.take_append, List.drop_append, ht]
    have e2 : xs.drop (o + (v :: vs).length) = ys.drop vs.length := by
      rw [← List.drop_drop, hy, List.length_cons, List.drop_succ_cons]
    rw [e2, List.take_of_length_le (by omega), List.drop_eq_nil_of_le (by omega)]
    have q1 : o + 1 - o = 1 := by omega
    have q2 : o + 1 + vs.length - o = vs.length + 1 := by omega
    rw [q1, q2]
    simp
theorem ownsRow_setCells {base g n cap size : Nat} {e : TypeId} : ∀ (vs : List Value) (o : Nat) (w : World) (xs : List Value), w.ownsRow base e size (.slice (some ⟨g, 0, none⟩) n cap) n xs →
    (w.setCells g o vs).ownsRow base e size (.slice (some ⟨g, 0, none⟩) n cap) n (lset xs o vs) ∧ w.grownBy (w.setCells g o vs) (some g)
  | [], _, w, _, h => ⟨h, World.grownBy.refl w _⟩
  | v :: vs, o, w, xs, h => by
    obtain ⟨h1, h2⟩ := h.stored o v
    obtain ⟨h3, h4⟩ := ownsRow_setCells vs (o + 1) _ _ h1
    exact ⟨h3, h2.trans h4⟩
theorem erow_there {w : World} {base g n cap : Nat} {xs : List Value} (h : ERow w base (.slice (some ⟨g, 0, none⟩) n cap) n xs) (i : Nat) (hi : i < n) : w.there g (i * 14) 14 := by
  rcases h.2 with ⟨h', _⟩ | ⟨g', cap', cur, h', _, hg, hnc, _, hcs, _⟩
  · cases h'
  · injection h' with h' _ h''
    injection h' with h'
    injection h' with h'
    subst h' h''
    intro j hj
    rw [cell_of_row w g _ cur 50 (0, 0) hg]
    refine ⟨?_, by simp [World.frozen?, hg]⟩
    rw [Array.getElem?_eq_getElem (by rw [hcs]; omega)]
    rfl
theorem size50 : (Yba.prog.info? 50).map (·.size) = some 14 := by kernel_rfl

/-- After the events. -/
structure St1 (D : Dat) (w0 : World) (ev : Value) (a : Act) (w : World) : Prop where
  fr : Fr D a
  h9 : a.tmps[9]? = some (.int .i64 D.n)
  h10 : a.tmps[10]? = some ev
  er : ERow w w0.heap.size ev D.n (ev0 D).flatten
  bl : Below w0.heap.size w0 w

theorem ownsRow_below {w1 w2 : World} {base n size : Nat} {e : TypeId} {v : Value} {xs : List Value} (h : w1.ownsRow base e size v n xs) (hb : Below w1.heap.size w1 w2) : w2.ownsRow base e size v n xs := by
  refine ⟨h.1, ?_⟩
  rcases h.2 with q | ⟨g, cap, cur, q1, q2, q3, q4⟩
  · exact .inl q
  · exact .inr ⟨g, cap, cur, q1, q2, (hb.block g (lt_of_block q3)).trans q3, q4⟩
theorem ownsRow_base {w : World} {b1 b2 n size : Nat} {e : TypeId} {v : Value} {xs : List Value} (h : w.ownsRow b2 e size v n xs) (hb : b1 ≤ b2) : w.ownsRow b1 e size v n xs := by
  refine ⟨h.1, ?_⟩
  rcases h.2 with q | ⟨g, cap, cur, q1, q2, q3⟩
  · exact .inl q
  · exact .inr ⟨g, cap, cur, q1, Nat.le_trans hb q2, q3⟩
theorem below_down {b1 b2 : Nat} {w w' : World} (h : Below b2 w w') (hb : b1 ≤ b2) : Below b1 w w' := ⟨h.os, h.tape, h.output, h.size, fun k hk => h.block k (Nat.lt_of_lt_of_le hk hb)⟩
theorem below_grown {w w' : World} {base n size : Nat} {e : TypeId} {v : Value} {xs : List Value} (h : w.ownsRow base e size v n xs) (hg : w.grownBy w' v.ownBlock) (hb : base ≤ w.heap.size) : Below base w w' :=
  ⟨hg.os, hg.tape, hg.output, hg.size, fun k hk => hg.block k (by omega) (fun e => by have := (h.lt k e.symm).1; omega)⟩

def lineRow (zs : List Int) : List Value := zs.map (Value.int .i64)
/-- slices.Sort on a row of one's own. -/
theorem sort_any (base n : Nat) (v : Value) (zs : List Int) (w : World) (hn : zs.length = n) (h : w.ownsRow base 3 1 v n (lineRow zs)) (hz : n ≤ 4096) :
    Calls Yba.prog 11 #[v] w fun e w' => e = .returned (.tuple #[]) ∧ w'.ownsRow base 3 1 v n (lineRow (zs.mergeSort fun x y => decide (x ≤ y))) ∧ w.grownBy w' v.ownBlock := by
  subst hn
  have hl : (zs.mergeSort fun x y => decide (x ≤ y)).length = zs.length := List.length_mergeSort _
  rcases h.2 with ⟨rfl, h0⟩ | ⟨g, cap, cur, rfl, hb, hg, h1, h2, h3, h4⟩
  · refine (AnyM.slices_Sort_int_none Yba.sortC none 0 w).mono ?_
    rintro e w' ⟨rfl, rfl⟩
    have : zs = [] := List.eq_nil_of_length_eq_zero h0
    subst this
    exact ⟨rfl, by simpa using h, World.grownBy.refl _ _⟩
  · have hH := holds_of_blockI hg (by rw [Nat.mul_one] at h4; exact h4)
    refine (AnyM.slices_Sort_int Yba.sortC g 0 cap zs w hH (lt_of_block hg) (by omega)).mono ?_
    rintro e w' ⟨rfl, n, os, rfl⟩
    exact ⟨rfl, ownsRow_sortedI hl hb hg h1 h2 h3, grownBy_sortedI _⟩

/-- After the lines are sorted. -/
structure St2 (D : Dat) (w0 : World) (ev vl : Value) (a : Act) (w : World) : Prop where
  fr : Fr D a
  h9 : a.tmps[9]? = some (.int .i64 D.n)
  h10 : a.tmps[10]? = some ev
  h13 : a.tmps[13]? = some vl
  er : ERow w w0.heap.size ev D.n (ev0 D).flatten
  lr : w.ownsRow w0.heap.size 3 1 vl (dueL D D.N).length (lineRow (lineS D))
  bl : Below w0.heap.size w0 w

end Go.Proofs.Ybulkehxo
