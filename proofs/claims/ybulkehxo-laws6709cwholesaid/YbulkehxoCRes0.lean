/-
  FOR LawS6709CWhole: what resolve keeps, round by round (no Go).
-/
import Derived.Test.YbulkehxoCMem
namespace Go.Proofs.Ybulkehxo
open Go.RowKit

abbrev hopK (c : Conf) (hop : Int) : Option Nat := hopG 4652007308841189376 c.last c.at_ hop
/-- The event that tells of account c. -/
def evD (now : Int) (c : Conf) (h : Nat) : List Value := evC now ⟨#[114, 101, 115, 111, 108, 118, 101, 100]⟩ c.waiter c.msgs h c.holder
/-- What is open when the due ones have been struck. -/
def openF (bl : Nat → Nat) (ks ds : List Nat) (t : Nat) : List Nat := (ds.take t).foldl (fun ks d => ks.filter fun k => !(bl k == bl d)) ks
theorem openF_next (bl : Nat → Nat) (ks ds : List Nat) (t d : Nat) (hd : ds[t]? = some d) : openF bl ks ds (t + 1) = (openF bl ks ds t).filter fun k => !(bl k == bl d) := by
  unfold openF
  rw [List.take_add_one, hd, List.foldl_append]
  rfl

structure RInv (w wr : World) (base br : Nat) (bl : Nat → Nat) (cf : Nat → Conf) (ln : Nat → Nat) (ds ks : List Nat) (E0 : List (List Value)) (now hop : Int) (op0 vd : Value) (t : Nat) (ev op : Value) (h : Nat → Nat) : Prop where
  rb : RB wr br now ev hop op vd
  own : op.ownBlock = op0.ownBlock
  kept : Kept w wr base br op0
  fits : ∀ j, j < t → Fits (hopK (cf (ds.getD j 0)) hop) (h j)
  er : ERow wr base ev (E0.length + t) (insN (fun j => ln (ds.getD j 0)) (fun j => evD now (cf (ds.getD j 0)) (h j)) E0 t).flatten
  orow : wr.ownsRow base 57 1 op (openF bl ks ds t).length ((openF bl ks ds t).map (ptrK bl))

theorem due_shape {w : World} {base br : Nat} {bl : Nat → Nat} {ds : List Nat} {now hop : Int} {ev op vd : Value} (hR : RB w br now ev hop op vd)
    (hD : w.ownsRow base 57 1 vd ds.length (ds.map (ptrK bl))) (hOD : ∀ b, vd.ownBlock = some b → op.ownBlock ≠ some b) :
    ∃ ad capd, vd = .slice ad ds.length capd ∧ (ad = none ∧ ds.length = 0 ∧ capd = 0 ∨ ∃ g, ad = some ⟨g, 0, none⟩ ∧ ds.length ≤ capd ∧ capd ≤ maxLen) ∧ ∀ j d, ds[j]? = some d → ∃ g, ad = some ⟨g, 0, none⟩ ∧ w.cell? ⟨g, j, none⟩ = some (ptrK bl d) ∧ g < w.heap.size ∧ op.ownBlock ≠ some g ∧ g ≠ br ∧ ∃ ca, w.heap[g]? = some (.cells ca 57 (0, 0)) := by
  rcases hD.2 with ⟨rfl, h0⟩ | ⟨g, cap, cur, rfl, _, h2, h3, h4, h5, h6⟩
  · refine ⟨none, 0, by rw [h0], .inl ⟨rfl, h0, rfl⟩, fun j d hj => ?_⟩
    have := (List.getElem?_eq_some_iff.1 hj).1
    omega
  · refine ⟨some ⟨g, 0, none⟩, cap, rfl, .inr ⟨g, rfl, h3, h4⟩, fun j d hj => ⟨g, rfl, ?_, lt_of_block h2, hOD g rfl, type_ne h2 hR (by decide), cur, h2⟩⟩
    have hjl := (List.getElem?_eq_some_iff.1 hj).1
    rw [cell_of_row w g j cur 57 (0, 0) h2]
    have e1 : (cur.toList.take (ds.length * 1))[j]? = cur.toList[j]? := by rw [List.getElem?_take]; simp; omega
    rw [← Array.getElem?_toList, ← e1, h6, List.getElem?_map, hj]
    rfl

theorem res_start {w : World} {base br : Nat} {bl : Nat → Nat} {cf : Nat → Conf} {ln : Nat → Nat} {ds ks : List Nat} {E0 : List (List Value)} {now hop : Int} {ev op vd : Value}
    (hR : RB w br now ev hop op vd) (hE : ERow w base ev E0.length E0.flatten) (hO : w.ownsRow base 57 1 op ks.length (ks.map (ptrK bl))) :
    RInv w w base br bl cf ln ds ks E0 now hop op vd 0 ev op (fun _ => 0) :=
  ⟨hR, rfl, Kept.refl _ _ _ _, fun j hj => absurd hj (Nat.not_lt_zero j), hE, hO⟩

theorem res_next {w We W3 : World} {base br : Nat} {bl : Nat → Nat} {cf : Nat → Conf} {ln : Nat → Nat} {ds ks : List Nat} {E0 : List (List Value)} {now hop : Int} {op0 vd : Value} {t d hb : Nat} {ev' op2 v3 : Value} {h : Nat → Nat} {o : Obj}
    (hRe : RB We br now ev' hop op2 vd) (hown : op2.ownBlock = op0.ownBlock) (hKe : Kept w We base br op0) (hfits : ∀ j, j < t → Fits (hopK (cf (ds.getD j 0)) hop) (h j)) (hfb : Fits (hopK (cf d) hop) hb)
    (hEe : ERow We base ev' (E0.length + t) (insN (fun j => ln (ds.getD j 0)) (fun j => evD now (cf (ds.getD j 0)) (h j)) E0 t).flatten)
    (hOe : We.ownsRow base 57 1 op2 ((openF bl ks ds t).filter fun k => !(bl k == bl d)).length (((openF bl ks ds t).filter fun k => !(bl k == bl d)).map (ptrK bl)))
    (hAll : AllEv E0) (hd : ds[t]? = some d) (hdl : ln d ≤ E0.length) (hbr : base ≤ br)
    (hg : (We.alloc o).drew.grownBy W3 ev'.ownBlock)
    (hE3 : ERow W3 base v3 (E0.length + t + 1) (insC (insN (fun j => ln (ds.getD j 0)) (fun j => evD now (cf (ds.getD j 0)) (h j)) E0 t).flatten (ln d + t) (evD now (cf d) hb))) :
    RInv w (W3.setCell ⟨br, 4, none⟩ v3) base br bl cf ln ds ks E0 now hop op0 vd (t + 1) v3 op2 (fun j => if j = t then hb else h j) := by
  have hgd : ds.getD t 0 = d := by simp [List.getD, hd]
  have evr : ev'.ownBlock ≠ some br := own_ne hEe hRe (by decide)
  have blk : ∀ k, k < We.heap.size → ev'.ownBlock ≠ some k → W3.heap[k]? = We.heap[k]? := fun k h1 h2 => by
    rw [hg.block k (by show k < (We.alloc o).heap.size; simp; omega) (fun e => h2 e.symm)]
    exact Below.heap_alloc We o k h1
  have blk2 : ∀ k, k < We.heap.size → ev'.ownBlock ≠ some k → k ≠ br → (W3.setCell ⟨br, 4, none⟩ v3).heap[k]? = We.heap[k]? := fun k h1 h2 h3 => by
    rw [Below.heap_setCell _ _ _ _ h3, blk k h1 h2]
  have hR3 : RB W3 br now ev' hop op2 vd := hRe.kept (blk br hRe.lt evr)
  have hsz : We.heap.size ≤ W3.heap.size := by
    have := hg.size
    have e : (We.alloc o).drew.heap.size = We.heap.size + 1 := by simp
    omega
  refine ⟨hR3.s4 v3, hown, ?_, ?_, ?_, ?_⟩
  · refine hKe.step ⟨hg.os, hg.tape, hg.output, by simpa using hsz, fun k hk => ?_⟩ (fun k h1 h2 _ h4 => ?_)
    · exact blk2 k (by have := hRe.lt; omega) (fun e => by have := (hEe.lt k e).1; omega) (by omega)
    · refine blk2 k (Nat.lt_of_lt_of_le h1 hKe.below.size) (fun e => ?_) h2
      rcases hEe.2 with ⟨q, _⟩ | ⟨g, cap, cur, q1, _, q2, _⟩
      · rw [q] at e; cases e
      · rw [q1] at e
        injection e with e
        subst e
        exact h4 cur q2
  · intro j hj
    by_cases hjt : j = t
    · subst hjt
      rw [hgd, if_pos rfl]
      exact hfb
    · rw [if_neg hjt]
      exact hfits j (by omega)
  · have e1 : (insN (fun j => ln (ds.getD j 0)) (fun j => evD now (cf (ds.getD j 0)) (if j = t then hb else h j)) E0 (t + 1)).flatten = insC (insN (fun j => ln (ds.getD j 0)) (fun j => evD now (cf (ds.getD j 0)) (h j)) E0 t).flatten (ln d + t) (evD now (cf d) hb) := by
      have hAt : AllEv (insN (fun j => ln (ds.getD j 0)) (fun j => evD now (cf (ds.getD j 0)) (h j)) E0 t) := hAll.insN (fun k => evC_ok _ _ _ _ _ _) t
      rw [insC_flat hAt _ (by rw [insN_length]; omega), insN,
        insN_congr (ev' := fun j => evD now (cf (ds.getD j 0)) (h j)) _ _ t (fun k hk => by rw [if_neg (by omega)]), hgd, if_pos rfl]
    rw [e1]
    exact World.ownsRow.kept hE3 (row := some br) ⟨rfl, rfl, rfl, by simp, fun k _ hk => Below.heap_setCell _ _ _ _ (fun e => hk (by rw [e]))⟩ (.inr (own_ne hE3 hR3 (by decide)))
  · rw [openF_next bl ks ds t d hd]
    refine ⟨hOe.1, ?_⟩
    rcases hOe.2 with q | ⟨g, cap, cur, q1, q2, q3, q4⟩
    · exact .inl q
    · exact .inr ⟨g, cap, cur, q1, q2, (blk2 g (lt_of_block q3) (own_ne hEe q3 (by decide)) (type_ne q3 hRe (by decide))).trans q3, q4⟩

theorem res_out {w wr : World} {base br : Nat} {bl : Nat → Nat} {cf : Nat → Conf} {ln : Nat → Nat} {ds ks : List Nat} {E0 : List (List Value)} {now hop : Int} {op0 vd : Value} {t : Nat} {ev op : Value} {h : Nat → Nat} (x : Value) (hbr : base ≤ br)
    (hI : RInv w wr base br bl cf ln ds ks E0 now hop op0 vd t ev op h) : RInv w (wr.setCell ⟨br, 16, none⟩ x) base br bl cf ln ds ks E0 now hop op0 x t ev op h := by
  have blk2 : ∀ k, k ≠ br → (wr.setCell ⟨br, 16, none⟩ x).heap[k]? = wr.heap[k]? := fun k h3 => Below.heap_setCell _ _ _ _ h3
  refine ⟨hI.rb.s16 x, hI.own, hI.kept.step ⟨rfl, rfl, rfl, by simp, fun k hk => blk2 k (by omega)⟩ (fun k _ h2 _ _ => blk2 k h2), hI.fits, ?_, ?_⟩
  · exact World.ownsRow.kept hI.er (row := some br) ⟨rfl, rfl, rfl, by simp, fun k _ hk => blk2 k (fun e => hk (by rw [e]))⟩ (.inr (own_ne hI.er hI.rb (by decide)))
  · exact World.ownsRow.kept hI.orow (row := some br) ⟨rfl, rfl, rfl, by simp, fun k _ hk => blk2 k (fun e => hk (by rw [e]))⟩ (.inr (own_ne hI.orow hI.rb (by decide)))

end Go.Proofs.Ybulkehxo
