/-
  FOR LawS6709CWhole: the events compared.
-/
import Derived.Test.YbulkehxoCWant
namespace Go.Proofs.Ybulkehxo
open Go.RowKit

/-- Two events that differ in nothing but bits that fit. -/
def Like (e e' : List Value) : Prop := ∃ (at_ : Int) (kind name : ByteArray) (msgs : Int) (x y : Nat) (fo : ByteArray) (o : Option Nat), e = evC at_ kind name msgs x fo ∧ e' = evC at_ kind name msgs y fo ∧ Fits o x ∧ Fits o y
structure LikeL (l l' : List (List Value)) : Prop where
  len : l.length = l'.length
  get : ∀ (i : Nat) (e e' : List Value), l[i]? = some e → l'[i]? = some e' → Like e e'
theorem insAt_get {α : Type} (E : List α) (i : Nat) (e : α) (h : i ≤ E.length) (k : Nat) : (insAt E i e)[k]? = if k < i then E[k]? else if k = i then some e else E[k - 1]? := by
  unfold insAt
  have hl : (E.take i).length = i := by rw [List.length_take]; omega
  by_cases h1 : k < i
  · rw [if_pos h1, List.append_assoc, List.getElem?_append_left (by omega), List.getElem?_take_of_lt h1]
  · rw [if_neg h1]
    by_cases h2 : k = i
    · subst h2
      rw [if_pos rfl, List.append_assoc, List.getElem?_append_right (by omega), hl, Nat.sub_self]
      rfl
    · rw [if_neg h2, List.getElem?_append_right (by rw [List.length_append, hl]; simp; omega), List.getElem?_drop]
      congr 1
      rw [List.length_append, hl]
      simp
      omega
theorem LikeL.ins {l l' : List (List Value)} (h : LikeL l l') {i : Nat} (hi : i ≤ l.length) {e e' : List Value} (he : Like e e') : LikeL (insAt l i e) (insAt l' i e') := by
  refine ⟨by rw [insAt_length, insAt_length, h.len], fun k x x' hx hx' => ?_⟩
  rw [insAt_get l i e hi] at hx
  rw [insAt_get l' i e' (by rw [← h.len]; exact hi)] at hx'
  by_cases h1 : k < i
  · rw [if_pos h1] at hx hx'
    exact h.get k x x' hx hx'
  · rw [if_neg h1] at hx hx'
    by_cases h2 : k = i
    · rw [if_pos h2] at hx hx'
      injection hx with hx
      injection hx' with hx'
      subst hx hx'
      exact he
    · rw [if_neg h2] at hx hx'
      exact h.get (k - 1) x x' hx hx'
theorem LikeL.insN {ln : Nat → Nat} {ev ev' : Nat → List Value} {E : List (List Value)} (h : LikeL E E) : ∀ j, (∀ k, k < j → ln k ≤ E.length) → (∀ k, k < j → Like (ev k) (ev' k)) → LikeL (Ybulkehxo.insN ln ev E j) (Ybulkehxo.insN ln ev' E j)
  | 0, _, _ => h
  | j + 1, h1, h2 => (LikeL.insN h j (fun k hk => h1 k (by omega)) (fun k hk => h2 k (by omega))).ins (by rw [insN_length]; have := h1 j (by omega); omega) (h2 j (by omega))
theorem ev0_like (D : Dat) : LikeL (ev0 D) (ev0 D) := by
  refine ⟨rfl, fun i e e' h h' => ?_⟩
  rw [h] at h'
  injection h' with h'
  subst h'
  obtain ⟨k, _, rfl⟩ := List.mem_map.1 (List.mem_of_getElem? h)
  exact ⟨_, _, _, _, 0, 0, _, some 0, rfl, rfl, ⟨fun r e => (by injection e), fun e => (by cases e)⟩, ⟨fun r e => (by injection e), fun e => (by cases e)⟩⟩

theorem both_like {D : Dat} {w0 w5 w6 : World} {vl vp vd ev op want : Value} {bl bw bh h h' : Nat → Nat} {br : Nat} (hR : Res D w0 vl vp vd ev op bl bw bh h br w5) (hW : WI D w5 w6 want (D.n + 1) (dsD D).length h') (i : Nat) (hi : i < D.n + (dueL D D.N).length) :
    ∃ (ge ce gw cw : Nat) (at_ : Int) (kind name : ByteArray) (msgs : Int) (x y : Nat) (fo : ByteArray) (o : Option Nat), ev = .slice (some ⟨ge, 0, none⟩) (D.n + (dueL D D.N).length) ce ∧ want = .slice (some ⟨gw, 0, none⟩) (D.n + (dueL D D.N).length) cw ∧ ge < w6.heap.size ∧ gw < w6.heap.size ∧
      Fits o x ∧ Fits o y ∧ (∀ (k : Nat) (u : Value), (evC at_ kind name msgs x fo)[k]? = some u → w6.cell? ⟨ge, i * 14 + k, none⟩ = some u) ∧ (∀ (k : Nat) (u : Value), (evC at_ kind name msgs y fo)[k]? = some u → w6.cell? ⟨gw, i * 14 + k, none⟩ = some u) := by
  have hd := lnj_le D
  have hLk : LikeL (insN (lnj D) (fun j => evD D.now (cfD D ((dsD D).getD j 0)) (h j)) (ev0 D) (dsD D).length) (insN (lnj D) (fun j => evD D.now (cfD D ((dsD D).getD j 0)) (h' j)) (ev0 D) (dsD D).length) :=
    LikeL.insN (ev0_like D) _ (fun k _ => by rw [ev0_length]; exact hd k) (fun k hk => ⟨_, _, _, _, _, _, _, _, rfl, rfl, hR.fits k hk, hW.fits k hk⟩)
  obtain ⟨c, hcH, hrow⟩ := hW.row
  have hc : c = D.n + (dueL D D.N).length := by have := hcH.out; show c = D.n + (dsD D).length; omega
  subst hc
  rw [List.take_of_length_le (by rw [ev0_length]; omega)] at hrow
  have hl1 := insN_length (lnj D) (fun j => evD D.now (cfD D ((dsD D).getD j 0)) (h j)) (ev0 D) (dsD D).length
  have hl2 := insN_length (lnj D) (fun j => evD D.now (cfD D ((dsD D).getD j 0)) (h' j)) (ev0 D) (dsD D).length
  rw [ev0_length] at hl1 hl2
  have hA1 : AllEv (insN (lnj D) (fun j => evD D.now (cfD D ((dsD D).getD j 0)) (h j)) (ev0 D) (dsD D).length) := (ev0_all D).insN (fun k => evC_ok _ _ _ _ _ _) _
  have hA2 : AllEv (insN (lnj D) (fun j => evD D.now (cfD D ((dsD D).getD j 0)) (h' j)) (ev0 D) (dsD D).length) := (ev0_all D).insN (fun k => evC_ok _ _ _ _ _ _) _
  have her : ERow w5 w0.heap.size ev (D.n + (dueL D D.N).length) (insN (lnj D) (fun j => evD D.now (cfD D ((dsD D).getD j 0)) (h j)) (ev0 D) (dsD D).length).flatten := hR.er
  generalize insN (lnj D) (fun j => evD D.now (cfD D ((dsD D).getD j 0)) (h j)) (ev0 D) (dsD D).length = l1 at *
  generalize insN (lnj D) (fun j => evD D.now (cfD D ((dsD D).getD j 0)) (h' j)) (ev0 D) (dsD D).length = l2 at *
  obtain ⟨ge, ce, rfl, _, hge⟩ := her.form (by omega)
  obtain ⟨gw, cw, rfl, _, hgw⟩ := hrow.form (by omega)
  obtain ⟨e1, he1⟩ : ∃ e, l1[i]? = some e := ⟨_, List.getElem?_eq_getElem (show i < l1.length by rw [hl1]; exact hi)⟩
  obtain ⟨e2, he2⟩ : ∃ e, l2[i]? = some e := ⟨_, List.getElem?_eq_getElem (show i < l2.length by rw [hl2]; exact hi)⟩
  obtain ⟨at_, kind, name, msgs, x, y, fo, o, rfl, rfl, hx, hy⟩ := hLk.get i e1 e2 he1 he2
  have hs := hW.below.size
  refine ⟨ge, ce, gw, cw, at_, kind, name, msgs, x, y, fo, o, rfl, rfl, by omega, hgw, hx, hy, fun k u hu => ?_, fun k u hu => ?_⟩
  · have hk : k < 14 := (List.getElem?_eq_some_iff.1 hu).1
    have e1 := hA1.get i k _ he1 hk
    refine (World.cell?_of_block (a := ⟨ge, i * 14 + k, none⟩) (hW.below.block ge hge)).trans ?_
    rw [her.cellAt (i * 14 + k) (by omega), e1, hu]
  · have hk : k < 14 := (List.getElem?_eq_some_iff.1 hu).1
    have e1 := hA2.get i k _ he2 hk
    rw [hrow.cellAt (i * 14 + k) (by omega), e1, hu]

end Go.Proofs.Ybulkehxo
