/-
  FOR LawS6709CWhole: the events that are wanted, built from the front (no Go).
-/
import Derived.Test.YbulkehxoCD
namespace Go.Proofs.Ybulkehxo
open Go.RowKit

abbrev dsD (D : Dat) : List Nat := dueL D D.N
/-- The line of the j-th due account. -/
def lnj (D : Dat) (j : Nat) : Nat := lnN D ((dsD D).getD j 0)

theorem dueL_at (D : Dat) : ∀ (m k d : Nat), (dueL D m)[k]? = some d → d < m ∧ (D.rw d).due = true ∧ (dueL D d).length = k
  | 0, k, d, h => by simp [dueL] at h
  | m + 1, k, d, h => by
    rw [dueL_succ] at h
    rcases Nat.lt_or_ge k (dueL D m).length with hk | hk
    · rw [List.getElem?_append_left hk] at h
      obtain ⟨h1, h2, h3⟩ := dueL_at D m k d h
      exact ⟨by omega, h2, h3⟩
    · rw [List.getElem?_append_right hk] at h
      cases hd : (D.rw m).due with
      | false => rw [hd] at h; simp at h
      | true =>
        rw [hd, if_pos rfl] at h
        have hl := (List.getElem?_eq_some_iff.1 h).1
        simp at hl
        have : k - (dueL D m).length = 0 := by omega
        rw [this] at h
        simp at h
        subst h
        exact ⟨by omega, hd, by omega⟩
theorem lnj_eq (D : Dat) {j : Nat} (hj : j < (dsD D).length) : ∃ d x, (dsD D)[j]? = some d ∧ (dsD D).getD j 0 = d ∧ d < D.N ∧ (D.rw d).due = true ∧ (dueL D d).length = j ∧ (lineS D)[j]? = some x ∧ lnj D j = x.toNat ∧ 0 ≤ x ∧ x ≤ D.n := by
  obtain ⟨d, hd⟩ : ∃ d, (dsD D)[j]? = some d := ⟨_, List.getElem?_eq_getElem hj⟩
  obtain ⟨h1, h2, h3⟩ := dueL_at D D.N j d hd
  have hg : (dsD D).getD j 0 = d := by simp [List.getD, hd]
  have hjl : j < (lineS D).length := by rw [lineS_len]; exact hj
  have hx := lineS_mem D _ (List.getElem_mem hjl)
  refine ⟨d, _, hd, hg, h1, h2, h3, List.getElem?_eq_getElem hjl, ?_, hx.1, hx.2⟩
  unfold lnj lnN
  rw [hg, h2, if_pos rfl, h3, List.getD, List.getElem?_eq_getElem hjl]
  rfl
theorem lnj_le (D : Dat) (j : Nat) : lnj D j ≤ D.n := lnN_le D _
theorem lnj_mono (D : Dat) {j k : Nat} (hjk : j ≤ k) (hk : k < (dsD D).length) : lnj D j ≤ lnj D k := by
  rcases Nat.eq_or_lt_of_le hjk with rfl | hlt
  · exact Nat.le_refl _
  obtain ⟨_, x, _, _, _, _, _, hx, ex, x0, _⟩ := lnj_eq D (j := j) (by omega)
  obtain ⟨_, y, _, _, _, _, _, hy, ey, y0, _⟩ := lnj_eq D hk
  have hs : (lineS D).Pairwise (fun x y => decide (x ≤ y) = true) := List.pairwise_mergeSort (fun a b c h1 h2 => by simp at *; omega) (fun a b => by simp; omega) _
  have h1 := (List.getElem?_eq_some_iff.1 hx)
  have h2 := (List.getElem?_eq_some_iff.1 hy)
  have := List.pairwise_iff_getElem.1 hs j k h1.1 h2.1 hlt
  rw [h1.2, h2.2] at this
  simp at this
  omega

structure WI (D : Dat) (w5 wr : World) (want : Value) (p j : Nat) (h : Nat → Nat) : Prop where
  below : Below w5.heap.size w5 wr
  row : ∃ c, Hid (c = min p D.n + j) ∧ ERow wr w5.heap.size want c (insN (lnj D) (fun k => evD D.now (cfD D ((dsD D).getD k 0)) (h k)) ((ev0 D).take p) j).flatten
  pj : p ≤ D.n + 1
  jm : j ≤ (dsD D).length
  lo : ∀ k, k < j → lnj D k ≤ p
  hi : ∀ k, j ≤ k → k < (dsD D).length → p ≤ lnj D k
  fits : ∀ k, k < j → Fits (hopK (cfD D ((dsD D).getD k 0)) D.hop) (h k)

theorem WI.ins {D : Dat} {w5 wr W : World} {want want' : Value} {p j hb n' : Nat} {h : Nat → Nat} {d : Nat} (hw : WI D w5 wr want p j h) (hj : j < (dsD D).length) (hp : p ≤ D.n) (he : lnj D j = p) (hd : (dsD D).getD j 0 = d)
    (hB : Below w5.heap.size w5 W) (hr : ERow W w5.heap.size want' n' ((insN (lnj D) (fun k => evD D.now (cfD D ((dsD D).getD k 0)) (h k)) ((ev0 D).take p) j).flatten ++ evD D.now (cfD D d) hb))
    (hn : n' = min p D.n + (j + 1)) (hf : Fits (hopK (cfD D d) D.hop) hb) : WI D w5 W want' p (j + 1) (fun k => if k = j then hb else h k) := by
  have hl : ((ev0 D).take p).length = p := by rw [List.length_take, ev0_length]; omega
  refine ⟨hB, ?_, hw.pj, hj, fun k hk => ?_, fun k hk hk2 => hw.hi k (by omega) hk2, fun k hk => ?_⟩
  · refine ⟨n', hn, ?_⟩
    rw [insN_end (lnj D) _ _ j (by rw [hl, he]), insN_congr (ev' := fun k => evD D.now (cfD D ((dsD D).getD k 0)) (h k)) _ _ j (fun k hk => by rw [if_neg (by omega)]), if_pos rfl, hd, List.flatten_append]
    simpa using hr
  · rcases Nat.lt_or_ge k j with q | q
    · exact hw.lo k q
    · obtain rfl : k = j := by omega
      omega
  · by_cases q : k = j
    · rw [if_pos q, q, hd]; exact hf
    · rw [if_neg q]; exact hw.fits k (by omega)
theorem WI.beg {D : Dat} {w5 wr W : World} {want want' : Value} {p j n' : Nat} {h : Nat → Nat} (hw : WI D w5 wr want p j h) (hp : p < D.n) (hne : j < (dsD D).length → lnj D j ≠ p)
    (hB : Below w5.heap.size w5 W) (hr : ERow W w5.heap.size want' n' ((insN (lnj D) (fun k => evD D.now (cfD D ((dsD D).getD k 0)) (h k)) ((ev0 D).take p) j).flatten ++ evBg D p)) (hn : n' = min p D.n + j + 1) : WI D w5 W want' (p + 1) j h := by
  have hl : ((ev0 D).take p).length = p := by rw [List.length_take, ev0_length]; omega
  have hg : (ev0 D)[p]? = some (evBg D p) := by unfold ev0; rw [List.getElem?_map, List.getElem?_range hp]; rfl
  refine ⟨hB, ?_, by omega, hw.jm, fun k hk => by have := hw.lo k hk; omega, fun k hk hk2 => ?_, hw.fits⟩
  · have e : n' = min (p + 1) D.n + j := by omega
    refine ⟨n', e, ?_⟩
    rw [List.take_add_one, hg]
    show ERow W _ want' _ (insN _ _ ((ev0 D).take p ++ [evBg D p]) j).flatten
    rw [insN_snoc (lnj D) _ _ _ j (fun k hk => by rw [hl]; exact hw.lo k hk), List.flatten_append]
    simpa using hr
  · have h1 := hw.hi j (Nat.le_refl _) (by omega)
    have h2 := hne (by omega)
    have h3 := lnj_mono D hk hk2
    omega
theorem WI.last {D : Dat} {w5 wr : World} {want : Value} {j : Nat} {h : Nat → Nat} (hw : WI D w5 wr want D.n j h) (hne : j < (dsD D).length → lnj D j ≠ D.n) : WI D w5 wr want (D.n + 1) j h := by
  refine ⟨hw.below, ?_, by omega, hw.jm, fun k hk => by have := hw.lo k hk; omega, fun k hk hk2 => ?_, hw.fits⟩
  · have e1 : (ev0 D).take (D.n + 1) = (ev0 D).take D.n := by rw [List.take_of_length_le (by rw [ev0_length]; omega), List.take_of_length_le (by rw [ev0_length]; omega)]
    have e2 : min (D.n + 1) D.n + j = min D.n D.n + j := by omega
    rw [e1, e2]
    exact hw.row
  · have h1 := hw.hi j (Nat.le_refl _) (by omega)
    have h2 := hne (by omega)
    have h3 := lnj_le D j
    omega
theorem WI.all {D : Dat} {w5 wr : World} {want : Value} {j : Nat} {h : Nat → Nat} (hw : WI D w5 wr want (D.n + 1) j h) : j = (dsD D).length := by
  rcases Nat.lt_or_ge j (dsD D).length with q | q
  · have h1 := hw.hi j (Nat.le_refl _) q
    have h3 := lnj_le D j
    omega
  · have := hw.jm
    omega

/-- When the wanted events are built. -/
structure St5 (D : Dat) (vl vp vd want : Value) (br : Nat) (a : Act) : Prop where
  st : St4 D vl vp vd br a
  h23 : a.tmps[23]? = some want

end Go.Proofs.Ybulkehxo
