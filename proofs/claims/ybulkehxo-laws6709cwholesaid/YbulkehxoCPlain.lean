/-
  FOR LawS6709CWhole: the plain law: events inserted one after the other = events built from the front.
-/
import Derived.Test.YbulkehxoCEvq
import Derived.Test.YbulkehxoCIns
namespace Go.Proofs.Ybulkehxo

/-- Insert at place i. -/
def insAt {α : Type} (E : List α) (i : Nat) (e : α) : List α := E.take i ++ [e] ++ E.drop i
theorem insAt_length {α : Type} (E : List α) (i : Nat) (e : α) : (insAt E i e).length = E.length + 1 := by
  simp only [insAt, List.length_append, List.length_take, List.length_drop, List.length_cons, List.length_nil]
  omega
theorem insAt_end {α : Type} (E : List α) (e : α) : insAt E E.length e = E ++ [e] := by simp [insAt]
theorem insAt_snoc {α : Type} (E : List α) (b e : α) {i : Nat} (h : i ≤ E.length) : insAt (E ++ [b]) i e = insAt E i e ++ [b] := by
  unfold insAt
  rw [List.take_append_of_le_length h, List.drop_append_of_le_length h]
  simp
/-- The first j of the pairs (line, event) inserted, the t-th at its line + t. -/
def insN {α : Type} (ln : Nat → Nat) (ev : Nat → α) (E : List α) : Nat → List α
  | 0 => E
  | j + 1 => insAt (insN ln ev E j) (ln j + j) (ev j)
theorem insN_length {α : Type} (ln : Nat → Nat) (ev : Nat → α) (E : List α) : ∀ j, (insN ln ev E j).length = E.length + j
  | 0 => rfl
  | j + 1 => by
    rw [insN, insAt_length, insN_length ln ev E j]
    omega
theorem insN_snoc {α : Type} (ln : Nat → Nat) (ev : Nat → α) (E : List α) (b : α) : ∀ j, (∀ k, k < j → ln k ≤ E.length) → insN ln ev (E ++ [b]) j = insN ln ev E j ++ [b]
  | 0, _ => rfl
  | j + 1, h => by
    rw [insN, insN, insN_snoc ln ev E b j (fun k hk => h k (by omega)), insAt_snoc _ _ _ (by rw [insN_length]; have := h j (by omega); omega)]
theorem insN_end {α : Type} (ln : Nat → Nat) (ev : Nat → α) (E : List α) (j : Nat) (h : ln j = E.length) : insN ln ev E (j + 1) = insN ln ev E j ++ [ev j] := by
  rw [insN, h, ← insN_length ln ev E j, insAt_end]
theorem insN_congr {α : Type} (ln : Nat → Nat) {ev ev' : Nat → α} (E : List α) : ∀ j, (∀ k, k < j → ev k = ev' k) → insN ln ev E j = insN ln ev' E j
  | 0, _ => rfl
  | j + 1, h => by rw [insN, insN, insN_congr ln E j (fun k hk => h k (by omega)), h j (by omega)]

/-- Each is an event's cells. -/
def AllEv (E : List (List Value)) : Prop := ∀ e, e ∈ E → e.length = 14 ∧ ∀ u, u ∈ e → u.oneCell' = true
theorem evC_ok (at_ : Int) (kind name : ByteArray) (msgs : Int) (hops : Nat) (fo : ByteArray) : (evC at_ kind name msgs hops fo).length = 14 ∧ ∀ u, u ∈ evC at_ kind name msgs hops fo → u.oneCell' = true := by
  refine ⟨rfl, fun u hu => ?_⟩
  simp only [evC, List.mem_cons, List.not_mem_nil, or_false] at hu
  rcases hu with rfl | rfl | rfl | rfl | rfl | rfl | rfl | rfl | rfl | rfl | rfl | rfl | rfl | rfl <;> rfl
theorem AllEv.flat {E : List (List Value)} (h : AllEv E) : ∀ u, u ∈ E.flatten → u.oneCell' = true := by
  intro u hu
  obtain ⟨e, he, hu⟩ := List.mem_flatten.1 hu
  exact (h e he).2 u hu
theorem AllEv.flat_length : ∀ {E : List (List Value)}, AllEv E → E.flatten.length = E.length * 14
  | [], _ => rfl
  | e :: E, h => by
    have h1 := (h e (by simp)).1
    have h2 := AllEv.flat_length (E := E) (fun x hx => h x (by simp [hx]))
    simp only [List.flatten_cons, List.length_append, List.length_cons, h1, h2]
    omega
theorem AllEv.take {E : List (List Value)} (h : AllEv E) (i : Nat) : AllEv (E.take i) := fun e he => h e (List.mem_of_mem_take he)
theorem AllEv.drop {E : List (List Value)} (h : AllEv E) (i : Nat) : AllEv (E.drop i) := fun e he => h e (List.mem_of_mem_drop he)
theorem AllEv.ins {E : List (List Value)} (h : AllEv E) {i : Nat} {e : List Value} (he : e.length = 14 ∧ ∀ u, u ∈ e → u.oneCell' = true) : AllEv (insAt E i e) := by
  intro x hx
  unfold insAt at hx
  rcases List.mem_append.1 hx with hx | hx
  · rcases List.mem_append.1 hx with hx | hx
    · exact h x (List.mem_of_mem_take hx)
    · rw [List.mem_singleton] at hx
      subst hx
      exact he
  · exact h x (List.mem_of_mem_drop hx)
theorem AllEv.insN {ln : Nat → Nat} {ev : Nat → List Value} {E : List (List Value)} (h : AllEv E) (he : ∀ k, (ev k).length = 14 ∧ ∀ u, u ∈ ev k → u.oneCell' = true) : ∀ j, AllEv (insN ln ev E j)
  | 0 => h
  | j + 1 => (AllEv.insN h he j).ins (he j)
theorem AllEv.snoc {E : List (List Value)} (h : AllEv E) {e : List Value} (he : e.length = 14 ∧ ∀ u, u ∈ e → u.oneCell' = true) : AllEv (E ++ [e]) := by
  intro x hx
  rcases List.mem_append.1 hx with hx | hx
  · exact h x hx
  · rw [List.mem_singleton] at hx
    subst hx
    exact he
theorem AllEv.get {E : List (List Value)} (h : AllEv E) : ∀ (k j : Nat) (e : List Value), E[k]? = some e → j < 14 → E.flatten[k * 14 + j]? = e[j]? := by
  induction E with
  | nil => intro k j e hk; simp at hk
  | cons x E ih =>
    intro k j e hk hj
    have hx := (h x (by simp)).1
    cases k with
    | zero =>
      simp at hk
      subst hk
      rw [List.flatten_cons, Nat.zero_mul, Nat.zero_add, List.getElem?_append_left (by omega)]
    | succ k =>
      have hk' : E[k]? = some e := by simpa using hk
      rw [List.flatten_cons, List.getElem?_append_right (by omega), ← ih (fun y hy => h y (by simp [hy])) k j e hk' hj]
      congr 1
      omega
/-- The flat row with an event inserted. -/
theorem insC_flat {E : List (List Value)} (h : AllEv E) (i : Nat) (hi : i ≤ E.length) (e : List Value) : insC E.flatten i e = (insAt E i e).flatten := by
  unfold insC insAt
  have e1 : E.flatten = (E.take i).flatten ++ (E.drop i).flatten := by rw [← List.flatten_append, List.take_append_drop]
  have e2 : (E.take i).flatten.length = i * 14 := by rw [(h.take i).flat_length, List.length_take]; congr 1; omega
  rw [e1, take_app _ _ _ e2, drop_app _ _ _ e2, List.flatten_append, List.flatten_append]
  simp

end Go.Proofs.Ybulkehxo
