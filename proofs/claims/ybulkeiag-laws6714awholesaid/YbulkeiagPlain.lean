/-
  FOR LawS6714AWhole: the plain mathematics: runs of chunks, the full head, sorted keys.
-/
import Derived.Lib.SlKeysI
namespace Go.Proofs.Ybulkeiag

/-- A run: its first chunk and how many. -/
abbrev RunP := Int × Int

/-- 'appendChunk': the last run grows, or a new one begins. -/
def addR (rs : List RunP) (i : Int) : List RunP :=
  match rs.getLast? with
  | some (f, c) => if f + c = i then rs.dropLast ++ [(f, c + 1)] else rs ++ [(i, 1)]
  | none => rs ++ [(i, 1)]

theorem addR_nil (i : Int) : addR [] i = [(i, 1)] := rfl
theorem addR_hit {rs : List RunP} {f c i : Int} (h : f + c = i) : addR (rs ++ [(f, c)]) i = rs ++ [(f, c + 1)] := by
  simp [addR, h]
theorem addR_miss {rs : List RunP} {f c i : Int} (h : f + c ≠ i) : addR (rs ++ [(f, c)]) i = rs ++ [(f, c)] ++ [(i, 1)] := by
  simp [addR, h]
theorem snoc_cases (rs : List RunP) : rs = [] ∨ ∃ rs' f c, rs = rs' ++ [(f, c)] := by
  rcases List.eq_nil_or_concat rs with h | ⟨l, ⟨f, c⟩, h⟩
  · exact .inl h
  · exact .inr ⟨l, f, c, by simpa using h⟩
theorem addR_len (rs : List RunP) (i : Int) : (addR rs i).length ≤ rs.length + 1 := by
  rcases snoc_cases rs with rfl | ⟨rs', f, c, rfl⟩
  · simp [addR_nil]
  · by_cases h : f + c = i
    · rw [addR_hit h]; simp
    · rw [addR_miss h]; simp
theorem addR_ne (rs : List RunP) (i : Int) : addR rs i ≠ [] := by
  rcases snoc_cases rs with rfl | ⟨rs', f, c, rfl⟩
  · simp [addR_nil]
  · by_cases h : f + c = i
    · rw [addR_hit h]; simp
    · rw [addR_miss h]; simp

/-- All runs hold numbers between 0 and 256. -/
def Small (rs : List RunP) : Prop := ∀ p ∈ rs, 0 ≤ p.1 ∧ p.1 ≤ 256 ∧ 0 ≤ p.2 ∧ p.2 ≤ 256 ∧ p.1 + p.2 ≤ 256
theorem Small.add {rs : List RunP} (h : Small rs) {i : Int} (h0 : 0 ≤ i) (h1 : i < 256) : Small (addR rs i) := by
  rcases snoc_cases rs with rfl | ⟨rs', f, c, rfl⟩
  · intro p hp
    simp [addR_nil] at hp
    subst hp
    exact ⟨h0, by omega, by omega, by omega, by show i + 1 ≤ 256; omega⟩
  · have hl := h (f, c) (by simp)
    simp only at hl
    by_cases e : f + c = i
    · rw [addR_hit e]
      intro p hp
      rcases List.mem_append.1 hp with hp | hp
      · exact h p (by simp [hp])
      · simp at hp
        subst hp
        exact ⟨hl.1, hl.2.1, by show 0 ≤ c + 1; omega, by show c + 1 ≤ 256; omega, by show f + (c + 1) ≤ 256; omega⟩
    · rw [addR_miss e]
      intro p hp
      rcases List.mem_append.1 hp with hp | hp
      · exact h p hp
      · simp at hp
        subst hp
        exact ⟨h0, by omega, by omega, by omega, by show i + 1 ≤ 256; omega⟩

/-! ### the chunks of a set, in order -/
/-- Those of the first n that are in the set. -/
def chunks (pres : Nat → Bool) (n : Nat) : List Nat := (List.range n).filter pres
theorem chunks_succ (pres : Nat → Bool) (n : Nat) : chunks pres (n + 1) = if pres n then chunks pres n ++ [n] else chunks pres n := by
  unfold chunks
  rw [List.range_succ, List.filter_append]
  by_cases h : pres n
  · simp [h]
  · simp [h]
def runsTo (pres : Nat → Bool) (n : Nat) : List RunP := (chunks pres n).foldl (fun rs (i : Nat) => addR rs (i : Int)) []
theorem runsTo_zero (pres : Nat → Bool) : runsTo pres 0 = [] := rfl
theorem runsTo_yes {pres : Nat → Bool} {n : Nat} (h : pres n = true) : runsTo pres (n + 1) = addR (runsTo pres n) n := by
  unfold runsTo
  rw [chunks_succ, if_pos h, List.foldl_append]
  rfl
theorem runsTo_no {pres : Nat → Bool} {n : Nat} (h : pres n = false) : runsTo pres (n + 1) = runsTo pres n := by
  unfold runsTo
  rw [chunks_succ, h]
  rfl
theorem runsTo_small (pres : Nat → Bool) : ∀ n, n ≤ 256 → Small (runsTo pres n)
  | 0, _ => fun p hp => by simp [runsTo_zero] at hp
  | n + 1, h => by
    by_cases hp : pres n = true
    · rw [runsTo_yes hp]; exact (runsTo_small pres n (by omega)).add (by omega) (by omega)
    · rw [runsTo_no (by simpa using hp)]; exact runsTo_small pres n (by omega)
theorem runsTo_len (pres : Nat → Bool) : ∀ n, (runsTo pres n).length ≤ n
  | 0 => by simp [runsTo_zero]
  | n + 1 => by
    by_cases hp : pres n = true
    · rw [runsTo_yes hp]
      have := addR_len (runsTo pres n) n
      have := runsTo_len pres n
      omega
    · rw [runsTo_no (by simpa using hp)]
      have := runsTo_len pres n
      omega

/-! ### the full head -/
/-- p is the first chunk that is missing. -/
def IsPre (pres : Nat → Bool) (p : Nat) : Prop := (∀ i, i < p → pres i = true) ∧ pres p = false
theorem runsTo_pre {pres : Nat → Bool} : ∀ p, (∀ i, i < p → pres i = true) → runsTo pres p = if p = 0 then [] else [((0 : Int), (p : Int))]
  | 0, _ => rfl
  | p + 1, h => by
    rw [runsTo_yes (h p (by omega)), runsTo_pre p (fun i hi => h i (by omega))]
    by_cases hp : p = 0
    · subst hp
      rw [if_pos rfl, if_neg (by omega), addR_nil]
      rfl
    · rw [if_neg hp, if_neg (by omega)]
      have := addR_hit (rs := []) (f := 0) (c := (p : Int)) (i := (p : Int)) (by omega)
      simpa using this
/-- The chunks from p on, below n. -/
def later (pres : Nat → Bool) (p n : Nat) : List Nat := (chunks pres n).filter (fun i => decide (p ≤ i))
theorem chunks_split {pres : Nat → Bool} {p : Nat} : ∀ n, p ≤ n → chunks pres n = chunks pres p ++ later pres p n
  | 0, h => by
    obtain rfl : p = 0 := by omega
    rfl
  | n + 1, h => by
    by_cases hp : p = n + 1
    · subst hp
      have : later pres (n + 1) (n + 1) = [] := by
        unfold later chunks
        rw [List.filter_eq_nil_iff]
        intro a ha
        have := List.mem_range.1 (List.mem_filter.1 ha).1
        simp
        omega
      rw [this, List.append_nil]
    · have ih := chunks_split (pres := pres) (p := p) n (by omega)
      have hl : later pres p (n + 1) = if pres n then later pres p n ++ [n] else later pres p n := by
        unfold later
        rw [chunks_succ]
        by_cases hn : pres n = true
        · rw [if_pos hn, if_pos hn, List.filter_append]
          congr 1
          simp
          omega
        · rw [if_neg hn, if_neg hn]
      rw [chunks_succ, hl, ih]
      by_cases hn : pres n = true
      · rw [if_pos hn, if_pos hn, List.append_assoc]
      · rw [if_neg hn, if_neg hn]
theorem runsTo_later {pres : Nat → Bool} {p n : Nat} (h : p ≤ n) : runsTo pres n = (later pres p n).foldl (fun rs (i : Nat) => addR rs (i : Int)) (runsTo pres p) := by
  unfold runsTo
  rw [chunks_split n h, List.foldl_append]
theorem mem_later {pres : Nat → Bool} {p n i : Nat} : i ∈ later pres p n ↔ i < n ∧ pres i = true ∧ p ≤ i := by
  unfold later chunks
  rw [List.mem_filter, List.mem_filter, List.mem_range]
  simp [and_assoc]
theorem later_sorted (pres : Nat → Bool) (p n : Nat) : (later pres p n).Pairwise (· < ·) := by
  unfold later chunks
  exact ((List.pairwise_lt_range (n := n)).filter _).filter _
theorem chunks_len_split {pres : Nat → Bool} {p n : Nat} (h : p ≤ n) (hp : ∀ i, i < p → pres i = true) : (chunks pres n).length = p + (later pres p n).length := by
  rw [chunks_split n h, List.length_append]
  congr 1
  unfold chunks
  rw [List.filter_eq_self.2 (fun a ha => hp a (List.mem_range.1 ha)), List.length_range]

/-- A sorted list without repeats that holds just the later chunks IS the list of them. -/
theorem sorted_later {pres : Nat → Bool} {p n : Nat} {ss : List Int} (hnd : ss.Nodup) (hm : ∀ x, x ∈ ss ↔ ∃ i, i ∈ later pres p n ∧ x = (i : Int)) :
    ss.mergeSort (fun x y => decide (x ≤ y)) = (later pres p n).map (fun (i : Nat) => (i : Int)) := by
  have tr : ∀ a b c : Int, decide (a ≤ b) = true → decide (b ≤ c) = true → decide (a ≤ c) = true := fun a b c h1 h2 => by simp only [decide_eq_true_eq] at *; omega
  have to : ∀ a b : Int, (decide (a ≤ b) || decide (b ≤ a)) = true := fun a b => by simp only [Bool.or_eq_true, decide_eq_true_eq]; omega
  have hl := later_sorted pres p n
  have hl2 : ((later pres p n).map (fun (i : Nat) => (i : Int))).Pairwise (fun a b => decide (a ≤ b) = true) := by
    rw [List.pairwise_map]
    exact List.pairwise_iff_getElem.2 (fun i j hi hj hij => by have := List.pairwise_iff_getElem.1 hl i j hi hj hij; simp only [decide_eq_true_eq]; omega)
  have hnd2 : ((later pres p n).map (fun (i : Nat) => (i : Int))).Nodup := by
    unfold List.Nodup
    rw [List.pairwise_map]
    exact List.pairwise_iff_getElem.2 (fun i j hi hj hij => by have := List.pairwise_iff_getElem.1 hl i j hi hj hij; omega)
  have hperm : ss.Perm ((later pres p n).map (fun (i : Nat) => (i : Int))) := by
    refine (List.perm_ext_iff_of_nodup hnd hnd2).2 (fun x => ?_)
    rw [hm x, List.mem_map]
    exact ⟨fun ⟨i, h1, h2⟩ => ⟨i, h1, h2.symm⟩, fun ⟨i, h1, h2⟩ => ⟨i, h1, h2.symm⟩⟩
  exact List.Perm.eq_of_pairwise (le := fun a b => decide (a ≤ b) = true) (fun a b _ _ h1 h2 => by simp only [decide_eq_true_eq] at h1 h2; omega) (List.pairwise_mergeSort tr to ss) hl2 ((List.mergeSort_perm ss _).trans hperm)

end Go.Proofs.Ybulkeiag
