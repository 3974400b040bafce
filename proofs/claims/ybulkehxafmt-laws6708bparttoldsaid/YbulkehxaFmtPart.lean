/-
  THE WALKS of '(*traceLine).part', 'fmt.Appendf' and '(*traceLine).unparsed'.
-/
import Derived.Test.YbulkehxaFmtFacts
import Derived.Handy
namespace Go.Proofs.YbulkehxaFmt
open Go.Extern.Stop Go.Stop Go.Extern Go.RowKit

def sepOf (parts : Int) : ByteArray := if parts = 0 then ⟨#[58, 32]⟩ else ⟨#[32, 124, 32]⟩

set_option maxHeartbeats 400000 in
theorem part_zero (bl base n : Nat) (tv v : Value) (xs : List Value) (sz cov : Int) (w : World) (hl : IsLine w bl tv v sz cov 0) (ho : w.ownsRow base 5 1 v n xs) (hb : base ≤ w.heap.size) (hn : n ≤ 1000000000) :
    Calls Ybaf.prog 5 #[.pointer (some ⟨bl, 0, none⟩)] w fun e w' => e = .returned (.tuple #[]) ∧
      ∃ v', IsLine w' bl tv v' sz cov 1 ∧ w'.ownsRow base 5 1 v' (n + 2) (xs ++ Lib.strCells ⟨#[58, 32]⟩) ∧ Stays w w' base bl := by
  obtain ⟨i0, hi, hz0, hz1, hz2⟩ := info_parts info5
  have c1 := hl.c1
  have c4 := hl.c4
  have hne := hl.ne ho
  go_enter Ybaf.func5, Ybaf.ntmps5
  go_wp2_with (at_builtin; refine Lib.wpList_append_own_string _ rfl _ _ 22 9 rfl base 5 i0 Ybaf.underlying22 Ybaf.underlying9 hi hz0 hz1 hz2 v n xs rfl ho ⟨#[58, 32]⟩ rfl (by unfold maxLen; simp [ByteArray.size]; omega) (by simp [ByteArray.size]; omega) hb ?_)
  intro v' w1 ho' hg _
  obtain ⟨g, cap, rfl⟩ := owns_shape ho' (by simp)
  have hl1 := hl.grown hg hne
  have k1 := hl1.c1
  have k4 := hl1.c4
  have f1 := hl1.fr 1
  have f4 := hl1.fr 4
  have hne' := hl1.ne ho'
  go_wp2
  go_end0
  refine ⟨rfl, _, (hl1.set1 _).set4 _, ownsRow_setCell_other (ownsRow_setCell_other ho' hne' _) hne' _, ((Stays.of_grown ho hb hg).setCell 1 _).setCell 4 _⟩

set_option maxHeartbeats 400000 in
theorem part_more (bl base n : Nat) (tv v : Value) (xs : List Value) (sz cov parts : Int) (w : World) (hl : IsLine w bl tv v sz cov parts) (h0 : ¬ parts = 0) (ho : w.ownsRow base 5 1 v n xs) (hb : base ≤ w.heap.size) (hn : n ≤ 1000000000) :
    Calls Ybaf.prog 5 #[.pointer (some ⟨bl, 0, none⟩)] w fun e w' => e = .returned (.tuple #[]) ∧
      ∃ v', IsLine w' bl tv v' sz cov (wrap64 (parts + 1)) ∧ w'.ownsRow base 5 1 v' (n + 3) (xs ++ Lib.strCells ⟨#[32, 124, 32]⟩) ∧ Stays w w' base bl := by
  obtain ⟨i0, hi, hz0, hz1, hz2⟩ := info_parts info5
  have c1 := hl.c1
  have c4 := hl.c4
  have hne := hl.ne ho
  go_enter Ybaf.func5, Ybaf.ntmps5
  go_wp2_with (at_builtin; refine Lib.wpList_append_own_string _ rfl _ _ 22 9 rfl base 5 i0 Ybaf.underlying22 Ybaf.underlying9 hi hz0 hz1 hz2 v n xs rfl ho ⟨#[32, 124, 32]⟩ rfl (by unfold maxLen; simp [ByteArray.size]; omega) (by simp [ByteArray.size]; omega) hb ?_)
  intro v' w1 ho' hg _
  obtain ⟨g, cap, rfl⟩ := owns_shape ho' (by simp)
  have hl1 := hl.grown hg hne
  have k1 := hl1.c1
  have k4 := hl1.c4
  have f1 := hl1.fr 1
  have f4 := hl1.fr 4
  have hne' := hl1.ne ho'
  go_wp2
  go_end0
  refine ⟨rfl, _, (hl1.set1 _).set4 _, ownsRow_setCell_other (ownsRow_setCell_other ho' hne' _) hne' _, ((Stays.of_grown ho hb hg).setCell 1 _).setCell 4 _⟩

attribute [local go_sem] call7 guard fmt0 fmt0r op3_100 strict3

theorem grownBy_drew {w w' : World} {row : Option Nat} (h : w.drew.grownBy w' row) : w.grownBy w' row := ⟨h.os, h.tape, h.output, h.size, h.block⟩
theorem ownsRow_drew {w : World} {base n : Nat} {v : Value} {xs : List Value} (h : w.ownsRow base 5 1 v n xs) : w.drew.ownsRow base 5 1 v n xs := h

set_option maxHeartbeats 400000 in
theorem appendf_any (F : Interp) (base k g : Nat) (n : Int) (v : Value) (xs : List Value) (w : World) (hF : F.answers w.tape) (ho : w.ownsRow base 5 1 v k xs) (hb : base ≤ w.heap.size) (h0 : 0 < k) (hk : k ≤ 2000000000)
    (hg : w.cell? ⟨g, 0, none⟩ = some (.iface 3 (.int .i64 n))) (ht : (FmtStop.textOf (F "fmt.Sprintf" (reading n) 0)).size ≤ 1000) :
    Calls Ybaf.prog 6 #[v, .string ⟨#[37, 100, 32, 98, 121, 116, 101, 115, 32, 116, 104, 97, 116, 32, 100, 111, 32, 110, 111, 116, 32, 112, 97, 114, 115, 101, 32, 97, 115, 32, 97, 32, 114, 101, 99, 111, 114, 100, 44, 32, 100, 114, 111, 112, 112, 101, 100]⟩, .slice (some ⟨g, 0, none⟩) 1 1] w fun e w' =>
      ∃ v', e = .returned v' ∧ w'.ownsRow base 5 1 v' (k + (FmtStop.textOf (F "fmt.Sprintf" (reading n) 0)).size) (xs ++ Lib.strCells (FmtStop.textOf (F "fmt.Sprintf" (reading n) 0))) ∧ w.grownBy w' v.ownBlock := by
  obtain ⟨i0, hi, hz0, hz1, hz2⟩ := info_parts info5
  have hF' := answers_open hF
  go_enter Ybaf.func6, Ybaf.ntmps6
  go_wp2_with (first | (at_builtin; refine Lib.wpList_append_own_string _ rfl _ _ 22 9 rfl base 5 i0 Ybaf.underlying22 Ybaf.underlying9 hi hz0 hz1 hz2 v k xs rfl (ownsRow_drew ho) (FmtStop.textOf (F "fmt.Sprintf" (reading n) 0)) rfl (by unfold maxLen; omega) (by omega) hb ?_) | go_in)
  intro v' w1 ho1 hg1 _
  obtain ⟨g', cap, rfl⟩ := owns_shape ho1 (by omega)
  go_wp2
  go_ret
  exact ⟨_, rfl, ho1, grownBy_drew hg1⟩

theorem IsLine.alloc {w : World} {bl : Nat} {tv v : Value} {sz cov parts : Int} (h : IsLine w bl tv v sz cov parts) (o : Obj) : IsLine (w.alloc o) bl tv v sz cov parts := by
  have hl := h.lt
  unfold IsLine at *
  rw [Below.heap_alloc _ _ _ hl]
  exact h
set_option maxHeartbeats 400000 in
theorem unparsed_nil (n : Int) (w : World) : Calls Ybaf.prog 4 #[.pointer none, .int .i64 n] w fun e w' => e = .returned (.tuple #[]) ∧ w' = w := by
  go_enter Ybaf.func4, Ybaf.ntmps4
  go_wp2
  go_returns
  exact ⟨rfl, rfl⟩

/-- The separator that 'part' lays. -/
def sep (parts : Int) : ByteArray := if parts = 0 then ⟨#[58, 32]⟩ else ⟨#[32, 124, 32]⟩

theorem sep_le (parts : Int) : 2 ≤ (sep parts).size ∧ (sep parts).size ≤ 3 := by
  unfold sep; split <;> simp [ByteArray.size]

theorem part_any (bl base n : Nat) (tv v : Value) (xs : List Value) (sz cov parts : Int) (w : World) (hl : IsLine w bl tv v sz cov parts) (ho : w.ownsRow base 5 1 v n xs) (hb : base ≤ w.heap.size) (hn : n ≤ 1000000000) :
    Calls Ybaf.prog 5 #[.pointer (some ⟨bl, 0, none⟩)] w fun e w' => e = .returned (.tuple #[]) ∧
      ∃ v', IsLine w' bl tv v' sz cov (wrap64 (parts + 1)) ∧ w'.ownsRow base 5 1 v' (n + (sep parts).size) (xs ++ Lib.strCells (sep parts)) ∧ Stays w w' base bl := by
  by_cases h : parts = 0
  · subst h
    have e : sep 0 = ⟨#[58, 32]⟩ := rfl
    have e2 : wrap64 (0 + 1) = 1 := by decide +kernel
    rw [e, e2]
    exact part_zero bl base n tv v xs sz cov w hl ho hb hn
  · have e : sep parts = ⟨#[32, 124, 32]⟩ := if_neg h
    rw [e]
    exact part_more bl base n tv v xs sz cov parts w hl h ho hb hn

set_option maxHeartbeats 400000 in
theorem unparsed_any (F : Interp) (bl base k : Nat) (n : Int) (tv v : Value) (xs : List Value) (sz cov parts : Int) (w : World) (hF : F.answers w.tape) (hl : IsLine w bl tv v sz cov parts) (ho : w.ownsRow base 5 1 v k xs) (hb : base ≤ w.heap.size) (hk : k ≤ 1000000000)
    (ht : (FmtStop.textOf (F "fmt.Sprintf" (reading n) 0)).size ≤ 1000) :
    Calls Ybaf.prog 4 #[.pointer (some ⟨bl, 0, none⟩), .int .i64 n] w fun e w' => e = .returned (.tuple #[]) ∧
      ∃ v', IsLine w' bl tv v' sz (wrap64 (cov + n)) (wrap64 (parts + 1)) ∧ w'.ownsRow base 5 1 v' (k + (sep parts).size + (FmtStop.textOf (F "fmt.Sprintf" (reading n) 0)).size) (xs ++ Lib.strCells (sep parts) ++ Lib.strCells (FmtStop.textOf (F "fmt.Sprintf" (reading n) 0))) ∧ Stays w w' base bl := by
  have hs := sep_le parts
  go_enter Ybaf.func4, Ybaf.ntmps4
  go_wp2_with fail
  refine (part_any bl base k tv v xs sz cov parts w hl ho hb hk).mono ?_
  rintro e w1 ⟨rfl, v1, hl1, ho1, hst1⟩
  have c1 := hl1.c1
  have hF1 : F.answers w1.tape := by rw [hst1.tape]; exact hF
  have hsz := hst1.size
  obtain ⟨g1, cap1, rfl⟩ := owns_shape ho1 (by omega)
  go_wp2_with fail
  refine (appendf_any F base _ w1.heap.size n _ _ _ (by exact hF1) (ho1.alloc _) (by simp; omega) (by omega) (by omega) (by simp) ht).mono ?_
  rintro e w2 ⟨v2, rfl, ho2, hg2⟩
  have hl2 := (hl1.alloc (.cells #[.iface 3 (.int .i64 n)] 20)).grown hg2 ((hl1.alloc (.cells #[.iface 3 (.int .i64 n)] 20)).ne (ho1.alloc (.cells #[.iface 3 (.int .i64 n)] 20)))
  have hst2 := (hst1.alloc hb (.cells #[.iface 3 (.int .i64 n)] 20)).trans (Stays.of_grown (ho1.alloc (.cells #[.iface 3 (.int .i64 n)] 20)) (by simp; omega) hg2)
  obtain ⟨g2, cap2, rfl⟩ := owns_shape ho2 (by omega)
  have k1 := hl2.c1
  have k3 := hl2.c3
  have f1 := hl2.fr 1
  have f3 := hl2.fr 3
  have hne := hl2.ne ho2
  go_wp2
  go_returns
  exact ⟨rfl, _, (hl2.set1 _).set3 _, ownsRow_setCell_other (ownsRow_setCell_other ho2 hne _) hne _, (hst2.setCell 1 _).setCell 3 _⟩

end Go.Proofs.YbulkehxaFmt
