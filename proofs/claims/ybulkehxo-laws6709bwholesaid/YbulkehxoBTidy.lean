/-
  FOR LawS6709BWhole: (*Stack).Put, (*Stack).Take, (*conflicts).tidy.
-/
import Derived.Test.YbulkehxoBDel
namespace Go.Proofs.Ybulkehxo
open Go.RowKit

/-! ### all but these blocks -/
structure But (S : List Nat) (w w' : World) : Prop where
  os : w'.os = w.os
  tape : w'.tape = w.tape
  output : w'.output = w.output
  size : w.heap.size ≤ w'.heap.size
  block : ∀ k, k < w.heap.size → k ∉ S → w'.heap[k]? = w.heap[k]?

theorem But.refl (S : List Nat) (w : World) : But S w w := ⟨rfl, rfl, rfl, Nat.le_refl _, fun _ _ _ => rfl⟩
theorem But.trans {S : List Nat} {a b c : World} (h : But S a b) (g : But S b c) : But S a c :=
  ⟨g.os.trans h.os, g.tape.trans h.tape, g.output.trans h.output, Nat.le_trans h.size g.size, fun k hk hn => (g.block k (Nat.lt_of_lt_of_le hk h.size) hn).trans (h.block k hk hn)⟩
theorem But.mono {S S' : List Nat} {a b : World} (h : But S a b) (hs : ∀ k, k ∈ S → k ∈ S') : But S' a b := ⟨h.os, h.tape, h.output, h.size, fun k hk hn => h.block k hk (fun m => hn (hs k m))⟩
theorem But.grown {S : List Nat} {a b : World} {row : Option Nat} (h : a.grownBy b row) (hr : ∀ k, row = some k → k ∈ S) : But S a b :=
  ⟨h.os, h.tape, h.output, h.size, fun k hk hn => h.block k hk (fun e => hn (hr k e.symm))⟩
theorem But.setCell {S : List Nat} {a b : World} (h : But S a b) {p : Addr} (hp : p.block ∈ S) (v : Value) : But S a (b.setCell p v) :=
  h.trans ⟨rfl, rfl, rfl, by simp, fun k _ hn => Below.heap_setCell _ _ _ _ (fun e => hn (e ▸ hp))⟩
theorem But.alloc {S : List Nat} {a b : World} (h : But S a b) (o : Obj) : But S a (b.alloc o) :=
  h.trans ⟨rfl, rfl, rfl, by simp, fun k hk _ => Below.heap_alloc _ _ _ hk⟩
theorem But.drewN {S : List Nat} {a b : World} (h : But S a b) (q : Nat) : But S a (b.drewN q) := h.trans ⟨rfl, rfl, rfl, Nat.le_refl _, fun _ _ _ => rfl⟩
theorem But.below {S : List Nat} {a b : World} {B : Nat} (h : But S a b) (hB : B ≤ a.heap.size) (hs : ∀ k, k ∈ S → B ≤ k) : Below B a b :=
  ⟨h.os, h.tape, h.output, h.size, fun k hk => h.block k (by omega) (fun m => by have := hs k m; omega)⟩

/-! ### the two structs -/
def WB (w : World) (b : Nat) (wf rep : Int) (waiting : Bool) (v : Value) (pending : Bool) : Prop :=
  w.heap[b]? = some (.cells #[.int .i64 wf, .int .u64 rep, .bool waiting, v, .bool pending] 29 (0, 0))
def CB (w : World) (b bm : Nat) (v : Value) : Prop := w.heap[b]? = some (.cells #[.int .i64 5, .map (some bm), v] 35 (0, 0))

section
variable {w : World} {b : Nat} {wf rep : Int} {waiting : Bool} {v : Value} {pending : Bool}
theorem WB.c0 (h : WB w b wf rep waiting v pending) : w.cell? ⟨b, 0, none⟩ = some (.int .i64 wf) := by unfold WB at h; simp [World.cell?, h]
theorem WB.c1 (h : WB w b wf rep waiting v pending) : w.cell? ⟨b, 1, none⟩ = some (.int .u64 rep) := by unfold WB at h; simp [World.cell?, h]
theorem WB.c2 (h : WB w b wf rep waiting v pending) : w.cell? ⟨b, 2, none⟩ = some (.bool waiting) := by unfold WB at h; simp [World.cell?, h]
theorem WB.c3 (h : WB w b wf rep waiting v pending) : w.cell? ⟨b, 3, none⟩ = some v := by unfold WB at h; simp [World.cell?, h]
theorem WB.c4 (h : WB w b wf rep waiting v pending) : w.cell? ⟨b, 4, none⟩ = some (.bool pending) := by unfold WB at h; simp [World.cell?, h]
theorem WB.fr (h : WB w b wf rep waiting v pending) (j : Nat) : w.frozen? ⟨b, j, none⟩ = false := by unfold WB at h; simp [World.frozen?, h]
theorem WB.lt (h : WB w b wf rep waiting v pending) : b < w.heap.size := lt_of_block h
theorem WB.s0 (h : WB w b wf rep waiting v pending) (x : Int) : WB (w.setCell ⟨b, 0, none⟩ (.int .i64 x)) b x rep waiting v pending := by
  unfold WB at *; rw [heap_setCell_same w b 0 _ _ _ h]; rfl
theorem WB.s2 (h : WB w b wf rep waiting v pending) (x : Bool) : WB (w.setCell ⟨b, 2, none⟩ (.bool x)) b wf rep x v pending := by
  unfold WB at *; rw [heap_setCell_same w b 2 _ _ _ h]; rfl
theorem WB.s3 (h : WB w b wf rep waiting v pending) (x : Value) : WB (w.setCell ⟨b, 3, none⟩ x) b wf rep waiting x pending := by
  unfold WB at *; rw [heap_setCell_same w b 3 _ _ _ h]; rfl
theorem WB.s4 (h : WB w b wf rep waiting v pending) (x : Bool) : WB (w.setCell ⟨b, 4, none⟩ (.bool x)) b wf rep waiting v x := by
  unfold WB at *; rw [heap_setCell_same w b 4 _ _ _ h]; rfl
theorem WB.kept {w' : World} (h : WB w b wf rep waiting v pending) (e : w'.heap[b]? = w.heap[b]?) : WB w' b wf rep waiting v pending := by unfold WB at *; rw [e]; exact h
theorem WB.other {p : Addr} (h : WB w b wf rep waiting v pending) (hp : b ≠ p.block) (x : Value) : WB (w.setCell p x) b wf rep waiting v pending := h.kept (Below.heap_setCell _ _ _ _ hp)
end
section
variable {w : World} {b bm : Nat} {v : Value}
theorem CB.c0 (h : CB w b bm v) : w.cell? ⟨b, 0, none⟩ = some (.int .i64 5) := by unfold CB at h; simp [World.cell?, h]
theorem CB.c1 (h : CB w b bm v) : w.cell? ⟨b, 1, none⟩ = some (.map (some bm)) := by unfold CB at h; simp [World.cell?, h]
theorem CB.c2 (h : CB w b bm v) : w.cell? ⟨b, 2, none⟩ = some v := by unfold CB at h; simp [World.cell?, h]
theorem CB.fr (h : CB w b bm v) (j : Nat) : w.frozen? ⟨b, j, none⟩ = false := by unfold CB at h; simp [World.frozen?, h]
theorem CB.lt (h : CB w b bm v) : b < w.heap.size := lt_of_block h
theorem CB.s2 (h : CB w b bm v) (x : Value) : CB (w.setCell ⟨b, 2, none⟩ x) b bm x := by
  unfold CB at *; rw [heap_setCell_same w b 2 _ _ _ h]; rfl
theorem CB.kept {w' : World} (h : CB w b bm v) (e : w'.heap[b]? = w.heap[b]?) : CB w' b bm v := by unfold CB at *; rw [e]; exact h
theorem CB.other {p : Addr} (h : CB w b bm v) (hp : b ≠ p.block) (x : Value) : CB (w.setCell p x) b bm v := h.kept (Below.heap_setCell _ _ _ _ hp)
end

set_option maxHeartbeats 400000 in
theorem put_nil (bc bm g : Nat) (w : World) (hc : CB w bc bm (.slice none 0 0)) :
    Calls Yba.prog 27 #[.pointer (some ⟨bc, 2, none⟩), .pointer (some ⟨g, 0, none⟩)] w fun e w' => e = .returned (.tuple #[]) ∧
      ∃ h cap, CB w' bc bm (.slice (some ⟨h, 0, none⟩) 1 cap) ∧ w'.ownsRow w.heap.size 27 1 (.slice (some ⟨h, 0, none⟩) 1 cap) 1 [.pointer (some ⟨g, 0, none⟩)] ∧ But [bc] w w' := by
  obtain ⟨i0, hi, hz0, hz1, hz2⟩ := info_parts info27
  have c2 := hc.c2
  have hlt := hc.lt
  go_enter Yba.func27, Yba.ntmps27
  go_wp2_with (at_builtin; refine wpList_append_own _ rfl _ _ 31 rfl w.heap.size 27 i0 (.pointer none) 1 8 Yba.underlying31 hi hz0 hz1 hz2 rfl (by decide) _ 0 [] rfl (World.ownsRow_nil _ _ _ _) ⟨w.heap.size, 0, none⟩ 1 1 [.pointer (some ⟨g, 0, none⟩)] rfl rfl (cell_one_new _ _ _) (by intro u hu; simp at hu; subst hu; rfl) (by unfold maxLen; omega) (by omega) (by simp) ?_)
  intro v' w1 ho hg _
  obtain ⟨h, cap, rfl⟩ : ∃ h cap, v' = .slice (some ⟨h, 0, none⟩) 1 cap := by
    rcases ho.2 with ⟨_, hn⟩ | ⟨g', cap, cur, rfl, _⟩
    · omega
    · exact ⟨g', cap, rfl⟩
  have hh := (ho.lt h rfl).1
  have hb1 : But [bc] w w1 := ((But.refl [bc] w).alloc (.cells #[.pointer (some ⟨g, 0, none⟩)] 27)).trans (But.grown hg (by simp [Value.ownBlock]))
  have hc1 : CB w1 bc bm (.slice none 0 0) := by
    refine hc.kept ?_
    rw [hg.block bc (by simp; omega) (by simp [Value.ownBlock])]
    exact Below.heap_alloc _ _ _ hlt
  have k2 := hc1.c2
  have f2 := hc1.fr 2
  go_wp2
  go_returns
  refine ⟨rfl, h, cap, hc1.s2 _, ?_, hb1.setCell (by simp) _⟩
  have := ownsRow_setCell_other (a := ⟨bc, 2, none⟩) ho (by simp [Value.ownBlock]; omega) (.slice (some ⟨h, 0, none⟩) 1 cap)
  simpa using this

set_option maxHeartbeats 400000 in
theorem take_nil (bc bm : Nat) (w : World) (hc : CB w bc bm (.slice none 0 0)) :
    Calls Yba.prog 10 #[.pointer (some ⟨bc, 2, none⟩)] w fun e w' => e = .returned (.tuple #[.pointer none, .bool false]) ∧ w' = w := by
  have c2 := hc.c2
  go_enter Yba.func10, Yba.ntmps10
  go_wp2
  go_returns
  exact ⟨rfl, rfl⟩

set_option maxHeartbeats 400000 in
theorem take_one (bc bm h cap g base : Nat) (w : World) (hc : CB w bc bm (.slice (some ⟨h, 0, none⟩) 1 cap)) (ho : w.ownsRow base 27 1 (.slice (some ⟨h, 0, none⟩) 1 cap) 1 [.pointer (some ⟨g, 0, none⟩)]) (hne : h ≠ bc) (h1 : 1 ≤ cap) :
    Calls Yba.prog 10 #[.pointer (some ⟨bc, 2, none⟩)] w fun e w' => e = .returned (.tuple #[.pointer (some ⟨g, 0, none⟩), .bool true]) ∧ But [bc, h] w w' ∧ ∃ v, CB w' bc bm v := by
  have c2 := hc.c2
  have f2 := hc.fr 2
  have ch := ho.cellAt 0 (by omega)
  simp at ch
  have fh := ho.frozenAt 0
  have hc1 := hc.other (p := ⟨h, 0, none⟩) (by simpa using hne.symm) (.pointer none)
  have hb1 : But [bc, h] w (w.setCell ⟨h, 0, none⟩ (.pointer none)) := (But.refl _ w).setCell (by simp) _
  go_enter Yba.func10, Yba.ntmps10
  go_wp2
  go_returns
  exact ⟨rfl, hb1.setCell (by simp) _, _, hc1.s2 _⟩

set_option maxHeartbeats 400000 in
theorem tidy_waits (bc bh : Nat) (t wf rep : Int) (v : Value) (pending : Bool) (w : World) (hh : WB w bh wf rep true v pending) :
    Calls Yba.prog 17 #[.pointer (some ⟨bc, 0, none⟩), .int .i64 t, .pointer (some ⟨bh, 0, none⟩)] w fun e w' => e = .returned (.tuple #[]) ∧ w' = w := by
  have c2 := hh.c2
  go_enter Yba.func17, Yba.ntmps17
  go_wp2
  go_returns
  exact ⟨rfl, rfl⟩

set_option maxHeartbeats 400000 in
theorem tidy_waiters (bc bh : Nat) (t wf rep : Int) (a : Option Addr) (n cap : Nat) (pending : Bool) (w : World) (hh : WB w bh wf rep false (.slice a n cap) pending) (hn : 0 < n) :
    Calls Yba.prog 17 #[.pointer (some ⟨bc, 0, none⟩), .int .i64 t, .pointer (some ⟨bh, 0, none⟩)] w fun e w' => e = .returned (.tuple #[]) ∧ w' = w := by
  have c2 := hh.c2
  have c3 := hh.c3
  go_enter Yba.func17, Yba.ntmps17
  go_wp2
  go_returns
  exact ⟨rfl, rfl⟩

set_option maxHeartbeats 400000 in
theorem tidy_go (bc bm bh n : Nat) (f : Int → Option Nat) (t wf rep : Int) (a : Option Addr) (cap : Nat) (pending : Bool) (w : World) (hh : WB w bh wf rep false (.slice a 0 cap) pending) (hc : CB w bc bm (.slice none 0 0)) (hk : KMap w bm f n) (hf : f t = some bh) (ht : (Lit.int .i64 t).wf = true) :
    Calls Yba.prog 17 #[.pointer (some ⟨bc, 0, none⟩), .int .i64 t, .pointer (some ⟨bh, 0, none⟩)] w fun e w' => e = .returned (.tuple #[]) ∧
      KMap w' bm (upd f t none) (n - 1) ∧ WB w' bh wf rep false (.slice a 0 cap) false ∧
      (∃ h cap', CB w' bc bm (.slice (some ⟨h, 0, none⟩) 1 cap') ∧ w'.ownsRow w.heap.size 27 1 (.slice (some ⟨h, 0, none⟩) 1 cap') 1 [.pointer (some ⟨bh, 0, none⟩)]) ∧ But [bm, bh, bc] w w' := by
  have c2 := hh.c2
  have c3 := hh.c3
  have d1 := hc.c1
  have hbl := hh.lt
  have hcl := hc.lt
  have hml := hk.lt
  have nbm : bm ≠ bh := by
    intro e
    subst e
    obtain ⟨D, ⟨es, clock, h1, _⟩, _⟩ := hk
    unfold WB at hh
    rw [h1] at hh
    cases hh
  have nbc : bm ≠ bc := by
    intro e
    subst e
    obtain ⟨D, ⟨es, clock, h1, _⟩, _⟩ := hk
    unfold CB at hc
    rw [h1] at hc
    cases hc
  have nhc : bh ≠ bc := by
    intro e
    subst e
    unfold WB at hh
    unfold CB at hc
    rw [hh] at hc
    simp at hc
  go_enter Yba.func17, Yba.ntmps17
  go_wp2_with (at_delete; refine wpList_delete_k _ rfl _ _ rfl bm n f rfl hk t ht bh hf rfl ?_)
  intro w1 hk1 hg1
  have hh1 := hh.kept (hg1.block bh hbl (by simpa using nbm.symm))
  have hc1 := hc.kept (hg1.block bc hcl (by simpa using nbc.symm))
  have f4 := hh1.fr 4
  have k4 := hh1.c4
  have k2 := hc1.c2
  go_wp2_with fail
  refine (put_nil bc bm bh _ (hc1.other (by simpa using nhc.symm) _)).mono ?_
  rintro e w2 ⟨rfl, h, cap', hc2, ho2, hb2⟩
  go_wp2
  go_returns
  have hs1 := hg1.size
  have hk2 : KMap (w1.setCell ⟨bh, 4, none⟩ (.bool false)) bm _ _ := hk1.kept (Below.heap_setCell _ _ _ _ (by simpa using nbm))
  refine ⟨rfl, hk2.kept (hb2.block bm hk2.lt (by simpa using nbc)), (hh1.s4 false).kept (hb2.block bh (by simp; omega) (by simpa using nhc)), ⟨h, cap', hc2, ?_⟩, ?_⟩
  · obtain ⟨p1, p2⟩ := ho2
    refine ⟨p1, ?_⟩
    rcases p2 with p2 | ⟨g, cp, cur, q1, q2, q3⟩
    · exact .inl p2
    · simp at q2
      exact .inr ⟨g, cp, cur, q1, by omega, q3⟩
  · exact (But.grown hg1 (by simp)).trans (((But.refl _ _).setCell (by simp) _).trans (hb2.mono (by simp)))

end Go.Proofs.Ybulkehxo
