/-
  FOR LawS6709BWhole: (*conflicts).unwait.
-/
import Derived.Test.YbulkehxoBTidy
namespace Go.Proofs.Ybulkehxo
open Go.RowKit

/-- What 'tidy' leaves: the entry let go of, or all as it was. -/
structure Tid (gone : Bool) (w' : World) (top bc bm bh n : Nat) (f : Int → Option Nat) (bi wf rep : Int) (hw : Bool) (v : Value) (pend : Bool) : Prop where
  yes : gone = true → KMap w' bm (upd f bi none) (n - 1) ∧ WB w' bh wf rep hw v false ∧ ∃ h cap, CB w' bc bm (.slice (some ⟨h, 0, none⟩) 1 cap) ∧ w'.ownsRow top 27 1 (.slice (some ⟨h, 0, none⟩) 1 cap) 1 [.pointer (some ⟨bh, 0, none⟩)]
  no : gone = false → KMap w' bm f n ∧ WB w' bh wf rep hw v pend ∧ CB w' bc bm (.slice none 0 0)

theorem tidy_any (bc bm bh n : Nat) (f : Int → Option Nat) (t wf rep : Int) (hw : Bool) (a : Option Addr) (len cap : Nat) (pend gone : Bool) (w : World) (hg : gone = (!hw && len == 0)) (hh : WB w bh wf rep hw (.slice a len cap) pend) (hc : CB w bc bm (.slice none 0 0)) (hk : KMap w bm f n) (hf : f t = some bh) (ht : (Lit.int .i64 t).wf = true) :
    Calls Yba.prog 17 #[.pointer (some ⟨bc, 0, none⟩), .int .i64 t, .pointer (some ⟨bh, 0, none⟩)] w fun e w' => e = .returned (.tuple #[]) ∧
      Tid gone w' w.heap.size bc bm bh n f t wf rep hw (.slice a len cap) pend ∧ But [bm, bh, bc] w w' := by
  cases hw with
  | true =>
    refine (tidy_waits bc bh t wf rep _ pend w hh).mono ?_
    rintro e w' ⟨rfl, rfl⟩
    subst hg
    exact ⟨rfl, ⟨fun h => by simp at h, fun _ => ⟨hk, hh, hc⟩⟩, But.refl _ _⟩
  | false =>
    by_cases hl : len = 0
    · subst hl
      refine (tidy_go bc bm bh n f t wf rep a cap pend w hh hc hk hf ht).mono ?_
      rintro e w' ⟨rfl, h1, h2, h3, h4⟩
      subst hg
      exact ⟨rfl, ⟨fun _ => ⟨h1, h2, h3⟩, fun h => by simp at h⟩, h4⟩
    · refine (tidy_waiters bc bh t wf rep a len cap pend w hh (by omega)).mono ?_
      rintro e w' ⟨rfl, rfl⟩
      subst hg
      exact ⟨rfl, ⟨fun h => by simp [hl] at h, fun _ => ⟨hk, hh, hc⟩⟩, But.refl _ _⟩

/-- Blocks of different make are different blocks. -/
theorem ne_wc {w : World} {b c bm : Nat} {wf rep : Int} {x : Bool} {v u : Value} {p : Bool} (h : WB w b wf rep x v p) (k : CB w c bm u) : b ≠ c := by
  rintro rfl; unfold WB at h; unfold CB at k; rw [h] at k; simp at k
theorem ne_wm {w : World} {b bm n : Nat} {f : Int → Option Nat} {wf rep : Int} {x : Bool} {v : Value} {p : Bool} (h : WB w b wf rep x v p) (k : KMap w bm f n) : b ≠ bm := by
  rintro rfl; obtain ⟨D, ⟨es, clock, h1, _⟩, _⟩ := k; unfold WB at h; rw [h1] at h; cases h
theorem ne_cm {w : World} {c bm bm' n : Nat} {f : Int → Option Nat} {u : Value} (h : CB w c bm' u) (k : KMap w bm f n) : c ≠ bm := by
  rintro rfl; obtain ⟨D, ⟨es, clock, h1, _⟩, _⟩ := k; unfold CB at h; rw [h1] at h; cases h
theorem IRow.block {w : World} {base g n cap : Nat} {ns : List Int} (h : IRow w base (.slice (some ⟨g, 0, none⟩) n cap) ns) : ∃ cur, w.heap[g]? = some (.cells cur 24 (0, 0)) := by
  rcases h.2 with ⟨h', _⟩ | ⟨g', cap', cur, h', _, h2, _⟩
  · simp at h'
  · simp only [Value.slice.injEq, Option.some.injEq, Addr.mk.injEq, and_true] at h'
    obtain ⟨rfl, _⟩ := h'
    exact ⟨cur, h2⟩
theorem ne_rw {w : World} {base g n cap b : Nat} {ns : List Int} {wf rep : Int} {x : Bool} {v : Value} {p : Bool} (h : IRow w base (.slice (some ⟨g, 0, none⟩) n cap) ns) (k : WB w b wf rep x v p) : g ≠ b := by
  rintro rfl; obtain ⟨cur, hc⟩ := h.block; unfold WB at k; rw [hc] at k; simp at k
theorem ne_rc {w : World} {base g n cap c bm : Nat} {ns : List Int} {u : Value} (h : IRow w base (.slice (some ⟨g, 0, none⟩) n cap) ns) (k : CB w c bm u) : g ≠ c := by
  rintro rfl; obtain ⟨cur, hc⟩ := h.block; unfold CB at k; rw [hc] at k; simp at k
theorem ne_rm {w : World} {base g n cap bm m : Nat} {ns : List Int} {f : Int → Option Nat} (h : IRow w base (.slice (some ⟨g, 0, none⟩) n cap) ns) (k : KMap w bm f m) : g ≠ bm := by
  rintro rfl; obtain ⟨cur, hc⟩ := h.block; obtain ⟨D, ⟨es, clock, h1, _⟩, _⟩ := k; rw [hc] at h1; cases h1
theorem IRow.kept {w w' : World} {base g n cap : Nat} {ns : List Int} (h : IRow w base (.slice (some ⟨g, 0, none⟩) n cap) ns) (e : w'.heap[g]? = w.heap[g]?) : IRow w' base (.slice (some ⟨g, 0, none⟩) n cap) ns := by
  refine ⟨h.1, ?_⟩
  rcases h.2 with h' | ⟨g', cap', cur, h', h1, h2, h3⟩
  · exact .inl h'
  · have : g' = g := by simp only [Value.slice.injEq, Option.some.injEq, Addr.mk.injEq, and_true] at h'; exact h'.1.symm
    subst this
    exact .inr ⟨g', cap', cur, h', h1, e.trans h2, h3⟩
theorem IRow.lt {w : World} {base g n cap : Nat} {ns : List Int} (h : IRow w base (.slice (some ⟨g, 0, none⟩) n cap) ns) : g < w.heap.size := by obtain ⟨cur, hc⟩ := h.block; exact lt_of_block hc

theorem Tid.other {gone : Bool} {w' : World} {top bc bm bh n : Nat} {f : Int → Option Nat} {bi wf rep : Int} {hw : Bool} {v : Value} {pend : Bool} (h : Tid gone w' top bc bm bh n f bi wf rep hw v pend) (p : Addr) (h1 : bm ≠ p.block) (h2 : bh ≠ p.block) (h3 : bc ≠ p.block) (h4 : p.block < top) (x : Value) :
    Tid gone (w'.setCell p x) top bc bm bh n f bi wf rep hw v pend := by
  refine ⟨fun e => ?_, fun e => ?_⟩
  · obtain ⟨a, b, g, cap, c, d⟩ := h.yes e
    exact ⟨a.kept (Below.heap_setCell _ _ _ _ h1), b.other h2 x, g, cap, c.other h3 x, ownsRow_setCell_other d (by have := (d.lt g rfl).1; simp [Value.ownBlock]; omega) x⟩
  · obtain ⟨a, b, c⟩ := h.no e
    exact ⟨a.kept (Below.heap_setCell _ _ _ _ h1), b.other h2 x, c.other h3 x⟩

set_option maxHeartbeats 1000000 in
theorem unwait_any (bc bm bh bw base g cap n : Nat) (f : Int → Option Nat) (t bi hf hrep wrep : Int) (hw hpend wpend gone : Bool) (ns ns' : List Int) (vw : Value) (w : World)
    (hns : ns' = ns.erase t) (hgone : gone = (!hw && ns'.length == 0))
    (hc : CB w bc bm (.slice none 0 0)) (hk : KMap w bm f n) (hfb : f bi = some bh) (hh : WB w bh hf hrep hw (.slice (some ⟨g, 0, none⟩) ns.length cap) hpend)
    (hww : WB w bw bi wrep true vw wpend) (ho : IRow w base (.slice (some ⟨g, 0, none⟩) ns.length cap) ns) (nwh : bw ≠ bh) (hbi : (Lit.int .i64 bi).wf = true) (hl : ns.length ≤ 100000) :
    Calls Yba.prog 8 #[.pointer (some ⟨bc, 0, none⟩), .int .i64 t, .pointer (some ⟨bw, 0, none⟩)] w fun e w' => e = .returned (.tuple #[]) ∧
      IRow w' base (.slice (some ⟨g, 0, none⟩) ns'.length cap) ns' ∧ WB w' bw 0 wrep false vw wpend ∧
      (∃ top, w.heap.size ≤ top ∧ Tid gone w' top bc bm bh n f bi hf hrep hw (.slice (some ⟨g, 0, none⟩) ns'.length cap) hpend) ∧ But [bm, bh, bc, bw, g] w w' := by
  have hlook : ∀ q, (Instr.lookup 30 (.map (some bm)) (.int .i64 bi) false).run Yba.prog (w.drewN q) = .ok (.pointer (some ⟨bh, 0, none⟩)) (w.drewN q) := fun q => by
    have h := KMap.look (w := w.drewN q) (bm := bm) (f := f) (n := n) hk bi hbi
    rw [hfb] at h
    exact h
  have c1 := hc.c1
  have c0 := hww.c0
  have d3 := hh.c3
  have Hns : Hid (ns' = ns.erase t) := hns
  have Hgone : Hid (gone = (!hw && ns'.length == 0)) := hgone
  have Hf : Hid (f bi = some bh) := hfb
  clear hns hgone hfb
  go_enter Yba.func8, Yba.ntmps8
  go_wp2_with fail
  go_quiet (fail)
  have hb0 : But [bm, bh, bc, bw, g] w (w.drewN nq) := (But.refl _ w).drewN nq
  have hc : CB (w.drewN nq) bc bm (.slice none 0 0) := hc
  have hk : KMap (w.drewN nq) bm f n := hk
  have hh : WB (w.drewN nq) bh hf hrep hw (.slice (some ⟨g, 0, none⟩) ns.length cap) hpend := hh
  have hww : WB (w.drewN nq) bw bi wrep true vw wpend := hww
  have ho : IRow (w.drewN nq) base (.slice (some ⟨g, 0, none⟩) ns.length cap) ns := ho
  have hsz : w.heap.size ≤ (w.drewN nq).heap.size := Nat.le_refl _
  have c1 := hc.c1
  have c0 := hww.c0
  have d3 := hh.c3
  clear hlook
  generalize w.drewN nq = W at hb0 hc hk hh hww ho hsz c1 c0 d3 ⊢
  have n1 := ne_wc hh hc
  have n2 := ne_wc hww hc
  have n3 := ne_wm hh hk
  have n4 := ne_wm hww hk
  have n5 := ne_cm hc hk
  have n6 := ne_rw ho hh
  have n7 := ne_rw ho hww
  have n8 := ne_rc ho hc
  have n9 := ne_rm ho hk
  have l1 := hh.lt
  have l2 := hww.lt
  have l3 := hc.lt
  have l4 := hk.lt
  have l5 := ho.lt
  -- the end, from the world behind 'tidy'
  go_wp2_with fail
  refine (index_any _ base ns t W ho hl).mono ?_
  rintro e w' ⟨rfl, rfl⟩
  by_cases hmem : t ∈ ns
  · obtain ⟨i, hi, hii, hei⟩ : ∃ i : Nat, i < ns.length ∧ idxI ns t = i ∧ ns.eraseIdx i = ns' := by
      refine ⟨ns.idxOf t, List.idxOf_lt_length_of_mem hmem, by simp [idxI, hmem], ?_⟩
      rw [Hns.out, List.erase_eq_eraseIdx_of_idxOf rfl]
    rw [hii]
    clear hii
    go_wp2_with fail
    refine (delete_any base g cap i ns w' ho hi hl).mono ?_
    rintro e w1 ⟨rfl, ho1, hg1⟩
    rw [hei] at ho1 ⊢
    clear hei
    have hh1 := hh.kept (hg1.block bh l1 (by simpa using n6.symm))
    have hww1 := hww.kept (hg1.block bw l2 (by simpa using n7.symm))
    have hc1 := hc.kept (hg1.block bc l3 (by simpa using n8.symm))
    have hk1 := hk.kept (hg1.block bm l4 (by simpa using n9.symm))
    have k0 := hww1.c0
    have f3 := hh1.fr 3
    have k3 := hh1.c3
    have hs1 := hg1.size
    clear c0 c1 d3
    go_wp2_with fail
    refine (tidy_any bc bm bh n f bi hf hrep hw _ ns'.length cap hpend gone _ Hgone.out (hh1.s3 _) (hc1.other (by simpa using n1.symm) _) (hk1.kept (Below.heap_setCell _ _ _ _ (by simpa using n3.symm))) Hf.out hbi).mono ?_
    rintro e w2 ⟨rfl, htid, hb2⟩
    have hww2 : WB w2 bw bi wrep true vw wpend := (hww1.other (by simpa using nwh) _).kept (hb2.block bw (by simp; omega) (by simp [n4, nwh, n2]))
    have ho2 : IRow w2 base (.slice (some ⟨g, 0, none⟩) ns'.length cap) ns' := (ho1.kept (Below.heap_setCell _ _ _ _ (by simpa using n6))).kept (hb2.block g (by simp; omega) (by simp [n9, n6, n8]))
    have hbb : But [bm, bh, bc, bw, g] w w2 := hb0.trans ((But.grown hg1 (by simp)).trans (((But.refl _ _).setCell (by simp) _).trans (hb2.mono (by simp))))
    have k2 := hww2.c0
    have k4 := hww2.c2
    have f0 := hww2.fr 0
    have f2 := hww2.fr 2
    clear k0 f3 k3
    go_wp2
    go_returns
    refine ⟨rfl, (ho2.kept (Below.heap_setCell _ _ _ _ (by simpa using n7))).kept (Below.heap_setCell _ _ _ _ (by simpa using n7)), (hww2.s0 0).s2 false, ⟨_, ?_, (htid.other ⟨bw, 0, none⟩ (by simpa using n4.symm) (by simpa using nwh.symm) (by simpa using n2.symm) ?_ _).other ⟨bw, 2, none⟩ (by simpa using n4.symm) (by simpa using nwh.symm) (by simpa using n2.symm) ?_ _⟩, (hbb.setCell (by simp) _).setCell (by simp) _⟩
    all_goals (simp; omega)
  · have hii : idxI ns t = -1 := by simp [idxI, hmem]
    have hei : ns' = ns := by rw [Hns.out, List.erase_of_not_mem hmem]
    rw [hii]
    clear hii
    have hgg := Hgone.out
    subst hei
    go_wp2_with fail
    refine (tidy_any bc bm bh n f bi hf hrep hw _ ns'.length cap hpend gone _ Hgone.out hh hc hk Hf.out hbi).mono ?_
    rintro e w2 ⟨rfl, htid, hb2⟩
    have hww2 : WB w2 bw bi wrep true vw wpend := hww.kept (hb2.block bw l2 (by simp [n4, nwh, n2]))
    have ho2 : IRow w2 base (.slice (some ⟨g, 0, none⟩) ns'.length cap) ns' := ho.kept (hb2.block g l5 (by simp [n9, n6, n8]))
    have hbb : But [bm, bh, bc, bw, g] w w2 := hb0.trans (hb2.mono (by simp))
    have k2 := hww2.c0
    have k4 := hww2.c2
    have f0 := hww2.fr 0
    have f2 := hww2.fr 2
    clear c0 c1 d3 hgg
    go_wp2
    go_returns
    refine ⟨rfl, (ho2.kept (Below.heap_setCell _ _ _ _ (by simpa using n7))).kept (Below.heap_setCell _ _ _ _ (by simpa using n7)), (hww2.s0 0).s2 false, ⟨_, ?_, (htid.other ⟨bw, 0, none⟩ (by simpa using n4.symm) (by simpa using nwh.symm) (by simpa using n2.symm) ?_ _).other ⟨bw, 2, none⟩ (by simpa using n4.symm) (by simpa using nwh.symm) (by simpa using n2.symm) ?_ _⟩, (hbb.setCell (by simp) _).setCell (by simp) _⟩
    all_goals first | omega | (simp; omega)

end Go.Proofs.Ybulkehxo
