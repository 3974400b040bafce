/-
  FOR LawS6714AWhole: (*ChunkSet).Add.
-/
import Derived.Test.YbulkeiagRuns
namespace Go.Proofs.Ybulkeiag
open Go.RowKit

/-! ### the plain side -/
/-- The set with i in it. -/
def addP (pres : Nat → Bool) (i : Nat) : Nat → Bool := fun j => if j = i then true else pres j
theorem addP_same (pres : Nat → Bool) (i : Nat) : addP pres i i = true := by simp [addP]
theorem addP_other {pres : Nat → Bool} {i j : Nat} (h : j ≠ i) : addP pres i j = pres j := by simp [addP, h]

theorem later_nil {pres : Nat → Bool} {p : Nat} (top : ∀ i, 256 ≤ i → pres i = false) (h : later pres p 256 = []) : ∀ i, p ≤ i → pres i = false := by
  intro i hi
  rcases Nat.lt_or_ge i 256 with q | q
  · cases e : pres i with
    | false => rfl
    | true =>
      have : i ∈ later pres p 256 := mem_later.2 ⟨q, e, hi⟩
      rw [h] at this
      cases this
  · exact top i q
theorem later_nil_of {pres : Nat → Bool} {p : Nat} (h : ∀ i, p ≤ i → pres i = false) : later pres p 256 = [] := by
  refine List.eq_nil_iff_forall_not_mem.2 (fun i hi => ?_)
  obtain ⟨_, m2, m3⟩ := mem_later.1 hi
  rw [h i m3] at m2
  cases m2
theorem ahead_false {pres : Nat → Bool} {p : Nat} (h : ∀ i, p ≤ i → pres i = false) : aheadF pres p = fun _ => false := by
  funext k
  unfold aheadF
  by_cases e : (p : Int) ≤ k
  · rw [h k.toNat (by omega)]; simp
  · simp [e]
theorem ahead_add {pres : Nat → Bool} {p i : Nat} (h : p ≤ i) : updB (aheadF pres p) i true = aheadF (addP pres i) p := by
  funext k
  by_cases e : k = (i : Int)
  · subst e
    rw [updB_same]
    simp [aheadF, addP_same, h]
  · rw [updB_other _ _ e]
    unfold aheadF
    by_cases hk : (p : Int) ≤ k
    · rw [addP_other (by omega)]
    · simp [hk]
theorem ahead_del (pres : Nat → Bool) (q : Nat) : updB (aheadF pres q) q false = aheadF pres (q + 1) := by
  funext k
  by_cases e : k = (q : Int)
  · subst e
    rw [updB_same]
    have : ¬ ((q : Int) + 1 ≤ q) := by omega
    simp [aheadF, this]
  · rw [updB_other _ _ e]
    unfold aheadF
    have : decide ((q : Int) ≤ k) = decide (((q + 1 : Nat) : Int) ≤ k) := by rw [decide_eq_decide]; omega
    rw [this]
theorem ahead_first {pres : Nat → Bool} {p : Nat} (h : pres p = false) : aheadF pres p = aheadF (addP pres p) (p + 1) := by
  funext k
  unfold aheadF
  by_cases hk : ((p + 1 : Nat) : Int) ≤ k
  · have h2 : (p : Int) ≤ k := by omega
    rw [addP_other (by omega), decide_eq_true hk, decide_eq_true h2]
  · rw [decide_eq_false hk]
    by_cases h2 : (p : Int) ≤ k
    · obtain rfl : k = (p : Int) := by omega
      simp [h]
    · simp [h2]

/-! ### 'delete', a step of a region that draws its order -/
theorem step_delete {P : Program} {ops : Array Oper} {o : Oper} {a : Act} {w w' : World} {K : Act → World → Prop} {Q : Exit → Act → World → Prop} {E : Prop} {vm vk v' : Value} {t1 t2 : TypeId}
    (hg : o.guard = none) (s x : Operand) (hop : o.op = Op.call { callee := Callee.builtin Builtin.delete, args := #[s, x], argTypes := #[t1, t2] })
    (hs : a.eval s = vm) (hx : a.eval x = vk) (hrun : (Builtin.delete_ #[t1, t2] o.type #[vm, vk]).run P w = .ok v' w')
    (hK : K (a.put o.dst v') w') :
    if Region.wanted o (yielded ops a.tmps) = true then Oper.wp P o a w K Q else E := by
  have hw : Region.wanted o (yielded ops a.tmps) = true := by simp [Region.wanted, hg]
  rw [if_pos hw]
  unfold Oper.wp
  simp [execOp, hop, resolve, invoke, builtin, hs, hx, hrun, Result.andThen]
  exact hK

theorem eql23 (w : World) (r : Option Nat) : (binOp .eql 23 (.map r) (.map none)).run Yba.prog w = .ok (.bool r.isNone) w := run_eql_map_nil w _ _ _ r Yba.underlying23
attribute [local go_sem] eql23

set_option maxHeartbeats 1000000 in
theorem add_far {base bs : Nat} {pres : Nat → Bool} {p : Nat} {m : Option Nat} {v : Value} {l : Bool} (i : Nat) (w : World) (h : Inv w base bs pres p m v l) (hb : base ≤ w.heap.size) (hi : i < 256) (hp : pres i = false) (hne : i ≠ p) :
    Calls Yba.prog 6 #[.pointer (some ⟨bs, 0, none⟩), .int .i64 i] w fun e w' => e = .returned (.tuple #[]) ∧ ∃ p' m', Inv w' base bs (addP pres i) p' m' v false ∧ But (bs :: m.toList) w w' := by
  have hpi : p < i := by
    rcases Nat.lt_or_ge i p with q | q
    · have := h.pre.1 i q
      rw [this] at hp
      cases hp
    · omega
  have hib : ((i : Int) == (p : Int)) = false := beq_eq_false_iff_ne.2 (by omega)
  have c0 := h.sb.c0
  have c1 := h.sb.c1
  have c3 := h.sb.c3
  have f1 := h.sb.fr 1
  have f3 := h.sb.fr 3
  have hbs := h.sb.lt
  have hge := h.ge
  have hpre : IsPre (addP pres i) p := ⟨fun j hj => by rw [addP_other (by omega)]; exact h.pre.1 j hj, by rw [addP_other (by omega)]; exact h.pre.2⟩
  have htop : ∀ j, 256 ≤ j → addP pres i j = false := fun j hj => by rw [addP_other (by omega)]; exact h.top j hj
  rcases h.ahead with ⟨rfl, hl⟩ | ⟨bm, n, rfl, hbm, hbn, hm⟩
  · have hfalse := ahead_false (later_nil h.top hl)
    have hm1 := BMap.made ((w.setCell ⟨bs, 3, none⟩ (.bool false)).setCell ⟨bs, 1, none⟩ (.map (some w.heap.size)))
    rw [← hfalse] at hm1
    have hsz : ((w.setCell ⟨bs, 3, none⟩ (.bool false)).setCell ⟨bs, 1, none⟩ (.map (some w.heap.size))).heap.size = w.heap.size := by simp
    rw [hsz] at hm1
    have hsb1 : SB (((w.setCell ⟨bs, 3, none⟩ (.bool false)).setCell ⟨bs, 1, none⟩ (.map (some w.heap.size))).alloc (.map #[] 0)) bs p (some w.heap.size) v false := ((h.sb.s3 false).s1 _).kept (Below.heap_alloc _ _ _ (by rw [hsz]; exact hbs))
    obtain ⟨w', hr', hm', hg'⟩ := hm1.store (i : Int) (wf_small (by omega) (by omega)) (by rw [hfalse]) (by unfold maxLen; omega)
    rw [ahead_add (by omega)] at hm'
    have hbut1 : But (bs :: (none : Option Nat).toList) w w' := by
      have b1 : But [bs] w (((w.setCell ⟨bs, 3, none⟩ (.bool false)).setCell ⟨bs, 1, none⟩ (.map (some w.heap.size))).alloc (.map #[] 0)) := (((But.refl _ w).setCell (by simp) _).setCell (by simp) _).alloc _
      refine ⟨hg'.os.trans b1.os, hg'.tape.trans b1.tape, hg'.output.trans b1.output, Nat.le_trans b1.size hg'.size, fun k hk hn => ?_⟩
      rw [hg'.block k (Nat.lt_of_lt_of_le hk b1.size) (by simp; omega)]
      exact b1.block k hk (by simpa using hn)
    have hfin : Hid (∃ p' m', Inv w' base bs (addP pres i) p' m' v false ∧ But (bs :: (none : Option Nat).toList) w w') :=
      ⟨p, some w.heap.size, ⟨hsb1.kept (hg'.block bs hsb1.lt (by simp; omega)), hge, hpre, h.le, htop, .inr ⟨_, _, rfl, hb, by omega, hm'⟩, fun e => by cases e⟩, hbut1⟩
    clear h hl hfalse hsz hsb1 hm1 hm' hg' hbut1 hpre htop hp
    have hmm := @run_makeMap Yba.prog
    go_enter Yba.func6, Yba.ntmps6
    go_wp2_with fail
    go_returns
    exact ⟨rfl, hfin.out⟩
  · have hsb1 := h.sb.s3 false
    have hm1 : BMap (w.setCell ⟨bs, 3, none⟩ (.bool false)) bm (aheadF pres p) n := hm.kept (Below.heap_setCell _ _ _ _ hbn)
    obtain ⟨D, _, _, hnl, _⟩ := hm.sorted h.top
    have hll := later_len pres p
    obtain ⟨w', hr', hm', hg'⟩ := hm1.store (i : Int) (wf_small (by omega) (by omega)) (by simp [aheadF, hp]) (by unfold maxLen; omega)
    rw [ahead_add (by omega)] at hm'
    have hbut1 : But (bs :: (some bm).toList) w w' := ((But.refl _ w).setCell (by simp) _).trans (But.grown hg' (fun k e => by cases e; simp))
    have hfin : Hid (∃ p' m', Inv w' base bs (addP pres i) p' m' v false ∧ But (bs :: (some bm).toList) w w') :=
      ⟨p, some bm, ⟨hsb1.kept (hg'.block bs hsb1.lt (by simp; omega)), hge, hpre, h.le, htop, .inr ⟨_, _, rfl, hbm, hbn, hm'⟩, fun e => by cases e⟩, hbut1⟩
    clear h hsb1 hm1 hm hm' hg' hbut1 hpre htop hp
    go_enter Yba.func6, Yba.ntmps6
    go_wp2_with fail
    go_returns
    exact ⟨rfl, hfin.out⟩

def mAdd (bs : Nat) (w : World) : Nat := 256 - (match w.cell? ⟨bs, 0, none⟩ with | some (.int _ q) => q.toNat | _ => 0)
theorem mAdd_of {w : World} {bs q : Nat} (h : w.cell? ⟨bs, 0, none⟩ = some (.int .i64 q)) : mAdd bs w = 256 - q := by simp [mAdd, h]

set_option maxHeartbeats 2000000 in
theorem add_next {base bs : Nat} {pres : Nat → Bool} {p : Nat} {m : Option Nat} {v : Value} {l : Bool} (w : World) (h : Inv w base bs pres p m v l) (hi : p < 256) :
    Calls Yba.prog 6 #[.pointer (some ⟨bs, 0, none⟩), .int .i64 p] w fun e w' => e = .returned (.tuple #[]) ∧ ∃ p' m', Inv w' base bs (addP pres p) p' m' v false ∧ But (bs :: m.toList) w w' := by
  have c0 := h.sb.c0
  have c3 := h.sb.c3
  have f0 := h.sb.fr 0
  have f3 := h.sb.fr 3
  have hge := h.ge
  have htop : ∀ j, 256 ≤ j → addP pres p j = false := fun j hj => by rw [addP_other (by omega)]; exact h.top j hj
  have hsb0 : SB ((w.setCell ⟨bs, 3, none⟩ (.bool false)).setCell ⟨bs, 0, none⟩ (.int .i64 ((p + 1 : Nat) : Int))) bs ((p + 1 : Nat) : Int) m v false := (h.sb.s3 false).s0 _
  have hbut0 : But (bs :: m.toList) w ((w.setCell ⟨bs, 3, none⟩ (.bool false)).setCell ⟨bs, 0, none⟩ (.int .i64 ((p + 1 : Nat) : Int))) := ((But.refl _ w).setCell (by simp) _).setCell (by simp) _
  have hah0 : Ahead ((w.setCell ⟨bs, 3, none⟩ (.bool false)).setCell ⟨bs, 0, none⟩ (.int .i64 ((p + 1 : Nat) : Int))) base bs (addP pres p) (p + 1) m := by
    rcases h.ahead with ⟨rfl, hl⟩ | ⟨bm, n, rfl, hbm, hbn, hm⟩
    · exact .inl ⟨rfl, later_nil_of (fun j hj => by rw [addP_other (by omega)]; exact later_nil h.top hl j (by omega))⟩
    · refine .inr ⟨bm, n, rfl, hbm, hbn, ?_⟩
      rw [← ahead_first h.pre.2]
      exact (hm.kept (Below.heap_setCell _ _ _ _ hbn)).kept (Below.heap_setCell _ _ _ _ hbn)
  have hall0 : ∀ j, j < p + 1 → addP pres p j = true := fun j hj => by
    by_cases e : j = p
    · subst e; exact addP_same _ _
    · rw [addP_other e]; exact h.pre.1 j (by omega)
  have HH : Hid (SB ((w.setCell ⟨bs, 3, none⟩ (.bool false)).setCell ⟨bs, 0, none⟩ (.int .i64 ((p + 1 : Nat) : Int))) bs ((p + 1 : Nat) : Int) m v false ∧ But (bs :: m.toList) w ((w.setCell ⟨bs, 3, none⟩ (.bool false)).setCell ⟨bs, 0, none⟩ (.int .i64 ((p + 1 : Nat) : Int))) ∧ Ahead ((w.setCell ⟨bs, 3, none⟩ (.bool false)).setCell ⟨bs, 0, none⟩ (.int .i64 ((p + 1 : Nat) : Int))) base bs (addP pres p) (p + 1) m) := ⟨hsb0, hbut0, hah0⟩
  clear hsb0 hbut0 hah0 h
  have hp1 : ((p + 1 : Nat) : Int) = (p : Int) + 1 := by omega
  go_enter Yba.func6, Yba.ntmps6
  go_wp2_with fail
  go_loopw [42] (fun _ wr => ∃ q : Nat, p < q ∧ q ≤ 256 ∧ SB wr bs q m v false ∧ Ahead wr base bs (addP pres p) q m ∧ (∀ j, j < q → addP pres p j = true) ∧ But (bs :: m.toList) w wr) (fun _ wr => mAdd bs wr)
  case atStart =>
    obtain ⟨k1, k2, k3⟩ := HH.out
    exact ⟨p + 1, by omega, by omega, k1, k3, hall0, k2⟩
  case round =>
    clear HH c0 c3 f0 f3 hall0
    obtain ⟨q, hpq, hq, hsb, hah, hall, hbut⟩ := hrel
    have d0 := hsb.c0
    have d1 := hsb.c1
    have g0 := hsb.fr 0
    have hw1 : ∀ k, SB (wr.drewN k) bs q m v false := fun k => hsb
    have hw2 : ∀ k, Ahead (wr.drewN k) base bs (addP pres p) q m := fun k => hah.kept ⟨rfl, rfl, rfl, Nat.le_refl _, fun _ _ _ => rfl⟩
    have hq0 : (Lit.int .i64 (q : Int)).wf = true := wf_small (by omega) (by omega)
    have hlk : ∀ k, (Instr.lookup 23 (.map m) (.int .i64 (q : Int)) false).run Yba.prog (wr.drewN k) = .ok (.bool (addP pres p q)) (wr.drewN k) := by
      intro k
      rcases hw2 k with ⟨rfl, hl⟩ | ⟨bm, n, rfl, hbm, hbn, hm⟩
      · rw [look_none _ _ hq0, later_nil htop hl q (Nat.le_refl _)]
      · rw [hm.look _ hq0]
        simp [aheadF]
    cases hqp : addP pres p q with
    | false =>
      rw [hqp] at hlk
      go_wp2_with fail
      go_quiet (fail)
      go_wp2_with fail
      go_returns
      exact ⟨rfl, q, m, ⟨hw1 _, hge, ⟨hall, hqp⟩, hq, htop, hw2 _, fun e => by cases e⟩, hbut.drewN _⟩
    | true =>
      rw [hqp] at hlk
      have hq2 : q < 256 := by
        rcases Nat.lt_or_ge q 256 with z | z
        · exact z
        · rw [htop q z] at hqp; cases hqp
      go_wp2_with fail
      go_quiet (fail)
      go_wp2_with fail
      have hsb2 := hw1 nq
      have hah2 := hw2 nq
      have hbut2 : But (bs :: m.toList) w (wr.drewN nq) := hbut.drewN _
      have hme : mAdd bs wr = 256 - q := mAdd_of d0
      generalize wr.drewN nq = W at hsb2 hah2 hbut2 ⊢
      clear hlk hw1 hw2 hsb hah d0 d1 g0 hbut
      rcases hah2 with ⟨_, hl⟩ | ⟨bm, n, rfl, hbm, hbn, hm⟩
      · rw [later_nil htop hl q (Nat.le_refl _)] at hqp; cases hqp
      · have hmd : BMap W.drew bm (aheadF (addP pres p) q) n := hm.kept rfl
        obtain ⟨w', hr', hm', hg'⟩ := hmd.drop (q : Int) hq0 (by simp [aheadF, hqp]) 0
        rw [ahead_del] at hm'
        have hsbd : SB W.drew bs q (some bm) v false := hsb2
        have d0 := hsbd.c0
        have d1 := hsbd.c1
        have hsb3 : SB w' bs q (some bm) v false := hsbd.kept (hg'.block bs hsbd.lt (by simp; omega))
        have hbut3 : But (bs :: (some bm).toList) w w' := (hbut2.trans (c := W.drew) ⟨rfl, rfl, rfl, Nat.le_refl _, fun _ _ _ => rfl⟩).trans (But.grown hg' (fun k e => by cases e; simp))
        go_region_law (refine step_delete rfl _ _ rfl rfl rfl hr' ?_)
        all_goals
          have e0 := hsb3.c0
          have e1 := hsb3.fr 0
          go_wp2_with fail
          go_roundw
          case rel => exact ⟨q + 1, by omega, by omega, hsb3.s0 _, .inr ⟨bm, _, rfl, hbm, hbn, hm'.kept (Below.heap_setCell _ _ _ _ hbn)⟩, fun j hj => by
            by_cases e : j = q
            · subst e; exact hqp
            · exact hall j (by omega), hbut3.setCell (by simp) _⟩
          case measure =>
            have e2 := mAdd_of (q := q + 1) (hsb3.s0 ((q : Int) + 1)).c0
            omega

/-- '(*ChunkSet).Add': the set with i in it. -/
theorem add_any {base bs : Nat} {pres : Nat → Bool} {p : Nat} {m : Option Nat} {v : Value} {l : Bool} (i : Nat) (w : World) (h : Inv w base bs pres p m v l) (hb : base ≤ w.heap.size) (hi : i < 256) (hp : pres i = false) :
    Calls Yba.prog 6 #[.pointer (some ⟨bs, 0, none⟩), .int .i64 i] w fun e w' => e = .returned (.tuple #[]) ∧ ∃ p' m', Inv w' base bs (addP pres i) p' m' v false ∧ But (bs :: m.toList) w w' := by
  by_cases e : i = p
  · subst e
    exact add_next w h hi
  · exact add_far i w h hb hi hp e

end Go.Proofs.Ybulkeiag
