/-
  FOR LawS6709CWhole: the accounts as they are laid, one after the other (no Go).
-/
import Derived.Test.YbulkehxoCState
namespace Go.Proofs.Ybulkehxo
open Go.RowKit

/-- i accounts laid; the rows of pointers. -/
structure AS (D : Dat) (w3 wr : World) (bl bw bh : Nat → Nat) (i : Nat) (ln : Nat → Nat) (pc oc dc : List Value) (vp vo vd : Value) : Prop where
  below : Below w3.heap.size w3 wr
  pr : wr.ownsRow w3.heap.size 57 1 vp D.N pc
  orow : wr.ownsRow w3.heap.size 57 1 vo oc.length oc
  drow : wr.ownsRow w3.heap.size 57 1 vd dc.length dc
  ne1 : ∀ b, vd.ownBlock = some b → vo.ownBlock ≠ some b
  ne2 : ∀ b, vp.ownBlock = some b → vo.ownBlock ≠ some b
  ne3 : ∀ b, vp.ownBlock = some b → vd.ownBlock ≠ some b
  acc : ∀ k, k < i → Acc wr bl bw bh (cfD D) ln k
  inj : ∀ j k, j < i → k < i → bl j = bl k → j = k

section
variable {D : Dat} {w3 wr W : World} {bl bw bh : Nat → Nat} {i : Nat} {ln : Nat → Nat} {pc oc dc : List Value} {vp vo vd : Value}

theorem acc_keep {bl bw bh : Nat → Nat} {cf : Nat → Conf} {ln : Nat → Nat} {k : Nat} (h : Acc wr bl bw bh cf ln k) (hb : ∀ (b : Nat) (ca : Array Value) (t : TypeId), wr.heap[b]? = some (.cells ca t (0, 0)) → (t = 71 ∨ t = 69) → W.heap[b]? = wr.heap[b]?) : Acc W bl bw bh cf ln k := by
  obtain ⟨tc, htc, _⟩ := h.tw
  obtain ⟨uc, huc, _⟩ := h.th
  exact ⟨h.cb.kept (hb _ _ _ h.cb (.inl rfl)), h.tw.kept (hb _ _ _ htc (.inr rfl)), h.th.kept (hb _ _ _ huc (.inr rfl))⟩
theorem row_keep {base n size : Nat} {e : TypeId} {v : Value} {xs : List Value} (h : wr.ownsRow base e size v n xs) (hb : ∀ b, v.ownBlock = some b → W.heap[b]? = wr.heap[b]?) : W.ownsRow base e size v n xs := by
  refine ⟨h.1, ?_⟩
  rcases h.2 with q | ⟨g, cap, cur, q1, q2, q3, q4⟩
  · exact .inl q
  · exact .inr ⟨g, cap, cur, q1, q2, (hb g (by rw [q1]; rfl)).trans q3, q4⟩

theorem AS.keep (h : AS D w3 wr bl bw bh i ln pc oc dc vp vo vd) (hb : Below wr.heap.size wr W) : AS D w3 W bl bw bh i ln pc oc dc vp vo vd :=
  ⟨h.below.trans (below_down hb h.below.size), ownsRow_below h.pr hb, ownsRow_below h.orow hb, ownsRow_below h.drow hb, h.ne1, h.ne2, h.ne3,
    fun k hk => acc_keep (h.acc k hk) (fun b _ _ hq _ => hb.block b (lt_of_block hq)), h.inj⟩

theorem AS.new {bn b1 b2 : Nat} (h : AS D w3 wr bl bw bh i ln pc oc dc vp vo vd) (hb : Below wr.heap.size wr W) (hbn : wr.heap.size ≤ bn)
    (hc : CB W bn i b1 b2 (D.rw i).at_ (D.rw i).msgs (D.rw i).last 0) (h1 : TB W b1 (D.rw i).waiter) (h2 : TB W b2 (D.rw i).holder) :
    AS D w3 W (fun k => if k = i then bn else bl k) (fun k => if k = i then b1 else bw k) (fun k => if k = i then b2 else bh k) (i + 1) (fun k => if k = i then 0 else ln k) pc oc dc vp vo vd := by
  have h' := h.keep hb
  refine ⟨h'.below, h'.pr, h'.orow, h'.drow, h'.ne1, h'.ne2, h'.ne3, fun k hk => ?_, fun j k hj hk e => ?_⟩
  · by_cases hki : k = i
    · subst hki
      exact ⟨by simp only [if_pos]; exact hc, by simp only [if_pos]; exact h1, by simp only [if_pos]; exact h2⟩
    · have q := h'.acc k (by omega)
      exact ⟨by simp only [if_neg hki]; exact q.cb, by simp only [if_neg hki]; exact q.tw, by simp only [if_neg hki]; exact q.th⟩
  · by_cases hji : j = i <;> by_cases hki : k = i
    · omega
    · simp only [hji, hki, if_true, if_false] at e
      have := (h.acc k (by omega)).cb.lt
      omega
    · simp only [hji, hki, if_true, if_false] at e
      have := (h.acc j (by omega)).cb.lt
      omega
    · simp only [hji, hki, if_false] at e
      exact h.inj j k (by omega) (by omega) e

theorem AS.line (h : AS D w3 wr bl bw bh i ln pc oc dc vp vo vd) {m : Nat} (hm : m < i) (hbm : w3.heap.size ≤ bl m) (x : Nat) :
    AS D w3 (wr.setCell ⟨bl m, 8, none⟩ (.int .i64 x)) bl bw bh i (fun k => if k = m then x else ln k) pc oc dc vp vo vd := by
  have hm' := (h.acc m hm).cb
  have blk : ∀ b, b ≠ bl m → (wr.setCell ⟨bl m, 8, none⟩ (.int .i64 x)).heap[b]? = wr.heap[b]? := fun b hb => Below.heap_setCell _ _ _ _ hb
  have nb : ∀ {v : Value} {n : Nat} {xs : List Value}, wr.ownsRow w3.heap.size 57 1 v n xs → ∀ b, v.ownBlock = some b → b ≠ bl m := fun {v} _ _ hr b hb e => own_ne hr hm' (by decide) (by rw [← e]; exact hb)
  refine ⟨h.below.trans ⟨rfl, rfl, rfl, by simp, fun k hk => blk k (by omega)⟩, row_keep h.pr (fun b hb => blk b (nb h.pr b hb)), row_keep h.orow (fun b hb => blk b (nb h.orow b hb)), row_keep h.drow (fun b hb => blk b (nb h.drow b hb)), h.ne1, h.ne2, h.ne3, fun k hk => ?_, h.inj⟩
  have q := h.acc k hk
  obtain ⟨tc, htc, _⟩ := q.tw
  obtain ⟨uc, huc, _⟩ := q.th
  refine ⟨?_, q.tw.kept (blk _ (type_ne htc hm' (by decide))), q.th.kept (blk _ (type_ne huc hm' (by decide)))⟩
  by_cases hkm : k = m
  · subst hkm
    simp only [if_pos]
    have := q.cb
    unfold CB at *
    rw [heap_setCell_same wr _ 8 _ _ _ this]
    rfl
  · simp only [if_neg hkm]
    exact q.cb.kept (blk _ (fun e => hkm (h.inj k m hk hm e)))

theorem AS.due (h : AS D w3 wr bl bw bh i ln pc oc dc vp vo vd) {vd' : Value} {dc' : List Value} {n : Nat} (hg : wr.grownBy W vd.ownBlock) (hr : W.ownsRow w3.heap.size 57 1 vd' n dc') (hat : vd'.ownBlock = vd.ownBlock ∨ vd'.ownBlock = some wr.heap.size) :
    AS D w3 W bl bw bh i ln pc oc dc' vp vo vd' := by
  have hn : n = dc'.length := by have := hr.1; omega
  rw [hn] at hr
  have f : ∀ {v : Value} {n : Nat} {xs : List Value}, wr.ownsRow w3.heap.size 57 1 v n xs → (∀ b, v.ownBlock = some b → vd.ownBlock ≠ some b) → ∀ b, v.ownBlock = some b → vd'.ownBlock ≠ some b := fun hr hne b hb e => by
    rcases hat with q | q
    · exact hne b hb (by rw [← q]; exact e)
    · have := (hr.lt b hb).2
      rw [q] at e
      injection e with e
      omega
  have hne1 : ∀ b, vo.ownBlock = some b → vd.ownBlock ≠ some b := fun b hb e => h.ne1 b e hb
  refine ⟨h.below.trans (below_grown h.drow hg h.below.size), row_keep h.pr (fun b hb => hg.block b (h.pr.lt b hb).2 (fun e => h.ne3 b hb e.symm)), row_keep h.orow (fun b hb => hg.block b (h.orow.lt b hb).2 (fun e => hne1 b hb e.symm)), hr,
    fun b hb e => f h.orow hne1 b e hb, h.ne2, f h.pr h.ne3, fun k hk => acc_keep (h.acc k hk) (fun b ca t hq ht => hg.block b (lt_of_block hq) (fun e => own_ne h.drow hq (by rcases ht with rfl | rfl <;> decide) e.symm)), h.inj⟩

theorem AS.opn (h : AS D w3 wr bl bw bh i ln pc oc dc vp vo vd) {vo' : Value} {oc' : List Value} {n : Nat} (hg : wr.grownBy W vo.ownBlock) (hr : W.ownsRow w3.heap.size 57 1 vo' n oc') (hat : vo'.ownBlock = vo.ownBlock ∨ vo'.ownBlock = some wr.heap.size) :
    AS D w3 W bl bw bh i ln pc oc' dc vp vo' vd := by
  have hn : n = oc'.length := by have := hr.1; omega
  rw [hn] at hr
  have f : ∀ {v : Value} {n : Nat} {xs : List Value}, wr.ownsRow w3.heap.size 57 1 v n xs → (∀ b, v.ownBlock = some b → vo.ownBlock ≠ some b) → ∀ b, v.ownBlock = some b → vo'.ownBlock ≠ some b := fun hr hne b hb e => by
    rcases hat with q | q
    · exact hne b hb (by rw [← q]; exact e)
    · have := (hr.lt b hb).2
      rw [q] at e
      injection e with e
      omega
  refine ⟨h.below.trans (below_grown h.orow hg h.below.size), row_keep h.pr (fun b hb => hg.block b (h.pr.lt b hb).2 (fun e => h.ne2 b hb e.symm)), hr, row_keep h.drow (fun b hb => hg.block b (h.drow.lt b hb).2 (fun e => h.ne1 b hb e.symm)),
    f h.drow h.ne1, f h.pr h.ne2, h.ne3, fun k hk => acc_keep (h.acc k hk) (fun b ca t hq ht => hg.block b (lt_of_block hq) (fun e => own_ne h.orow hq (by rcases ht with rfl | rfl <;> decide) e.symm)), h.inj⟩

theorem AS.ptr {gp cp : Nat} (h : AS D w3 wr bl bw bh i ln pc oc dc (.slice (some ⟨gp, 0, none⟩) D.N cp) vo vd) (j : Nat) (x : Value) :
    AS D w3 (wr.setCell ⟨gp, j, none⟩ x) bl bw bh i ln (pc.set j x) oc dc (.slice (some ⟨gp, 0, none⟩) D.N cp) vo vd := by
  obtain ⟨h1, hg⟩ := h.pr.stored j x
  refine ⟨h.below.trans (below_grown h.pr hg h.below.size), h1, row_keep h.orow (fun b hb => hg.block b (h.orow.lt b hb).2 (fun e => h.ne2 b e.symm hb)), row_keep h.drow (fun b hb => hg.block b (h.drow.lt b hb).2 (fun e => h.ne3 b e.symm hb)),
    h.ne1, h.ne2, h.ne3, fun k hk => acc_keep (h.acc k hk) (fun b ca t hq ht => hg.block b (lt_of_block hq) (fun e => own_ne h.pr hq (by rcases ht with rfl | rfl <;> decide) e.symm)), h.inj⟩
theorem AS.base {w0 : World} (h : AS D w3 wr bl bw bh i ln pc oc dc vp vo vd) (hb : Below w0.heap.size w0 w3) : AS D w0 wr bl bw bh i ln pc oc dc vp vo vd :=
  ⟨hb.trans (below_down h.below hb.size), ownsRow_base h.pr hb.size, ownsRow_base h.orow hb.size, ownsRow_base h.drow hb.size, h.ne1, h.ne2, h.ne3, h.acc, h.inj⟩
end

/-- A round's copy, its two transactions, its account. -/
def newW (D : Dat) (i : Nat) (wr : World) : World :=
  (((wr.alloc (.cells #[.string (D.rw i).waiter, .string (D.rw i).holder, .int .i64 (D.rw i).at_, .int .i64 (D.rw i).last, .int .i64 (D.rw i).msgs, .int .u64 (D.rw i).line, .bool (D.rw i).due, .bool (D.rw i).opn] 54)).alloc
    (.cells #[.string (D.rw i).waiter, .int .i64 0, .int .i64 0, .int .i64 0, .pointer none, .slice none 0 0, .int .i64 0, .int .i64 0, .int .u8 0, .bool false, .bool false, .bool false, .bool false, .bool false, .int .i64 0, .int .i64 0, .int .i64 0, .int .i64 0, .int .i64 0, .int .i64 0, .int .u8 0, .bool false, .int .i64 0, .map none, .slice none 0 0, .pointer none] 69)).alloc
    (.cells #[.string (D.rw i).holder, .int .i64 0, .int .i64 0, .int .i64 0, .pointer none, .slice none 0 0, .int .i64 0, .int .i64 0, .int .u8 0, .bool false, .bool false, .bool false, .bool false, .bool false, .int .i64 0, .int .i64 0, .int .i64 0, .int .i64 0, .int .i64 0, .int .i64 0, .int .u8 0, .bool false, .int .i64 0, .map none, .slice none 0 0, .pointer none] 69)).alloc
    (.cells #[.int .u64 i, .pointer (some ⟨wr.heap.size + 1, 0, none⟩), .pointer (some ⟨wr.heap.size + 1 + 1, 0, none⟩), .int .i64 0, .int .i64 (D.rw i).at_, .int .i64 (D.rw i).msgs, .int .i64 (D.rw i).last, .int .i64 0, .int .i64 0] 71)
theorem heap_new' (w : World) (o : Obj) {k : Nat} (h : k = w.heap.size) : (w.alloc o).heap[k]? = some o := by rw [h]; exact heap_alloc_new w o
structure NewF (D : Dat) (i : Nat) (wr W : World) : Prop where
  below : Below wr.heap.size wr W
  copy : ∃ cs, W.heap[wr.heap.size]? = some (.cells cs 54 (0, 0)) ∧ cs[6]? = some (.bool (D.rw i).due) ∧ cs[7]? = some (.bool (D.rw i).opn)
  cb : CB W (wr.heap.size + 1 + 1 + 1) i (wr.heap.size + 1) (wr.heap.size + 1 + 1) (D.rw i).at_ (D.rw i).msgs (D.rw i).last 0
  tw : TB W (wr.heap.size + 1) (D.rw i).waiter
  th : TB W (wr.heap.size + 1 + 1) (D.rw i).holder
theorem newF (D : Dat) (i : Nat) (wr : World) : NewF D i wr (newW D i wr) := by
  unfold newW
  refine ⟨((((Below.refl _ wr).alloc (Nat.le_refl _) _).alloc (by simp) _).alloc (by simp; omega) _).alloc (by simp; omega) _, ?_, ?_, ?_, ?_⟩
  · rw [Below.heap_alloc _ _ _ (by simp; omega), Below.heap_alloc _ _ _ (by simp; omega), Below.heap_alloc _ _ _ (by simp)]
    exact ⟨_, heap_new' _ _ rfl, rfl, rfl⟩
  · exact heap_new' _ _ (by simp)
  · unfold TB
    rw [Below.heap_alloc _ _ _ (by simp), Below.heap_alloc _ _ _ (by simp)]
    exact ⟨_, heap_new' _ _ (by simp), rfl⟩
  · unfold TB
    rw [Below.heap_alloc _ _ _ (by simp)]
    exact ⟨_, heap_new' _ _ (by simp), rfl⟩
theorem AS.new' {D : Dat} {w3 wr W : World} {bl bw bh : Nat → Nat} {i : Nat} {ln : Nat → Nat} {pc oc dc : List Value} {vp vo vd : Value} (h : AS D w3 wr bl bw bh i ln pc oc dc vp vo vd) (hn : NewF D i wr W) :
    ∃ bl' bw' bh', bl' i = wr.heap.size + 1 + 1 + 1 ∧ (∀ k, k < i → bl' k = bl k) ∧ AS D w3 W bl' bw' bh' (i + 1) (fun k => if k = i then 0 else ln k) pc oc dc vp vo vd :=
  ⟨fun k => if k = i then wr.heap.size + 1 + 1 + 1 else bl k, _, _, if_pos rfl, fun k hk => if_neg (by omega), h.new hn.below (by omega) hn.cb hn.tw hn.th⟩
theorem AS.ln_congr {D : Dat} {w3 wr : World} {bl bw bh : Nat → Nat} {i : Nat} {ln ln' : Nat → Nat} {pc oc dc : List Value} {vp vo vd : Value} (h : AS D w3 wr bl bw bh i ln pc oc dc vp vo vd) (e : ∀ k, k < i → ln k = ln' k) : AS D w3 wr bl bw bh i ln' pc oc dc vp vo vd :=
  ⟨h.below, h.pr, h.orow, h.drow, h.ne1, h.ne2, h.ne3, fun k hk => by
    have q := h.acc k hk
    have q1 := q.cb
    rw [e k hk] at q1
    exact ⟨q1, q.tw, q.th⟩, h.inj⟩

/-- A round's end: the next. -/
theorem AS.lists {D : Dat} {w3 wr : World} {bl bl' bw bh : Nat → Nat} {i : Nat} {ln : Nat → Nat} {zs : List Value} {vp vo vd : Value} (hi : i < D.N) (hc : ∀ k, k < i → bl' k = bl k) (hl : i + zs.length = D.N)
    (h : AS D w3 wr bl' bw bh (i + 1) ln (((List.range i).map (ptrK bl) ++ zs).set i (ptrK bl' i)) ((opnL D i).map (ptrK bl) ++ if (D.rw i).opn then [ptrK bl' i] else []) ((dueL D i).map (ptrK bl) ++ if (D.rw i).due then [ptrK bl' i] else []) vp vo vd) :
    AS D w3 wr bl' bw bh (i + 1) ln ((List.range (i + 1)).map (ptrK bl') ++ zs.drop 1) ((opnL D (i + 1)).map (ptrK bl')) ((dueL D (i + 1)).map (ptrK bl')) vp vo vd := by
  have e0 : ∀ l : List Nat, (∀ k, k ∈ l → k < i) → l.map (ptrK bl) = l.map (ptrK bl') := fun l hl => List.map_congr_left (fun k hk => by unfold ptrK; rw [hc k (hl k hk)])
  have e1 : ((List.range i).map (ptrK bl) ++ zs).set i (ptrK bl' i) = (List.range (i + 1)).map (ptrK bl') ++ zs.drop 1 := by
    rw [e0 _ (fun k hk => List.mem_range.1 hk), List.set_append_right _ _ (by simp), List.length_map, List.length_range, Nat.sub_self, List.range_succ, List.map_append]
    cases zs with
    | nil => simp at hl; omega
    | cons z zs => simp
  have e2 : (opnL D i).map (ptrK bl) ++ (if (D.rw i).opn then [ptrK bl' i] else []) = (opnL D (i + 1)).map (ptrK bl') := by
    rw [e0 (opnL D i) (fun k hk => List.mem_range.1 (List.mem_filter.1 hk).1), opnL_succ, List.map_append]
    cases (D.rw i).opn <;> simp
  have e3 : (dueL D i).map (ptrK bl) ++ (if (D.rw i).due then [ptrK bl' i] else []) = (dueL D (i + 1)).map (ptrK bl') := by
    rw [e0 (dueL D i) (fun k hk => List.mem_range.1 (List.mem_filter.1 hk).1), dueL_succ, List.map_append]
    cases (D.rw i).due <;> simp
  rw [e1, e2, e3] at h
  exact h

/-- After the accounts. -/
structure St3 (D : Dat) (w0 : World) (ev vl vp vo vd : Value) (bl bw bh : Nat → Nat) (a : Act) (w : World) : Prop where
  fr : Fr D a
  h9 : a.tmps[9]? = some (.int .i64 D.n)
  h10 : a.tmps[10]? = some ev
  h13 : a.tmps[13]? = some vl
  h15 : a.tmps[15]? = some vp
  h16 : a.tmps[16]? = some vo
  h17 : a.tmps[17]? = some vd
  er : ERow w w0.heap.size ev D.n (ev0 D).flatten
  lr : w.ownsRow w0.heap.size 3 1 vl (dueL D D.N).length (lineRow (lineS D))
  bl0 : Below w0.heap.size w0 w
  asx : AS D w0 w bl bw bh D.N (lnN D) ((List.range D.N).map (ptrK bl)) ((opnL D D.N).map (ptrK bl)) ((dueL D D.N).map (ptrK bl)) vp vo vd

end Go.Proofs.Ybulkehxo
