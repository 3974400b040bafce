/-
  FOR LawS6709CWhole: the law, from its stages.
-/
import Derived.Test.YbulkehxoCI4
import Derived.Test.YbulkehxoCB
import Derived.Test.YbulkehxoCE
import Derived.Test.YbulkehxoCF2
import Derived.Test.YbulkehxoCH
namespace Go.Proofs.Ybulkehxo
open Go.RowKit

theorem tail_all (D : Dat) (w0 : World) (hI : Inp D w0) (R : Ending → World → Prop) (hK : ∀ w, Below w0.heap.size w0 w → R (.returned (.bool true)) w) (ev : Value) (a : Act) (w : World) (hs : St1 D w0 ev a w) :
    (cutAt 5 (lawCode Yba.f4)).wp Yba.prog (bodyPost Yba.prog Yba.f4 R) a w :=
  stageB D w0 hI _ ev a w hs fun vl _ _ h2 =>
    stageC D w0 hI _ ev vl _ _ h2 fun vp vo vd bl bw bh _ _ h3 =>
      stageD D w0 hI _ ev vl vp vo vd bl bw bh _ _ h3 fun _ _ _ _ _ _ _ _ w5 h4 hR =>
        stageE D w0 hI R _ _ _ _ _ _ _ _ _ _ _ w5 h4 hR fun _ _ _ _ h5 hW =>
          stageF D w0 hI R _ _ _ _ _ _ _ _ _ _ _ _ _ w5 _ h5 hR hW fun _ _ h6 hB6 =>
            stageG D w0 hI R _ _ _ _ _ _ _ _ _ _ _ w5 _ h6 hR hB6 fun _ _ h7 hB7 =>
              stageH D w0 hI R _ _ _ _ _ _ _ _ _ _ _ w5 _ h7 hR hB7 fun w8 hB8 => hK w8 (hR.below.trans (below_down hB8 hR.below.size))

set_option maxRecDepth 1000000 in
set_option maxHeartbeats 4000000 in
theorem law_long (now hop : Int) (a2 a3 : Option Addr) (n N c2 c3 : Nat) (w : World) (b2 : n ≤ 140737488355328) (b3 : N ≤ 140737488355328) (hs : 4096 < n + N) :
    Calls Yba.prog 4 #[.int .i64 now, .int .i64 hop, .slice a2 n c2, .slice a3 N c3] w fun e w' => e = .returned (.bool true) ∧ Below w.heap.size w w' := by
  go_enter Yba.func4, Yba.ntmps4
  go_wp2_with fail
  go_ret
  exact ⟨rfl, Below.refl _ _⟩

theorem tail4 (D : Dat) (w0 : World) (hI : Inp D w0) (R : Ending → World → Prop) (hK : ∀ w, Below w0.heap.size w0 w → R (.returned (.bool true)) w) (g : Nat) (zs : List Value) (a : Act) (w : World) (hf : Fr D a) (h9 : a.tmps[9]? = some (.int .i64 D.n)) (h10 : a.tmps[10]? = some (.slice (some ⟨g, 0, none⟩) D.n D.n))
    (hr : ERow w w0.heap.size (.slice (some ⟨g, 0, none⟩) D.n D.n) D.n zs) (hB : Below w0.heap.size w0 w) : (cutAt 4 (lawCode Yba.f4)).wp Yba.prog (bodyPost Yba.prog Yba.f4 R) a w := by
  have e : cutAt 4 (lawCode Yba.f4) = .seq (itemAt 4 (lawCode Yba.f4)) (cutAt 5 (lawCode Yba.f4)) := rfl
  rw [e]
  exact wp_seq (item4 D w0 hI _ g zs a w hf h9 h10 hr hB (fun a w hs => tail_all D w0 hI R hK _ a w hs))

set_option maxRecDepth 1000000 in
set_option maxHeartbeats 8000000 in
theorem law_main (D : Dat) (w : World) (hI : Inp D w) :
    Calls Yba.prog 4 #[.int .i64 D.now, .int .i64 D.hop, .slice D.a2 D.n D.c2, .slice D.a3 D.N D.c3] w fun e w' => e = .returned (.bool true) ∧ Below w.heap.size w w' := by
  have hsz := hI.sz
  obtain ⟨i50, hi50, hz0', hz1, hz2⟩ := info_parts info50
  obtain ⟨zv, hz0, hzc⟩ : ∃ zv, i50.zero = some zv ∧ zv.cells.size = 14 := ⟨_, hz0', rfl⟩
  clear hz0'
  have hT := tail4 D w hI (fun e w' => e = .returned (.bool true) ∧ Below w.heap.size w w') (fun _ h => ⟨rfl, h⟩)
  go_enter Yba.func4, Yba.ntmps4
  have e : lawCode Yba.f4 = .seq (itemAt 0 (lawCode Yba.f4)) (.seq (itemAt 1 (lawCode Yba.f4)) (.seq (itemAt 2 (lawCode Yba.f4)) (.seq (itemAt 3 (lawCode Yba.f4)) (cutAt 4 (lawCode Yba.f4))))) := rfl
  refine (show Code.wp Yba.prog (lawCode Yba.f4) _ _ _ from ?_)
  rw [e]
  clear e
  generalize cutAt 4 (lawCode Yba.f4) = c4 at hT ⊢
  have HT : Hid _ := hT
  clear hT
  conv => arg 2; arg 1; whnf
  conv => arg 2; arg 2; arg 1; whnf
  conv => arg 2; arg 2; arg 2; arg 1; whnf
  conv => arg 2; arg 2; arg 2; arg 2; arg 1; whnf
  go_wp2_with (at_make; refine wpList_make_full _ rfl _ _ 45 rfl w.heap.size 50 i50 _ 14 Yba.underlying45 hi50 hz0 hz1 .i64 .i64 _ _ D.n rfl rfl rfl rfl (by rw [hz2]; omega) (by unfold maxLen; omega) (Nat.le_refl _) ?_; intro w4 hP4 hG4)
  have hB4 : Below w.heap.size w w4 := ⟨hG4.os, hG4.tape, hG4.output, hG4.size, fun k hk => hG4.block k hk (by simp)⟩
  refine HT.out w.heap.size _ _ _ ?_ ?_ ?_ hP4 hB4
  · exact ⟨rfl, rfl, rfl, rfl, rfl, rfl⟩
  · rfl
  · rfl
end Go.Proofs.Ybulkehxo
