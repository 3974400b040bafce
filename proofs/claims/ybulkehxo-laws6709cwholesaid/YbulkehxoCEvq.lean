/-
  FOR LawS6709CWhole: an event's cells; zzs6709cevq.
-/
import Derived.Test.YbulkehxoCLeaf
namespace Go.Proofs.Ybulkehxo
open Go.RowKit

/-- An event's cells. -/
def evC (at_ : Int) (kind name : ByteArray) (msgs : Int) (hops : Nat) (fo : ByteArray) : List Value :=
  [.int .i64 at_, .string kind, .string name, .string ⟨#[]⟩, .int .u8 0, .slice none 0 0, .bool false, .string ⟨#[]⟩, .string ⟨#[]⟩, .int .i64 0, .int .i64 0, .int .i64 msgs, .float .f64 hops, .string fo]

theorem eql43 (w : World) : (binOp .eql 43 (.slice none 0 0) (.slice none 0 0)).run Yba.prog w = .ok (.bool true) w := Lib.run_eql_slice_nil_nil w 0 0 Yba.underlying43
attribute [local go_sem] eql43

set_option maxRecDepth 100000 in
set_option maxHeartbeats 2000000 in
theorem evq_any {o : Option Nat} (at_ : Int) (kind name : ByteArray) (msgs : Int) (x y : Nat) (fo : ByteArray) (w : World) (hx : Fits o x) (hy : Fits o y) :
    Calls Yba.prog 14 #[.agg #[.int .i64 at_, .string kind, .string name, .string ⟨#[]⟩, .int .u8 0, .slice none 0 0, .bool false, .string ⟨#[]⟩, .string ⟨#[]⟩, .int .i64 0, .int .i64 0, .int .i64 msgs, .float .f64 x, .string fo], .agg #[.int .i64 at_, .string kind, .string name, .string ⟨#[]⟩, .int .u8 0, .slice none 0 0, .bool false, .string ⟨#[]⟩, .string ⟨#[]⟩, .int .i64 0, .int .i64 0, .int .i64 msgs, .float .f64 y, .string fo]] w
      fun e w' => e = .returned (.bool true) ∧ Below w.heap.size w w' := by
  have hbl : Below w.heap.size w ((w.alloc (.cells (evC at_ kind name msgs x fo).toArray 50)).alloc (.cells (evC at_ kind name msgs y fo).toArray 50)) := ((Below.refl _ w).alloc (Nat.le_refl _) _).alloc (by simp) _
  unfold evC at hbl
  have HB : Hid _ := hbl
  clear hbl
  go_enter Yba.func14, Yba.ntmps14
  go_wp2_with fail
  refine (equal_nil _).mono ?_
  rintro e w' ⟨rfl, rfl⟩
  go_wp2_with fail
  refine (csame_any x y _ hx hy).mono ?_
  rintro e w' ⟨rfl, rfl⟩
  go_wp2_with fail
  go_ret
  exact ⟨rfl, HB.out⟩

end Go.Proofs.Ybulkehxo
