/-
  THE CLOSED FACTS that the walks over fmt's stopped front want (after the kit's LabelFmt.lean, at this program's numbers), and small laws on worlds.
-/
import Derived.Test.YbulkehxaFmtCards
import Derived.WalkKit
import Derived.WalkSpells
import Derived.Lib.AppendStr
import Derived.LaidEql
import Derived.WideLaws
import Derived.Stop.CallBack
import Derived.Stop.IfaceNil
import GoSem.ClaimData
namespace Go.Proofs.YbulkehxaFmt
open Go.Extern.Stop Go.Stop Go.Extern Go.RowKit

theorem call7 (args : Array Value) (w : World) : (callFunc 7 args).run Ybaf.prog w = ((FmtStop.sprintf #[9, 34] #[9] args).run Ybaf.prog w).andThen fun v w' => .ok (.value v) w' :=
  run_callFunc_extern Ybaf.func7 (by kernel_rfl) (by kernel_rfl) (by kernel_rfl) (by kernel_rfl) args w

theorem guard (name : String) (w : World) : (FmtStop.guard name).run Ybaf.prog w = .ok () w := by kernel_rfl

/-- "%d bytes that do not parse as a record, dropped" -/
theorem fmt0 : FmtStop.printed? ⟨#[37, 100, 32, 98, 121, 116, 101, 115, 32, 116, 104, 97, 116, 32, 100, 111, 32, 110, 111, 116, 32, 112, 97, 114, 115, 101, 32, 97, 115, 32, 97, 32, 114, 101, 99, 111, 114, 100, 44, 32, 100, 114, 111, 112, 112, 101, 100]⟩ 1 = some [(0, 100, false)] := by kernel_rfl
theorem fmt0r (w : World) : (FmtDoors.printed ⟨#[37, 100, 32, 98, 121, 116, 101, 115, 32, 116, 104, 97, 116, 32, 100, 111, 32, 110, 111, 116, 32, 112, 97, 114, 115, 101, 32, 97, 115, 32, 97, 32, 114, 101, 99, 111, 114, 100, 44, 32, 100, 114, 111, 112, 112, 101, 100]⟩ 1).run Ybaf.prog w = .ok [(0, 100, false)] w := by kernel_rfl

theorem name3 : Ybaf.prog.typeName? 3 3 = some "int" := by kernel_rfl
def shape3 : List UInt8 := [5, 3, 0, 0, 0, 0, 0, 0, 0, 105, 110, 116]
theorem op3_100 (name : String) (x : Int) (w : World) : (FmtStop.operand name false 100 false (.iface 3 (.int .i64 x))).run Ybaf.prog w = .ok (shape3, Go.Extern.Stop.digits 8 (x % 2 ^ 64).toNat) w := by kernel_rfl
theorem strict3 (name : String) (x : Int) (w : World) : (FmtStop.strict name (.iface 3 (.int .i64 x))).run Ybaf.prog w = .ok (shape3, Go.Extern.Stop.digits 8 (x % 2 ^ 64).toNat) w := by kernel_rfl

theorem info5 : (Ybaf.prog.info? 5).map (fun i => (i.zero, i.size, i.bytes)) = some (some (.int .u8 0), 1, 1) := by kernel_rfl

/-- WHAT fmt IS ASKED. -/
def reading (n : Int) : List (List UInt8) :=
  [[37, 100, 32, 98, 121, 116, 101, 115, 32, 116, 104, 97, 116, 32, 100, 111, 32, 110, 111, 116, 32, 112, 97, 114, 115, 101, 32, 97, 115, 32, 97, 32, 114, 101, 99, 111, 114, 100, 44, 32, 100, 114, 111, 112, 112, 101, 100], shape3, digits 8 (n % 18446744073709551616).toNat]

/-- A line: its five cells, in one block that nothing froze. -/
def IsLine (w : World) (bl : Nat) (tv v : Value) (sz cov parts : Int) : Prop :=
  w.heap[bl]? = some (.cells #[tv, v, .int .i64 sz, .int .i64 cov, .int .i64 parts] 31 (0, 0))

theorem IsLine.c0 {w : World} {bl : Nat} {tv v : Value} {sz cov parts : Int} (h : IsLine w bl tv v sz cov parts) : w.cell? ⟨bl, 0, none⟩ = some tv := by unfold IsLine at h; simp [World.cell?, h]
theorem IsLine.c1 {w : World} {bl : Nat} {tv v : Value} {sz cov parts : Int} (h : IsLine w bl tv v sz cov parts) : w.cell? ⟨bl, 1, none⟩ = some v := by unfold IsLine at h; simp [World.cell?, h]
theorem IsLine.c2 {w : World} {bl : Nat} {tv v : Value} {sz cov parts : Int} (h : IsLine w bl tv v sz cov parts) : w.cell? ⟨bl, 2, none⟩ = some (.int .i64 sz) := by unfold IsLine at h; simp [World.cell?, h]
theorem IsLine.c3 {w : World} {bl : Nat} {tv v : Value} {sz cov parts : Int} (h : IsLine w bl tv v sz cov parts) : w.cell? ⟨bl, 3, none⟩ = some (.int .i64 cov) := by unfold IsLine at h; simp [World.cell?, h]
theorem IsLine.c4 {w : World} {bl : Nat} {tv v : Value} {sz cov parts : Int} (h : IsLine w bl tv v sz cov parts) : w.cell? ⟨bl, 4, none⟩ = some (.int .i64 parts) := by unfold IsLine at h; simp [World.cell?, h]
theorem IsLine.fr {w : World} {bl : Nat} {tv v : Value} {sz cov parts : Int} (h : IsLine w bl tv v sz cov parts) (j : Nat) : w.frozen? ⟨bl, j, none⟩ = false := by unfold IsLine at h; simp [World.frozen?, h]
theorem IsLine.lt {w : World} {bl : Nat} {tv v : Value} {sz cov parts : Int} (h : IsLine w bl tv v sz cov parts) : bl < w.heap.size := lt_of_block h
theorem IsLine.set1 {w : World} {bl : Nat} {tv v : Value} {sz cov parts : Int} (h : IsLine w bl tv v sz cov parts) (v' : Value) : IsLine (w.setCell ⟨bl, 1, none⟩ v') bl tv v' sz cov parts := by
  unfold IsLine at *; rw [heap_setCell_same w bl 1 _ _ v' h]; rfl
theorem IsLine.set3 {w : World} {bl : Nat} {tv v : Value} {sz cov parts : Int} (h : IsLine w bl tv v sz cov parts) (x : Int) : IsLine (w.setCell ⟨bl, 3, none⟩ (.int .i64 x)) bl tv v sz x parts := by
  unfold IsLine at *; rw [heap_setCell_same w bl 3 _ _ _ h]; rfl
theorem IsLine.set4 {w : World} {bl : Nat} {tv v : Value} {sz cov parts : Int} (h : IsLine w bl tv v sz cov parts) (x : Int) : IsLine (w.setCell ⟨bl, 4, none⟩ (.int .i64 x)) bl tv v sz cov x := by
  unfold IsLine at *; rw [heap_setCell_same w bl 4 _ _ _ h]; rfl
/-- The line's block is no row of bytes. -/
theorem IsLine.ne {w : World} {bl : Nat} {tv v : Value} {sz cov parts : Int} (h : IsLine w bl tv v sz cov parts) {base n : Nat} {u : Value} {xs : List Value} (ho : w.ownsRow base 5 1 u n xs) : u.ownBlock ≠ some bl := by
  unfold IsLine at h
  rcases ho.2 with ⟨rfl, _⟩ | ⟨g, cap, cur, rfl, _, hg, _⟩
  · simp [Value.ownBlock]
  · intro e
    simp [Value.ownBlock] at e
    subst e
    rw [hg] at h
    simp at h
theorem IsLine.grown {w w' : World} {bl : Nat} {tv v : Value} {sz cov parts : Int} (h : IsLine w bl tv v sz cov parts) {row : Option Nat} (hg : w.grownBy w' row) (hne : row ≠ some bl) : IsLine w' bl tv v sz cov parts := by
  have hl := h.lt
  unfold IsLine at *
  rw [hg.block bl hl (fun e => hne e.symm)]
  exact h

/-- What a call on a line leaves of the rest of memory: every block below 'base' (but the line's own), and every block that is no row of bytes. -/
structure Stays (w w' : World) (base bl : Nat) : Prop where
  os : w'.os = w.os
  tape : w'.tape = w.tape
  output : w'.output = w.output
  size : w.heap.size ≤ w'.heap.size
  below : ∀ k, k < base → k ≠ bl → w'.heap[k]? = w.heap[k]?
  other : ∀ k cur t fr, w.heap[k]? = some (.cells cur t fr) → t ≠ 5 → k ≠ bl → w'.heap[k]? = some (.cells cur t fr)

theorem Stays.refl (w : World) (base bl : Nat) : Stays w w base bl := ⟨rfl, rfl, rfl, Nat.le_refl _, fun _ _ _ => rfl, fun _ _ _ _ h _ _ => h⟩
theorem Stays.trans {w w1 w2 : World} {base bl : Nat} (h : Stays w w1 base bl) (g : Stays w1 w2 base bl) : Stays w w2 base bl :=
  ⟨g.os.trans h.os, g.tape.trans h.tape, g.output.trans h.output, Nat.le_trans h.size g.size, fun k a b => (g.below k a b).trans (h.below k a b), fun k cur t fr a b c => g.other k cur t fr (h.other k cur t fr a b c) b c⟩
theorem Stays.of_grown {w w' : World} {base bl n : Nat} {v : Value} {xs : List Value} (ho : w.ownsRow base 5 1 v n xs) (hb : base ≤ w.heap.size) (hg : w.grownBy w' v.ownBlock) : Stays w w' base bl := by
  refine ⟨hg.os, hg.tape, hg.output, hg.size, fun k h1 _ => hg.block k (by omega) (fun e => ?_), fun k cur t fr h1 h2 _ => ?_⟩
  · have := (ho.lt k e.symm).1
    omega
  · rw [hg.block k (lt_of_block h1) (fun e => ?_)]
    · exact h1
    · rcases ho.2 with ⟨rfl, _⟩ | ⟨g, cap, cur', rfl, _, hh, _⟩
      · simp [Value.ownBlock] at e
      · simp [Value.ownBlock] at e
        subst e
        rw [hh] at h1
        simp at h1
        exact h2 h1.2.1.symm
theorem Stays.setCell {w w' : World} {base bl : Nat} (h : Stays w w' base bl) (j : Nat) (v : Value) : Stays w (w'.setCell ⟨bl, j, none⟩ v) base bl :=
  ⟨h.os, h.tape, h.output, by simpa using h.size, fun k h1 h2 => (Below.heap_setCell _ _ _ _ h2).trans (h.below k h1 h2), fun k cur t fr h1 h2 h3 => (Below.heap_setCell _ _ _ _ h3).trans (h.other k cur t fr h1 h2 h3)⟩
theorem Stays.alloc {w w' : World} {base bl : Nat} (h : Stays w w' base bl) (hb : base ≤ w.heap.size) (o : Obj) : Stays w (w'.alloc o) base bl :=
  ⟨h.os, h.tape, h.output, by have := h.size; simp; omega, fun k h1 h2 => (Below.heap_alloc _ _ _ (by have := h.size; omega)).trans (h.below k h1 h2),
    fun k cur t fr h1 h2 h3 => (Below.heap_alloc _ _ _ (lt_of_block (h.other k cur t fr h1 h2 h3))).trans (h.other k cur t fr h1 h2 h3)⟩
theorem Stays.toBelow {w w' : World} {base bl : Nat} (h : Stays w w' base bl) (hb : base ≤ bl) : Below base w w' :=
  ⟨h.os, h.tape, h.output, h.size, fun k hk => h.below k hk (by omega)⟩

section
variable {P : Program} (w : World)
/-- '==' between two pointers to one place. -/
theorem run_equalIn_ptr_same (d : Nat) {t e : TypeId} {j : TypeInfo} (a : Addr) (hp : P.underlying t = some (.pointer e)) (hte : P.info? e = some j) :
    (Op.equalIn (d + 1) t (.pointer (some a)) (.pointer (some a))).run P w = .ok true w := by
  simp [Op.equalIn, run_underlying hp, typeInfo, sizeOf, run_sameAddr_same, hte]
theorem run_equal_ptr_same {t e : TypeId} {j : TypeInfo} (a : Addr) (hp : P.underlying t = some (.pointer e)) (hte : P.info? e = some j) :
    (Op.equal t (.pointer (some a)) (.pointer (some a))).run P w = .ok true w := run_equalIn_ptr_same w 9999 a hp hte
theorem run_neq_ptr_same {t e : TypeId} {j : TypeInfo} (a : Addr) (hp : P.underlying t = some (.pointer e)) (hte : P.info? e = some j) :
    (binOp .neq t (.pointer (some a)) (.pointer (some a))).run P w = .ok (.bool false) w := by
  simp only [binOp]
  simp [run_equal_ptr_same w a hp hte]
end

theorem info29 : ∃ j, Ybaf.prog.info? 29 = some j := Option.isSome_iff_exists.1 (by kernel_rfl)
theorem neq25 (a : Addr) (w : World) : (binOp .neq 25 (.pointer (some a)) (.pointer (some a))).run Ybaf.prog w = .ok (.bool false) w := by
  obtain ⟨j, hj⟩ := info29
  exact run_neq_ptr_same w a Ybaf.underlying25 hj

theorem owns_shape {w : World} {base : Nat} {v : Value} {n : Nat} {xs : List Value} (h : w.ownsRow base 5 1 v n xs) (hn : 0 < n) : ∃ g cap, v = .slice (some ⟨g, 0, none⟩) n cap := by
  rcases h.2 with ⟨_, rfl⟩ | ⟨g, cap, cur, rfl, _⟩
  · omega
  · exact ⟨g, cap, rfl⟩

end Go.Proofs.YbulkehxaFmt
