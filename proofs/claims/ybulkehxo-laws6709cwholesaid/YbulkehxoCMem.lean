/-
  FOR LawS6709CWhole: accounts, transactions, the run in memory; what a call leaves alone.
-/
import Derived.Test.YbulkehxoCDel
import Derived.Test.YbulkehxoCPlain
import Derived.Test.YbulkehxoCIns2
namespace Go.Proofs.Ybulkehxo
open Go.RowKit

/-- An account's data. -/
structure Conf where
  waiter : ByteArray
  holder : ByteArray
  at_ : Int
  last : Int
  msgs : Int

def CB (w : World) (b : Nat) (num : Int) (bw bh : Nat) (at_ msgs last line : Int) : Prop :=
  w.heap[b]? = some (.cells #[.int .u64 num, .pointer (some ⟨bw, 0, none⟩), .pointer (some ⟨bh, 0, none⟩), .int .i64 0, .int .i64 at_, .int .i64 msgs, .int .i64 last, .int .i64 0, .int .i64 line] 71 (0, 0))
section
variable {w : World} {b : Nat} {num : Int} {bw bh : Nat} {at_ msgs last line : Int}
theorem CB.c0 (h : CB w b num bw bh at_ msgs last line) : w.cell? ⟨b, 0, none⟩ = some (.int .u64 num) := by unfold CB at h; simp [World.cell?, h]
theorem CB.c1 (h : CB w b num bw bh at_ msgs last line) : w.cell? ⟨b, 1, none⟩ = some (.pointer (some ⟨bw, 0, none⟩)) := by unfold CB at h; simp [World.cell?, h]
theorem CB.c2 (h : CB w b num bw bh at_ msgs last line) : w.cell? ⟨b, 2, none⟩ = some (.pointer (some ⟨bh, 0, none⟩)) := by unfold CB at h; simp [World.cell?, h]
theorem CB.c4 (h : CB w b num bw bh at_ msgs last line) : w.cell? ⟨b, 4, none⟩ = some (.int .i64 at_) := by unfold CB at h; simp [World.cell?, h]
theorem CB.c5 (h : CB w b num bw bh at_ msgs last line) : w.cell? ⟨b, 5, none⟩ = some (.int .i64 msgs) := by unfold CB at h; simp [World.cell?, h]
theorem CB.c6 (h : CB w b num bw bh at_ msgs last line) : w.cell? ⟨b, 6, none⟩ = some (.int .i64 last) := by unfold CB at h; simp [World.cell?, h]
theorem CB.c7 (h : CB w b num bw bh at_ msgs last line) : w.cell? ⟨b, 7, none⟩ = some (.int .i64 0) := by unfold CB at h; simp [World.cell?, h]
theorem CB.c8 (h : CB w b num bw bh at_ msgs last line) : w.cell? ⟨b, 8, none⟩ = some (.int .i64 line) := by unfold CB at h; simp [World.cell?, h]
theorem CB.lt (h : CB w b num bw bh at_ msgs last line) : b < w.heap.size := lt_of_block h
theorem CB.kept {w' : World} (h : CB w b num bw bh at_ msgs last line) (e : w'.heap[b]? = w.heap[b]?) : CB w' b num bw bh at_ msgs last line := by unfold CB at *; rw [e]; exact h
end

def TB (w : World) (b : Nat) (name : ByteArray) : Prop := ∃ cur : Array Value, w.heap[b]? = some (.cells cur 69 (0, 0)) ∧ cur[0]? = some (.string name)
theorem TB.c0 {w : World} {b : Nat} {name : ByteArray} (h : TB w b name) : w.cell? ⟨b, 0, none⟩ = some (.string name) := by
  obtain ⟨cur, h1, h2⟩ := h
  rw [cell_of_row w b _ cur 69 (0, 0) h1]
  exact h2
theorem TB.lt {w : World} {b : Nat} {name : ByteArray} (h : TB w b name) : b < w.heap.size := by
  obtain ⟨cur, h1, h2⟩ := h
  exact lt_of_block h1
theorem TB.kept {w w' : World} {b : Nat} {name : ByteArray} (h : TB w b name) (e : w'.heap[b]? = w.heap[b]?) : TB w' b name := by
  obtain ⟨cur, h1, h2⟩ := h
  exact ⟨cur, e.trans h1, h2⟩

def RB (w : World) (b : Nat) (now : Int) (ev : Value) (hop : Int) (op vd : Value) : Prop :=
  w.heap[b]? = some (.cells #[.pointer none, .nilIface, .slice none 0 0, .int .i64 now, ev, .slice none 0 0, .slice none 0 0, .slice none 0 0, .int .i64 0, .slice none 0 0, .int .u64 0, .slice none 0 0, .int .i64 0, .nilIface, .int .i64 hop, op, vd] 88 (0, 0))
section
variable {w : World} {b : Nat} {now : Int} {ev : Value} {hop : Int} {op vd : Value}
theorem RB.c3 (h : RB w b now ev hop op vd) : w.cell? ⟨b, 3, none⟩ = some (.int .i64 now) := by unfold RB at h; simp [World.cell?, h]
theorem RB.c4 (h : RB w b now ev hop op vd) : w.cell? ⟨b, 4, none⟩ = some ev := by unfold RB at h; simp [World.cell?, h]
theorem RB.c14 (h : RB w b now ev hop op vd) : w.cell? ⟨b, 14, none⟩ = some (.int .i64 hop) := by unfold RB at h; simp [World.cell?, h]
theorem RB.c15 (h : RB w b now ev hop op vd) : w.cell? ⟨b, 15, none⟩ = some op := by unfold RB at h; simp [World.cell?, h]
theorem RB.c16 (h : RB w b now ev hop op vd) : w.cell? ⟨b, 16, none⟩ = some vd := by unfold RB at h; simp [World.cell?, h]
theorem RB.fr (h : RB w b now ev hop op vd) (j : Nat) : w.frozen? ⟨b, j, none⟩ = false := by unfold RB at h; simp [World.frozen?, h]
theorem RB.lt (h : RB w b now ev hop op vd) : b < w.heap.size := lt_of_block h
theorem RB.s4 (h : RB w b now ev hop op vd) (x : Value) : RB (w.setCell ⟨b, 4, none⟩ x) b now x hop op vd := by unfold RB at *; rw [heap_setCell_same w b 4 _ _ _ h]; rfl
theorem RB.s15 (h : RB w b now ev hop op vd) (x : Value) : RB (w.setCell ⟨b, 15, none⟩ x) b now ev hop x vd := by unfold RB at *; rw [heap_setCell_same w b 15 _ _ _ h]; rfl
theorem RB.s16 (h : RB w b now ev hop op vd) (x : Value) : RB (w.setCell ⟨b, 16, none⟩ x) b now ev hop op x := by unfold RB at *; rw [heap_setCell_same w b 16 _ _ _ h]; rfl
theorem RB.kept {w' : World} (h : RB w b now ev hop op vd) (e : w'.heap[b]? = w.heap[b]?) : RB w' b now ev hop op vd := by unfold RB at *; rw [e]; exact h
end

/-- Account k as it lies. -/
structure Acc (w : World) (bl bw bh : Nat → Nat) (cf : Nat → Conf) (ln : Nat → Nat) (k : Nat) : Prop where
  cb : CB w (bl k) k (bw k) (bh k) (cf k).at_ (cf k).msgs (cf k).last (ln k)
  tw : TB w (bw k) (cf k).waiter
  th : TB w (bh k) (cf k).holder

/-- What resolve leaves alone: all but the run, open's own row, rows of events. -/
structure Kept (w w' : World) (base br : Nat) (op : Value) : Prop where
  below : Below base w w'
  block : ∀ k, k < w.heap.size → k ≠ br → op.ownBlock ≠ some k → (∀ cur, w.heap[k]? ≠ some (.cells cur 50 (0, 0))) → w'.heap[k]? = w.heap[k]?
theorem Kept.refl (w : World) (base br : Nat) (op : Value) : Kept w w base br op := ⟨Below.refl _ _, fun _ _ _ _ _ => rfl⟩
theorem Kept.step {w w1 w2 : World} {base br : Nat} {op : Value} (h : Kept w w1 base br op) (g : Below base w1 w2)
    (hb : ∀ k, k < w.heap.size → k ≠ br → op.ownBlock ≠ some k → (∀ cur, w1.heap[k]? ≠ some (.cells cur 50 (0, 0))) → w2.heap[k]? = w1.heap[k]?) : Kept w w2 base br op :=
  ⟨h.below.trans g, fun k h1 h2 h3 h4 => by
    have e := h.block k h1 h2 h3 h4
    rw [hb k h1 h2 h3 (fun cur q => h4 cur (by rw [← e]; exact q)), e]⟩
theorem Kept.cb {w w' : World} {base br : Nat} {op : Value} (h : Kept w w' base br op) {b : Nat} {ca : Array Value} {t : TypeId} (hb : w.heap[b]? = some (.cells ca t (0, 0))) (ht : t ≠ 50) (hbr : b ≠ br) (ho : op.ownBlock ≠ some b) : w'.heap[b]? = w.heap[b]? :=
  h.block b (lt_of_block hb) hbr ho (fun cur q => by rw [hb] at q; injection q with q; injection q with _ q; exact ht q)

theorem own_shape {w : World} {base size n : Nat} {e : TypeId} {v : Value} {xs : List Value} (h : w.ownsRow base e size v n xs) : ∃ a c, v = .slice a n c := by
  rcases h.2 with ⟨rfl, rfl⟩ | ⟨g, cap, cur, rfl, _⟩
  · exact ⟨_, _, rfl⟩
  · exact ⟨_, _, rfl⟩
theorem own_ne {w : World} {base size n : Nat} {e : TypeId} {v : Value} {xs : List Value} (h : w.ownsRow base e size v n xs) {b : Nat} {ca : Array Value} {t : TypeId} (hb : w.heap[b]? = some (.cells ca t (0, 0))) (ht : t ≠ e) : v.ownBlock ≠ some b := by
  rcases h.2 with ⟨rfl, _⟩ | ⟨g, cap, cur, rfl, _, q, _⟩
  · simp [Value.ownBlock]
  · intro e1
    simp [Value.ownBlock] at e1
    subst e1
    rw [hb] at q
    injection q with q
    injection q with _ q
    exact ht q
theorem type_ne {w : World} {b b' : Nat} {ca ca' : Array Value} {t t' : TypeId} (h : w.heap[b]? = some (.cells ca t (0, 0))) (h' : w.heap[b']? = some (.cells ca' t' (0, 0))) (ht : t ≠ t') : b ≠ b' := by
  intro e
  subst e
  rw [h] at h'
  injection h' with q
  injection q with _ q
  exact ht q

end Go.Proofs.Ybulkehxo
