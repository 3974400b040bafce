/-
  FOR LawS6714AWhole: the law's walk.
-/
import Derived.Test.YbulkeiagCheck
namespace Go.Proofs.Ybulkeiag
open Go.RowKit

/-- The script: element i's two cells. -/
def Steps (w : World) (a : Option Addr) (len : Nat) : Prop := ∀ i, i < len → ∃ ad o x, a = some ad ∧ w.cell? (ad.add (i * 2)) = some (.int .u8 o) ∧ w.cell? (ad.add (i * 2 + 1)) = some (.int .i64 x) ∧ 0 ≤ o ∧ o ≤ 255 ∧ -9223372036854775808 ≤ x ∧ x ≤ 9223372036854775807

section
variable {P : Program} (w : World)
theorem run_equalIn_ptr_same (n : Nat) {t e : TypeId} {j : TypeInfo} (a : Addr) (hp : P.underlying t = some (.pointer e)) (hte : P.info? e = some j) :
    (Op.equalIn (n + 1) t (.pointer (some a)) (.pointer (some a))).run P w = .ok true w := by
  simp [Op.equalIn, run_underlying hp, typeInfo, sizeOf, run_sameAddr_same, hte]
theorem run_neq_ptr_same {t e : TypeId} {j : TypeInfo} (a : Addr) (hp : P.underlying t = some (.pointer e)) (hte : P.info? e = some j) :
    (binOp .neq t (.pointer (some a)) (.pointer (some a))).run P w = .ok (.bool false) w := by
  have h : (Op.equal t (.pointer (some a)) (.pointer (some a))).run P w = .ok true w := run_equalIn_ptr_same w 9999 a hp hte
  simp only [binOp]
  simp [h]
end
theorem neq37 (a : Addr) (w : World) : (binOp .neq 37 (.pointer (some a)) (.pointer (some a))).run Yba.prog w = .ok (.bool false) w := by
  obtain ⟨j, hj, _⟩ := info_parts info39
  exact run_neq_ptr_same w a Yba.underlying37 hj
attribute [local go_sem] neq37

theorem idx_any (x : Int) : ∃ j : Nat, j < 256 ∧ (IntKind.u64.wrap x).tmod 256 = (j : Int) := by
  have h0 := wrap_u64_nonneg x
  have h1 : (IntKind.u64.wrap x).tmod 256 = IntKind.u64.wrap x % 256 := Int.tmod_eq_emod_of_nonneg h0
  refine ⟨(IntKind.u64.wrap x % 256).toNat, by omega, by omega⟩

def marks : Array Value := Array.replicate 256 (.bool false)
theorem zero28 (w : World) : (zeroValue 28).run Yba.prog w = .ok (.agg marks) w := by kernel_rfl
attribute [local go_sem] zero28
theorem marks_get (i : Nat) (hi : i < 256) : marks[i]? = some (.bool false) := by
  unfold marks
  simp [hi]

theorem Inv.kept {w w' : World} {base bs : Nat} {pres : Nat → Bool} {p : Nat} {m : Option Nat} {v : Value} {l : Bool} (h : Inv w base bs pres p m v l) (g : Below w.heap.size w w') : Inv w' base bs pres p m v l :=
  ⟨h.sb.kept (g.block bs h.sb.lt), h.ge, h.pre, h.le, h.top, h.ahead.kept (But.of_below g), fun e => (h.runs e).kept (fun b _ _ hb => g.block b (lt_of_block hb))⟩
theorem Ahead.apart {w : World} {base bs bp : Nat} {pres pres' : Nat → Bool} {p : Nat} {m : Option Nat} (h : Ahead w base bs pres p m) (hp : PB w bp pres') : bp ∉ m.toList := by
  rcases h with ⟨rfl, _⟩ | ⟨bm, n, rfl, _, _, hm⟩
  · simp
  · obtain ⟨D, ⟨es, clock, hb, _⟩, _⟩ := hm
    obtain ⟨cur, hc, _⟩ := hp
    intro e
    simp at e
    subst e
    rw [hc] at hb
    injection hb with hb
    cases hb
theorem Inv.marked {w : World} {base bs bp : Nat} {pres pres' : Nat → Bool} {p : Nat} {m : Option Nat} {v : Value} {l : Bool} (h : Inv w base bs pres p m v l) (hp : PB w bp pres') (hne : bp ≠ bs) (i : Nat) (x : Value) : Inv (w.setCell ⟨bp, i, none⟩ x) base bs pres p m v l := by
  have ha := h.ahead.apart hp
  refine ⟨h.sb.kept (Below.heap_setCell _ _ _ _ (by show bs ≠ bp; omega)), h.ge, h.pre, h.le, h.top, ?_, fun e => (h.runs e).kept (fun b cur _ hb => Below.heap_setCell _ _ _ _ ?_)⟩
  · rcases h.ahead with q | ⟨bm, n, rfl, q1, q2, q3⟩
    · exact .inl q
    · exact .inr ⟨bm, n, rfl, q1, q2, q3.kept (Below.heap_setCell _ _ _ _ (by show bm ≠ bp; intro e; subst e; simp at ha))⟩
  · show b ≠ bp
    intro e
    subst e
    obtain ⟨cur', hc, _⟩ := hp
    rw [hc] at hb
    injection hb with hb
    injection hb with _ hb
    cases hb
/-- The zero set. -/
theorem Inv.zero {w : World} {base bs : Nat} (h : SB w bs 0 none (.slice none 0 0) false) (hb : base ≤ bs) : Inv w base bs (fun _ => false) 0 none (.slice none 0 0) false :=
  ⟨h, hb, ⟨fun i hi => by omega, rfl⟩, by omega, fun _ _ => rfl, .inl ⟨rfl, later_nil_of (fun _ _ => rfl)⟩, fun e => by cases e⟩

set_option maxHeartbeats 2000000 in
theorem law_long (a : Option Addr) (len cap : Nat) (w : World) (hl : 65536 < len) (hm : len ≤ maxLen) :
    Calls Yba.prog 3 #[.slice a len cap] w fun e w' => e = .returned (.bool true) ∧ Below w.heap.size w w' := by
  unfold maxLen at hm
  go_enter Yba.func3, Yba.ntmps3
  go_wp2
  go_ret
  exact ⟨rfl, Below.refl _ _⟩

set_option maxHeartbeats 2000000 in
theorem law_short (a : Option Addr) (len cap : Nat) (w : World) (hl : len ≤ 65536) (hs : Steps w a len) :
    Calls Yba.prog 3 #[.slice a len cap] w fun e w' => e = .returned (.bool true) ∧ Below w.heap.size w w' := by
  go_enter Yba.func3, Yba.ntmps3
  go_wp2_with fail
  go_loopw [16] (fun i wr => ∃ k : Nat, k ≤ len ∧ i = .int .i64 k ∧ (∃ pres p m v l, Inv wr w.heap.size w.heap.size pres p m v l ∧ PB wr (w.heap.size + 1) pres) ∧ Below w.heap.size w wr) (fun i _ => len - (intOf i).toNat)
  case atStart =>
    refine ⟨0, Nat.zero_le _, rfl, ⟨fun _ => false, 0, none, .slice none 0 0, false, Inv.zero ?_ (Nat.le_refl _), ?_⟩, ((Below.refl _ w).alloc (Nat.le_refl _) _).alloc (by simp) _⟩
    · exact (Below.heap_alloc _ _ _ (by simp)).trans (heap_alloc_new w _)
    · refine ⟨marks, ?_, marks_get⟩
      have := heap_alloc_new (w.alloc (.cells #[.int .i64 0, .map none, .slice none 0 0, .bool false] 27)) (.cells marks 28)
      simpa using this
  case round =>
    obtain ⟨k, hk, rfl, ⟨pres, p, m, v, l, hI, hP⟩, hbl⟩ := hrel
    by_cases hlt : k < len
    · obtain ⟨ad, o, x, rfl, hc0, hc1, ho0, ho1, hx0, hx1⟩ := hs k hlt
      have e0 : wr.cell? (ad.add (k * 2)) = some (.int .u8 o) := (hbl.cell (World.block_lt_of_cell? _ _ hc0)).trans hc0
      have e1 : wr.cell? (ad.add (k * 2 + 1)) = some (.int .i64 x) := (hbl.cell (World.block_lt_of_cell? _ _ hc1)).trans hc1
      have e2 : wr.cell? ⟨(ad.add (k * 2)).block, (ad.add (k * 2)).off + 1, none⟩ = some (.int .i64 x) := by
        have q : (ad.add (k * 2)).add 1 = ⟨(ad.add (k * 2)).block, (ad.add (k * 2)).off + 1, none⟩ := Addr.add_succ' _ 0
        rw [← q, Addr.add_add]
        exact e1
      clear hc0 hc1
      by_cases hop : o % 3 = 0
      · have hob : (o % 3 == 0) = true := by simp [hop]
        clear hop
        have hs1 : wr.heap.size < (wr.alloc (.cells #[.int .u8 o, .int .i64 x] 30)).heap.size := by simp
        have hI1 : Inv (wr.alloc (.cells #[.int .u8 o, .int .i64 x] 30)) w.heap.size w.heap.size pres p m v l := hI.kept ((Below.refl _ _).alloc (Nat.le_refl _) _)
        have hP1 : PB (wr.alloc (.cells #[.int .u8 o, .int .i64 x] 30)) (w.heap.size + 1) pres := hP.kept (Below.heap_alloc _ _ _ hP.lt)
        have hbl1 : Below w.heap.size w (wr.alloc (.cells #[.int .u8 o, .int .i64 x] 30)) := hbl.alloc hbl.size _
        have hz1 := hbl1.size
        go_wp2_with (first
          | (go_at_call 4; refine (runs_any _ hI1 hz1).mono ?_; rintro e w2 ⟨v2, rfl, hI2, hbut2, _⟩)
          | (go_at_call 5; refine (check_any _ hI2 (hP1.kept (hbut2.block _ hP1.lt (by simp)))).mono ?_; rintro e w3 ⟨rfl, hb3⟩))
        have hP2 : PB w2 (w.heap.size + 1) pres := hP1.kept (hbut2.block _ hP1.lt (by simp))
        have hbl2 : Below w.heap.size w w2 := hbl1.trans (hbut2.below hz1 (by simp))
        go_roundw
        case rel => exact ⟨k + 1, by omega, by go_num, ⟨pres, p, m, v2, true, hI2.kept hb3, hP2.kept (hb3.block _ hP2.lt)⟩, hbl2.trans (hb3.mono hbl2.size)⟩
        case measure => simp [intOf]; omega
      · have hob : (o % 3 == 0) = false := beq_eq_false_iff_ne.2 hop
        clear hop
        obtain ⟨j, hj, hjx⟩ := idx_any x
        have hs1 : wr.heap.size < (wr.alloc (.cells #[.int .u8 o, .int .i64 x] 30)).heap.size := by simp
        have hI1 : Inv (wr.alloc (.cells #[.int .u8 o, .int .i64 x] 30)) w.heap.size w.heap.size pres p m v l := hI.kept ((Below.refl _ _).alloc (Nat.le_refl _) _)
        have hP1 : PB (wr.alloc (.cells #[.int .u8 o, .int .i64 x] 30)) (w.heap.size + 1) pres := hP.kept (Below.heap_alloc _ _ _ hP.lt)
        have hbl1 : Below w.heap.size w (wr.alloc (.cells #[.int .u8 o, .int .i64 x] 30)) := hbl.alloc hbl.size _
        have hz1 := hbl1.size
        have hpl := hP.lt
        have c0 := hP.cell j hj
        have f0 := hP.fr j
        cases hpj : pres j with
        | true =>
          rw [hpj] at c0
          go_wp2_with fail
          go_roundw
          case rel => exact ⟨k + 1, by omega, by go_num, ⟨pres, p, m, v, l, hI1, hP1⟩, hbl1⟩
          case measure => simp [intOf]; omega
        | false =>
          rw [hpj] at c0
          have hI2 : Inv ((wr.setCell ⟨w.heap.size + 1, j, none⟩ (.bool true)).alloc (.cells #[.int .u8 o, .int .i64 x] 30)) w.heap.size w.heap.size pres p m v l := (hI.marked hP (by omega) j _).kept ((Below.refl _ _).alloc (Nat.le_refl _) _)
          have hP2 : PB ((wr.setCell ⟨w.heap.size + 1, j, none⟩ (.bool true)).alloc (.cells #[.int .u8 o, .int .i64 x] 30)) (w.heap.size + 1) (addP pres j) := (hP.set j hj).kept (Below.heap_alloc _ _ _ (by simp; exact hpl))
          have hbl2 : Below w.heap.size w ((wr.setCell ⟨w.heap.size + 1, j, none⟩ (.bool true)).alloc (.cells #[.int .u8 o, .int .i64 x] 30)) := (hbl.setCell (by simp) _).alloc (by simp; exact hbl.size) _
          have hz2 := hbl2.size
          have hm2 := hI2.ahead
          have hmge : ∀ b, b ∈ w.heap.size :: m.toList → w.heap.size ≤ b := by
            intro b hb
            rcases List.mem_cons.1 hb with rfl | hb
            · exact Nat.le_refl _
            · rcases hm2 with ⟨rfl, _⟩ | ⟨bm, n, rfl, q, _⟩
              · simp at hb
              · simp at hb; omega
          have hna := hm2.apart hP2
          go_wp2_with (go_at_call 6; refine (add_any j _ hI2 hz2 hj hpj).mono ?_; rintro e w3 ⟨rfl, p3, m3, hI3, hbut3⟩)
          go_roundw
          case rel => exact ⟨k + 1, by omega, by go_num, ⟨addP pres j, p3, m3, v, false, hI3, hP2.kept (hbut3.block _ hP2.lt (by intro q; rcases List.mem_cons.1 q with q | q; omega; exact hna q))⟩, hbl2.trans (hbut3.below hz2 hmge)⟩
          case measure => simp [intOf]; omega
    · obtain rfl : k = len := by omega
      clear hs
      have hz0 := hbl.size
      go_wp2_with fail
      refine (runs_any _ hI hz0).mono ?_
      rintro e w2 ⟨v2, rfl, hI2, hbut2, _⟩
      have hP2 : PB w2 (w.heap.size + 1) pres := hP.kept (hbut2.block _ hP.lt (by simp))
      have hbl2 : Below w.heap.size w w2 := hbl.trans (hbut2.below hz0 (by simp))
      clear hI hP hbl hbut2
      go_wp2_with fail
      refine (check_any _ hI2 hP2).mono ?_
      rintro e w3 ⟨rfl, hb3⟩
      have hI3 := hI2.kept hb3
      have hP3 := hP2.kept (hb3.block _ hP2.lt)
      have hbl3 := hbl2.trans (hb3.mono hbl2.size)
      clear hI2 hP2 hbl2 hb3
      go_wp2_with fail
      refine (runs_any _ hI3 hbl3.size).mono ?_
      rintro e w4 ⟨v4, rfl, hI4, hbut4, hv4⟩
      obtain rfl := hv4 rfl
      have hP4 : PB w4 (w.heap.size + 1) pres := hP3.kept (hbut4.block _ hP3.lt (by simp))
      have hbl4 : Below w.heap.size w w4 := hbl3.trans (hbut4.below hbl3.size (by simp))
      clear hI3 hP3 hbl3 hbut4 hv4
      go_wp2_with fail
      refine (check_any _ hI4 hP4).mono ?_
      rintro e w5 ⟨rfl, hb5⟩
      have hbl5 := hbl4.trans (hb5.mono hbl4.size)
      have hr5 := (hI4.kept hb5).runs rfl
      have hln := runsTo_len pres 256
      clear hI4 hP4 hbl4 hb5
      rcases hr5 with ⟨rfl, hne⟩ | ⟨g, cur, rfl, hne, _⟩
      · go_wp2_with fail
        go_quiet (fail)
        go_wp2_with fail
        go_ret
        exact ⟨rfl, hbl5.trans ⟨rfl, rfl, rfl, Nat.le_refl _, fun _ _ => rfl⟩⟩
      · have hpos : 0 < (runsTo pres 256).length := List.length_pos_iff.2 hne
        clear hne
        generalize (runsTo pres 256).length = n at hpos hln ⊢
        go_wp2_with fail
        go_quiet (fail)
        go_wp2_with fail
        go_ret
        exact ⟨rfl, hbl5.trans ⟨rfl, rfl, rfl, Nat.le_refl _, fun _ _ => rfl⟩⟩

end Go.Proofs.Ybulkeiag
