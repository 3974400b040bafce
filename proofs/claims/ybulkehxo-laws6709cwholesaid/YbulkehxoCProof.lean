/-
  LawS6709CWhole: from the walk to the statement (after the given shell; the reach is taken in, so that the sum of the lengths does not wrap).
-/
import Derived.Test.YbulkehxoCLaw
import Derived.ProofKit
import Derived.OpenShut
import Derived.ShutString
import Derived.ChangeOld
import Derived.SizedLaws
import Derived.Below
import Derived.Deep.Slices
import Derived.Deep.Fields
import Derived.Deep.Strs
namespace Go.Proofs.Ybulkehxo.lawS6709CWhole
open Go.ChangeShapes Go.WideShapes Go.ChangeAt Go.RowKit
open Go.ChangeMaps (open_string shut_string)
set_option linter.unusedVariables false

theorem own : ownKnob Yba.prog.godebug = none := by kernel_rfl
theorem laidOut : laidOutB Yba.prog = true := by kernel_rfl
theorem cells54 : Yba.prog.cellsOf 54 = 8 := by kernel_rfl
theorem cells9 : Yba.prog.cellsOf 9 = 1 := by kernel_rfl
theorem bytes9 : Yba.prog.bytesOf 9 = 16 := by kernel_rfl
theorem bytes54 : 1 ≤ Yba.prog.bytesOf 54 := of_decide_eq_true (by kernel_rfl)

def cellsR (r : Rw) : List Value := [.string r.waiter, .string r.holder, .int .i64 r.at_, .int .i64 r.last, .int .i64 r.msgs, .int .u64 r.line, .bool r.due, .bool r.opn]

theorem len_cons {α : Type} {l : List α} {n : Nat} (h : l.length = n + 1) : ∃ a t, l = a :: t ∧ t.length = n := by
  cases l with
  | nil => cases h
  | cons a t => exact ⟨a, t, rfl, Nat.succ.inj h⟩
theorem list8 {α : Type} {l : List α} (h : l.length = 8) : ∃ c0 c1 c2 c3 c4 c5 c6 c7, l = [c0, c1, c2, c3, c4, c5, c6, c7] := by
  obtain ⟨c0, t0, rfl, h0⟩ := len_cons (n := 7) h
  obtain ⟨c1, t1, rfl, h1⟩ := len_cons (n := 6) h0
  obtain ⟨c2, t2, rfl, h2⟩ := len_cons (n := 5) h1
  obtain ⟨c3, t3, rfl, h3⟩ := len_cons (n := 4) h2
  obtain ⟨c4, t4, rfl, h4⟩ := len_cons (n := 3) h3
  obtain ⟨c5, t5, rfl, h5⟩ := len_cons (n := 2) h4
  obtain ⟨c6, t6, rfl, h6⟩ := len_cons (n := 1) h5
  obtain ⟨c7, t7, rfl, h7⟩ := len_cons (n := 0) h6
  obtain rfl := List.eq_nil_of_length_eq_zero h7
  exact ⟨c0, c1, c2, c3, c4, c5, c6, c7, rfl⟩

theorem row54 {H : Type} {enc : TypeId × Value → H} {W : World} {base : Nat} {sp : Nat → Bool} {held : Bool} {fuel : Nat} {cs : List Value} {x : DataW H × List MemPlace} (h : DataW.trod enc Yba.prog W base sp held fuel 54 cs = some x) :
    ∃ r : Rw, cs = cellsR r ∧ 0 ≤ r.line ∧ r.line < 18446744073709551616 := by
  obtain ⟨xs, n, _, _, hl, hx, hf⟩ := DataW.trod_struct Yba.underlying54 h
  rw [cells54] at hl
  have hx8 : xs.length = 8 := hx
  obtain ⟨c0, c1, c2, c3, c4, c5, c6, c7, rfl⟩ := list8 hl
  obtain ⟨y0, y1, y2, y3, y4, y5, y6, y7, rfl⟩ := list8 hx8
  have k9 : Yba.prog.cellsOf 9 = 1 := by kernel_rfl
  have k2 : Yba.prog.cellsOf 2 = 1 := by kernel_rfl
  have k3 : Yba.prog.cellsOf 3 = 1 := by kernel_rfl
  have k52 : Yba.prog.cellsOf 52 = 1 := by kernel_rfl
  have k4 : Yba.prog.cellsOf 4 = 1 := by kernel_rfl
  have f0 : DataW.trod enc Yba.prog W base sp held n 9 (([c0, c1, c2, c3, c4, c5, c6, c7].drop 0).take (Yba.prog.cellsOf 9)) = some y0 := hf 0 _ rfl
  have f1 : DataW.trod enc Yba.prog W base sp held n 9 (([c0, c1, c2, c3, c4, c5, c6, c7].drop 1).take (Yba.prog.cellsOf 9)) = some y1 := hf 1 _ rfl
  have f2 : DataW.trod enc Yba.prog W base sp held n 2 (([c0, c1, c2, c3, c4, c5, c6, c7].drop 2).take (Yba.prog.cellsOf 2)) = some y2 := hf 2 _ rfl
  have f3 : DataW.trod enc Yba.prog W base sp held n 2 (([c0, c1, c2, c3, c4, c5, c6, c7].drop 3).take (Yba.prog.cellsOf 2)) = some y3 := hf 3 _ rfl
  have f4 : DataW.trod enc Yba.prog W base sp held n 3 (([c0, c1, c2, c3, c4, c5, c6, c7].drop 4).take (Yba.prog.cellsOf 3)) = some y4 := hf 4 _ rfl
  have f5 : DataW.trod enc Yba.prog W base sp held n 52 (([c0, c1, c2, c3, c4, c5, c6, c7].drop 5).take (Yba.prog.cellsOf 52)) = some y5 := hf 5 _ rfl
  have f6 : DataW.trod enc Yba.prog W base sp held n 4 (([c0, c1, c2, c3, c4, c5, c6, c7].drop 6).take (Yba.prog.cellsOf 4)) = some y6 := hf 6 _ rfl
  have f7 : DataW.trod enc Yba.prog W base sp held n 4 (([c0, c1, c2, c3, c4, c5, c6, c7].drop 7).take (Yba.prog.cellsOf 4)) = some y7 := hf 7 _ rfl
  rw [k9] at f0 f1
  rw [k2] at f2 f3
  rw [k3] at f4
  rw [k52] at f5
  rw [k4] at f6 f7
  obtain ⟨s0, e0, _⟩ := DataW.trod_string Yba.underlying9 f0
  obtain ⟨s1, e1, _⟩ := DataW.trod_string Yba.underlying9 f1
  obtain ⟨n2, e2, _⟩ := DataW.trod_int Yba.underlying2 f2
  obtain ⟨n3, e3, _⟩ := DataW.trod_int Yba.underlying2 f3
  obtain ⟨n4, e4, _⟩ := DataW.trod_int Yba.underlying3 f4
  obtain ⟨n5, e5, _, w5⟩ := DataW.trod_int Yba.underlying52 f5
  obtain ⟨b6, e6, _⟩ := DataW.trod_bool Yba.underlying4 f6
  obtain ⟨b7, e7, _⟩ := DataW.trod_bool Yba.underlying4 f7
  simp at e0 e1 e2 e3 e4 e5 e6 e7
  subst e0 e1 e2 e3 e4 e5 e6 e7
  simp [Lit.wf, IntKind.min, IntKind.max, IntKind.signed, IntKind.bits] at w5
  exact ⟨⟨s0, s1, n2, n3, n4, n5, b6, b7⟩, rfl, by show 0 ≤ n5; omega, by show n5 < 18446744073709551616; omega⟩

theorem spot_none {W : World} {b o : Nat} {sp : Option Nat} {v : Value} (h : W.cell? ((⟨b, o, sp⟩ : Addr).add 0) = some v) : sp = none := by
  simpa [Addr.add] using World.cell?_spot h

theorem strs_at {W : World} {a : Addr} {n : Nat} {nm : Nat → ByteArray} (h : ∀ i, i < n → W.cell? (a.add i) = some (.string (nm i))) (i : Nat) (hi : i < n) :
    ∃ b o, some a = some (⟨b, o, none⟩ : Addr) ∧ b < W.heap.size ∧ W.cell? ⟨b, o + i, none⟩ = some (.string (nm i)) := by
  obtain ⟨b, o, sp⟩ := a
  obtain rfl := spot_none (h 0 (by omega))
  have hc := h i hi
  rw [Addr.add_mid] at hc
  exact ⟨b, o, rfl, World.block_lt_of_cell? W _ hc, hc⟩

theorem rows_at {W : World} {a : Addr} {N : Nat} {rw : Nat → Rw} (h : ∀ i, i < N → ∀ k v, (cellsR (rw i))[k]? = some v → W.cell? (a.add (i * 8 + k)) = some v) (i : Nat) (hi : i < N) :
    ∃ b o, some a = some (⟨b, o, none⟩ : Addr) ∧ b < W.heap.size ∧
    W.cell? ⟨b, o + i * 8, none⟩ = some (.string (rw i).waiter) ∧ W.cell? ⟨b, o + i * 8 + 1, none⟩ = some (.string (rw i).holder) ∧
    W.cell? ⟨b, o + i * 8 + 2, none⟩ = some (.int .i64 (rw i).at_) ∧ W.cell? ⟨b, o + i * 8 + 3, none⟩ = some (.int .i64 (rw i).last) ∧
    W.cell? ⟨b, o + i * 8 + 4, none⟩ = some (.int .i64 (rw i).msgs) ∧ W.cell? ⟨b, o + i * 8 + 5, none⟩ = some (.int .u64 (rw i).line) ∧
    W.cell? ⟨b, o + i * 8 + 6, none⟩ = some (.bool (rw i).due) ∧ W.cell? ⟨b, o + i * 8 + 7, none⟩ = some (.bool (rw i).opn) := by
  obtain ⟨b, o, sp⟩ := a
  obtain rfl := spot_none (h 0 (by omega) 0 _ rfl)
  have hc : ∀ k v, (cellsR (rw i))[k]? = some v → W.cell? ⟨b, o + i * 8 + k, none⟩ = some v := fun k v hk => by
    have := h i hi k v hk
    rw [Addr.add_mid, ← Nat.add_assoc] at this
    exact this
  have h0 := hc 0 _ rfl
  exact ⟨b, o, rfl, World.block_lt_of_cell? W _ h0, h0, hc 1 _ rfl, hc 2 _ rfl, hc 3 _ rfl, hc 4 _ rfl, hc 5 _ rfl, hc 6 _ rfl, hc 7 _ rfl⟩

/-- A row of strings as it is given. -/
def IsStrs (W : World) (a : Option Addr) (n : Nat) (nm : Nat → ByteArray) : Prop := ∀ i, i < n → ∃ x, a = some x ∧ ∀ j, j < n → W.cell? (x.add j) = some (.string (nm j))
def IsRows (W : World) (a : Option Addr) (N : Nat) (rw : Nat → Rw) : Prop := (∀ i, i < N → ∃ x, a = some x ∧ ∀ j, j < N → ∀ k v, (cellsR (rw j))[k]? = some v → W.cell? (x.add (j * 8 + k)) = some v) ∧ ∀ i, i < N → 0 ≤ (rw i).line ∧ (rw i).line < 18446744073709551616

theorem walk (a0 a1 : Int) (a2 : Option Addr) (len2 cap2 : Nat) (nm : Nat → ByteArray) (a3 : Option Addr) (len3 cap3 : Nat) (rw : Nat → Rw) (w : World) (w2 : IsStrs w a2 len2 nm) (w3 : IsRows w a3 len3 rw) (b2 : len2 ≤ 140737488355328) (b3 : len3 ≤ 140737488355328) :
    Calls Yba.prog 4 #[.int .i64 a0, .int .i64 a1, .slice a2 len2 cap2, .slice a3 len3 cap3] w fun e w' => e = .returned (.bool true) ∧ Below w.heap.size w w' := by
  by_cases hs : 4096 < len2 + len3
  · exact law_long a0 a1 a2 a3 len2 len3 cap2 cap3 w b2 b3 hs
  · exact law_main ⟨a0, a1, a2, a3, cap2, cap3, len2, len3, nm, rw⟩ w ⟨by show len2 + len3 ≤ 4096; omega, fun i hi => by
      obtain ⟨x, hx, hc⟩ := w2 i hi
      show ∃ b o, a2 = _ ∧ _
      rw [hx]
      exact strs_at hc i hi, fun i hi => by
      obtain ⟨x, hx, hc⟩ := w3.1 i hi
      show ∃ b o, a3 = _ ∧ _
      rw [hx]
      exact rows_at hc i hi, w3.2⟩

theorem choose_rows {N : Nat} {p : Nat → Rw → Prop} (h : ∀ i, i < N → ∃ r, p i r) : ∃ f : Nat → Rw, ∀ i, i < N → p i (f i) := by
  have h' : ∀ i, ∃ r, i < N → p i r := fun i => by
    by_cases hi : i < N
    · obtain ⟨r, hr⟩ := h i hi
      exact ⟨r, fun _ => hr⟩
    · exact ⟨⟨⟨#[]⟩, ⟨#[]⟩, 0, 0, 0, 0, false, false⟩, fun q => absurd q hi⟩
  exact ⟨fun i => Classical.choose (h' i), fun i => Classical.choose_spec (h' i)⟩

/-! ### The row's step (after the given shell) -/
set_option maxRecDepth 100000 in
theorem lifted (os : Os) (started : os.Started) (H : Type) (enc : TypeId × Value → H) :
    ReturnsInHanded {} Yba.checked os 4 .any (Rows.lawS6709CWholeSpec.pre6 enc Yba.prog Yba.f4 Rows.lawS6709CWholeRow.domain false) (Rows.lawS6709CWholeSpec.post enc Yba.prog Yba.f4 false true false false) := by
  refine returnsInHanded_of_change_sized (C := Yba.checked) own started (by kernel_rfl) Yba.func4
    (ChangeSpec.witness6 (enc := enc) (C := Yba.checked) false ⟨#[], #[.int .i64 0, .int .i64 0, .slice none 0 0, .slice none 0 0], []⟩ 8 (by kernel_rfl) (by kernel_rfl) (by kernel_rfl) (by kernel_rfl)) ?_
  intro W base args ds gs before hval0 hW hcnd hsz0 _
  have hsz : (DataW.weightsEach Yba.prog (Yba.f4.params.toList ++ Rows.lawS6709CWholeSpec.plain.varTypes Yba.prog) (ds ++ gs)).all (· ≤ reachBytes) = true := hsz0
  have hval : ∀ (j : Nat) t v, Yba.f4.params[j]? = some t → args[j]? = some v → Value.okWide Yba.prog W .any base t v := hval0
  have hW' := hW
  obtain ⟨p, q, hA0, hV, rfl, hfz, hnd⟩ := hW
  have hA : DataW.TrodAll enc Yba.prog W 0 (fun _ => true) true Yba.f4.params.toList args.toList ds p := hA0
  rw [Yba.params4] at hA hval hsz
  obtain ⟨v0, vs0, d0, ds0, p0, q0, hargs, rfl, rfl, h0, r0⟩ := trodAll_cons hA
  obtain ⟨v1, vs1, d1, ds1, p1, q1, rfl, rfl, rfl, h1, r1⟩ := trodAll_cons r0
  obtain ⟨v2, vs2, d2, ds2, p2, q2, rfl, rfl, rfl, h2, r2⟩ := trodAll_cons r1
  obtain ⟨v3, vs3, d3, ds3, p3, q3, rfl, rfl, rfl, h3, r3⟩ := trodAll_cons r2
  obtain ⟨rfl, rfl, rfl⟩ := trodAll_nil r3
  obtain rfl : args = #[v0, v1, v2, v3] := by cases args; simp_all
  obtain ⟨rfl, rfl⟩ := trodVars_none hV
  obtain ⟨a0, rfl, rfl, rfl, w0⟩ := open_int Yba.underlying2 (hval 0 2 v0 rfl rfl) h0
  obtain ⟨a1, rfl, rfl, rfl, w1⟩ := open_int Yba.underlying2 (hval 1 2 v1 rfl rfl) h1
  obtain ⟨a2, len2, cap2, rfl⟩ := okWide_slice Yba.underlying43 (hval 2 43 v2 rfl rfl)
  have k2 := h2
  have lt2 : ∀ x ∈ p2, x.block < W.heap.size := by obtain ⟨m, hm⟩ := k2; exact DataW.trod_lt m _ _ _ hm
  have hr47 := reachBytes_lt
  obtain ⟨nm, w2, b2⟩ : ∃ nm, IsStrs W a2 len2 nm ∧ len2 ≤ 140737488355328 := by
    obtain ⟨fuel, hf⟩ := h2
    rcases Go.Deep.open_strs Yba.underlying43 Yba.underlying9 cells9 hf with ⟨hcs, _⟩ | ⟨x, l, c, m, Sx, hcs, _, hl, hm, hmm, hx, hcell⟩
    · simp [Value.cells] at hcs
      obtain ⟨rfl, rfl, rfl⟩ := hcs
      exact ⟨fun _ => ⟨#[]⟩, fun i hi => absurd hi (Nat.not_lt_zero i), by omega⟩
    · simp [Value.cells] at hcs
      obtain ⟨rfl, rfl, rfl⟩ := hcs
      simp only [Prod.mk.injEq] at hx
      have hmm' : m = cap2 := by simpa using hmm
      have hsl := sized_slice hsz (j := 2) (t := 43) (e := 9) rfl (by rw [hx.1]; rfl) Yba.underlying43
      rw [bytes9] at hsl
      simp only [List.length_map, List.length_range] at hsl
      exact ⟨Sx, fun i hi => ⟨x, rfl, fun j hj => (hcell j (by omega)).1⟩, by omega⟩
  obtain ⟨a3, len3, cap3, rfl⟩ := okWide_slice Yba.underlying44 (hval 3 44 v3 rfl rfl)
  have k3 := h3
  have lt3 : ∀ x ∈ p3, x.block < W.heap.size := by obtain ⟨m, hm⟩ := k3; exact DataW.trod_lt m _ _ _ hm
  obtain ⟨rw, w3, b3⟩ : ∃ rw, IsRows W a3 len3 rw ∧ len3 ≤ 140737488355328 := by
    obtain ⟨fuel, hf⟩ := h3
    rcases Go.Deep.open_slice Yba.underlying44 hf with ⟨hcs, _⟩ | ⟨x, l, c, m, n, Dx, Pl, hcs, _, hl, hm, hmm, hx, hcell⟩
    · simp [Value.cells] at hcs
      obtain ⟨rfl, rfl, rfl⟩ := hcs
      exact ⟨fun _ => ⟨⟨#[]⟩, ⟨#[]⟩, 0, 0, 0, 0, false, false⟩, ⟨fun i hi => absurd hi (Nat.not_lt_zero i), fun i hi => absurd hi (Nat.not_lt_zero i)⟩, by omega⟩
    · simp [Value.cells] at hcs
      obtain ⟨rfl, rfl, rfl⟩ := hcs
      simp only [Prod.mk.injEq] at hx
      have hmm' : m = cap3 := by simpa using hmm
      have hsl := sized_slice hsz (j := 3) (t := 44) (e := 54) rfl (by rw [hx.1]; rfl) Yba.underlying44
      simp only [List.length_map, List.length_range] at hsl
      rw [cells54] at hcell
      have hex : ∀ i, i < len3 → ∃ r : Rw, (0 ≤ r.line ∧ r.line < 18446744073709551616) ∧ ∀ k v, (cellsR r)[k]? = some v → W.cell? (x.add (i * 8 + k)) = some v := fun i hi => by
        obtain ⟨cs, hc1, hc2⟩ := hcell i (by omega)
        obtain ⟨r, rfl, hr⟩ := row54 hc2
        obtain ⟨_, _, hcc⟩ := World.cells?_some hc1
        refine ⟨r, hr, fun k v hk => ?_⟩
        have hk8 : k < 8 := (List.getElem?_eq_some_iff.1 hk).1
        have := hcc k hk8
        rw [Go.Deep.add_add, hk] at this
        exact this
      obtain ⟨rw, hrw⟩ := choose_rows hex
      have hlen : len3 ≤ (len3 + (m - len3)) * Yba.prog.bytesOf 54 := by
        have h1 : len3 * 1 ≤ (len3 + (m - len3)) * Yba.prog.bytesOf 54 := Nat.mul_le_mul (by omega) bytes54
        omega
      exact ⟨rw, ⟨fun i hi => ⟨x, rfl, fun j hj => (hrw j hj).2⟩, fun i hi => (hrw i hi).1⟩, by omega⟩
  clear hA0 hval0
  refine (walk a0 a1 a2 len2 cap2 nm a3 len3 cap3 rw W w2 w3 b2 b3).mono fun e W' ⟨he, bel⟩ => ?_
  subst he
  exact ⟨_, rfl, _, _, _, [], _, [], hW', trodAll_mk1 (shut_bool Yba.underlying4 _), (trodAll_cons_mk (shut_int Yba.underlying2 w0) (trodAll_cons_mk (shut_int Yba.underlying2 w1) (trodAll_cons_mk (Below.trod laidOut (by kernel_rfl) (of_decide_eq_true (by kernel_rfl)) k2 bel lt2) (trodAll_cons_mk (Below.trod laidOut (by kernel_rfl) (of_decide_eq_true (by kernel_rfl)) k3 bel lt3) trodAll_mk0)))), rfl, bel.frame _, fun h => by cases h⟩

theorem over : Rows.lawS6709CWholeRow.holds Yba.pinned (OpenSpec.ofChange Rows.lawS6709CWholeSpec) :=
  OpenClaim.holds_of_wide 4 Yba.f4 rfl rfl rfl rfl rfl rfl rfl ⟨rfl, rfl, rfl, rfl, rfl⟩ rfl rfl rfl rfl rfl (by kernel_rfl) Yba.func4 (by kernel_rfl)
    (of_decide_eq_true (by kernel_rfl)) (by unfold Func.isWrapper; first | (rw [if_pos (by decide +kernel)]; kernel_rfl) | (rw [if_neg (by decide +kernel)]; exact ⟨rfl, rfl⟩))
    (fun os started H enc _ => lifted os started H enc)

/-- THE STATEMENT -/
theorem proved : Rows.LawS6709CWholeSaid := over
#print axioms proved
end Go.Proofs.Ybulkehxo.lawS6709CWhole
