/-
  LawS6709BWhole: from the walk to the statement (after the given shell; the reach is taken in, so that the sum of the lengths does not wrap).
-/
import Derived.Test.YbulkehxoBLaw
import Derived.ProofKit
import Derived.OpenShut
import Derived.ShutString
import Derived.ChangeOld
import Derived.SizedLaws
import Derived.Below
namespace Go.Proofs.Ybulkehxo.lawS6709BWhole
open Go.ChangeShapes Go.WideShapes Go.ChangeAt Go.RowKit
open Go.ChangeMaps (open_string shut_string)
set_option linter.unusedVariables false

theorem own : ownKnob Yba.prog.godebug = none := by kernel_rfl
theorem laidOut : laidOutB Yba.prog = true := by kernel_rfl

theorem walk (a0 : Int) (a1 : Int) (a2 : Option Addr) (len2 cap2 : Nat) (z2 : List Int) (a3 : Bool) (a4 : Bool) (a5 : Int) (a6 : Int) (a7 : Bool) (a8 : Option Addr) (len8 cap8 : Nat) (z8 : List Int) (a9 : Bool) (a10 : Option Addr) (len10 cap10 : Nat) (z10 : List Int) (w : World) (w0 : (Lit.int .u8 a0).wf = true) (w1 : (Lit.int .u8 a1).wf = true) (w2 : IsRow .u8 w a2 len2 cap2 z2) (w5 : (Lit.int .u64 a5).wf = true) (w8 : IsRow .u8 w a8 len8 cap8 z8) (w10 : IsRow .u8 w a10 len10 cap10 z10)
    (b2 : len2 ≤ 140737488355328) (b8 : len8 ≤ 140737488355328) (b10 : len10 ≤ 140737488355328) :
    Calls Yba.prog 3 #[.int .u8 a0, .int .u8 a1, .slice a2 len2 cap2, .bool a3, .bool a4, .int .u64 a5, .int .u64 a6, .bool a7, .slice a8 len8 cap8, .bool a9, .slice a10 len10 cap10] w fun e w' => e = .returned (.bool true) ∧ Below w.heap.size w w' := by
  by_cases hs : 65536 < len2 + len8 + len10
  · exact law_long a0 a1 a2 len2 cap2 a3 a4 a5 a6 a7 a8 len8 cap8 a9 a10 len10 cap10 w b2 b8 b10 hs
  · exact law_main a0 a1 a2 len2 cap2 z2 a3 a4 a5 a6 a7 a8 len8 cap8 z8 a9 a10 len10 cap10 z10 w (bounds_u8 w0) (bounds_u8 w1) (by
      simp [Lit.wf, IntKind.min, IntKind.max, IntKind.signed, IntKind.bits] at w5
      omega) w2 w8 w10 (by omega)

theorem bytes5 : Yba.prog.bytesOf 5 = 1 := by kernel_rfl

/-! ### THE ROW's STEP: WRITTEN OUT: LEAVE IT -/
set_option maxRecDepth 100000 in
theorem lifted (os : Os) (started : os.Started) (H : Type) (enc : TypeId × Value → H) :
    ReturnsInHanded {} Yba.checked os 3 .any (Rows.lawS6709BWholeSpec.pre6 enc Yba.prog Yba.f3 Rows.lawS6709BWholeRow.domain false) (Rows.lawS6709BWholeSpec.post enc Yba.prog Yba.f3 false true false false) := by
  refine returnsInHanded_of_change_sized (C := Yba.checked) own started (by kernel_rfl) Yba.func3
    (ChangeSpec.witness6 (enc := enc) (C := Yba.checked) false ⟨#[], #[.int .u8 0, .int .u8 0, .slice none 0 0, .bool false, .bool false, .int .u64 0, .int .u64 0, .bool false, .slice none 0 0, .bool false, .slice none 0 0], []⟩ 8 (by kernel_rfl) (by kernel_rfl) (by kernel_rfl) (by kernel_rfl)) ?_
  intro W base args ds gs before hval0 hW hcnd hsz0 _
  have hsz : (DataW.weightsEach Yba.prog (Yba.f3.params.toList ++ Rows.lawS6709BWholeSpec.plain.varTypes Yba.prog) (ds ++ gs)).all (· ≤ reachBytes) = true := hsz0
  have hval : ∀ (j : Nat) t v, Yba.f3.params[j]? = some t → args[j]? = some v → Value.okWide Yba.prog W .any base t v := hval0
  have hW' := hW
  obtain ⟨p, q, hA0, hV, rfl, hfz, hnd⟩ := hW
  have hA : DataW.TrodAll enc Yba.prog W 0 (fun _ => true) true Yba.f3.params.toList args.toList ds p := hA0
  rw [Yba.params3] at hA hval hsz
  obtain ⟨v0, vs0, d0, ds0, p0, q0, hargs, rfl, rfl, h0, r0⟩ := trodAll_cons hA
  obtain ⟨v1, vs1, d1, ds1, p1, q1, rfl, rfl, rfl, h1, r1⟩ := trodAll_cons r0
  obtain ⟨v2, vs2, d2, ds2, p2, q2, rfl, rfl, rfl, h2, r2⟩ := trodAll_cons r1
  obtain ⟨v3, vs3, d3, ds3, p3, q3, rfl, rfl, rfl, h3, r3⟩ := trodAll_cons r2
  obtain ⟨v4, vs4, d4, ds4, p4, q4, rfl, rfl, rfl, h4, r4⟩ := trodAll_cons r3
  obtain ⟨v5, vs5, d5, ds5, p5, q5, rfl, rfl, rfl, h5, r5⟩ := trodAll_cons r4
  obtain ⟨v6, vs6, d6, ds6, p6, q6, rfl, rfl, rfl, h6, r6⟩ := trodAll_cons r5
  obtain ⟨v7, vs7, d7, ds7, p7, q7, rfl, rfl, rfl, h7, r7⟩ := trodAll_cons r6
  obtain ⟨v8, vs8, d8, ds8, p8, q8, rfl, rfl, rfl, h8, r8⟩ := trodAll_cons r7
  obtain ⟨v9, vs9, d9, ds9, p9, q9, rfl, rfl, rfl, h9, r9⟩ := trodAll_cons r8
  obtain ⟨v10, vs10, d10, ds10, p10, q10, rfl, rfl, rfl, h10, r10⟩ := trodAll_cons r9
  obtain ⟨rfl, rfl, rfl⟩ := trodAll_nil r10
  obtain rfl : args = #[v0, v1, v2, v3, v4, v5, v6, v7, v8, v9, v10] := by cases args; simp_all
  obtain ⟨rfl, rfl⟩ := trodVars_none hV
  obtain ⟨a0, rfl, rfl, rfl, w0⟩ := open_int Yba.underlying5 (hval 0 5 v0 rfl rfl) h0
  obtain ⟨a1, rfl, rfl, rfl, w1⟩ := open_int Yba.underlying5 (hval 1 5 v1 rfl rfl) h1
  obtain ⟨a2, len2, cap2, rfl⟩ := okWide_slice Yba.underlying22 (hval 2 22 v2 rfl rfl)
  have k2 := h2
  have lt2 : ∀ x ∈ p2, x.block < W.heap.size := by obtain ⟨m, hm⟩ := k2; exact DataW.trod_lt m _ _ _ hm
  obtain ⟨z2, w2, b2⟩ : ∃ zs, IsRow .u8 W a2 len2 cap2 zs ∧ len2 ≤ 140737488355328 := by
    obtain ⟨fuel, hf⟩ := h2
    rcases open_ints Yba.underlying22 Yba.underlying5 (by kernel_rfl) hf with ⟨hcs, _⟩ | ⟨x, l, c, zs, hcs, _, hl, hm, hz, hx, hcell, hwz⟩
    · simp [Value.cells] at hcs
      obtain ⟨rfl, rfl, rfl⟩ := hcs
      exact ⟨[], .inl ⟨rfl, rfl, rfl, rfl⟩, by omega⟩
    · simp [Value.cells] at hcs
      obtain ⟨rfl, rfl, rfl⟩ := hcs
      simp only [Prod.mk.injEq] at hx
      have hz' : zs.length = cap2 := by simpa using hz
      have hsl := sized_slice hsz (j := 2) (t := 22) (e := 5) rfl (by rw [hx.1]; rfl) Yba.underlying22
      have hr47 := reachBytes_lt
      have hb5 := bytes5
      refine ⟨zs, .inr ⟨_, rfl, hl, hm, hz', hcell, hwz⟩, ?_⟩
      simp [lits, hb5] at hsl
      omega
  obtain ⟨a3, rfl, rfl, rfl⟩ := open_bool Yba.underlying4 (hval 3 4 v3 rfl rfl) h3
  obtain ⟨a4, rfl, rfl, rfl⟩ := open_bool Yba.underlying4 (hval 4 4 v4 rfl rfl) h4
  obtain ⟨a5, rfl, rfl, rfl, w5⟩ := open_int Yba.underlying23 (hval 5 23 v5 rfl rfl) h5
  obtain ⟨a6, rfl, rfl, rfl, w6⟩ := open_int Yba.underlying23 (hval 6 23 v6 rfl rfl) h6
  obtain ⟨a7, rfl, rfl, rfl⟩ := open_bool Yba.underlying4 (hval 7 4 v7 rfl rfl) h7
  obtain ⟨a8, len8, cap8, rfl⟩ := okWide_slice Yba.underlying22 (hval 8 22 v8 rfl rfl)
  have k8 := h8
  have lt8 : ∀ x ∈ p8, x.block < W.heap.size := by obtain ⟨m, hm⟩ := k8; exact DataW.trod_lt m _ _ _ hm
  obtain ⟨z8, w8, b8⟩ : ∃ zs, IsRow .u8 W a8 len8 cap8 zs ∧ len8 ≤ 140737488355328 := by
    obtain ⟨fuel, hf⟩ := h8
    rcases open_ints Yba.underlying22 Yba.underlying5 (by kernel_rfl) hf with ⟨hcs, _⟩ | ⟨x, l, c, zs, hcs, _, hl, hm, hz, hx, hcell, hwz⟩
    · simp [Value.cells] at hcs
      obtain ⟨rfl, rfl, rfl⟩ := hcs
      exact ⟨[], .inl ⟨rfl, rfl, rfl, rfl⟩, by omega⟩
    · simp [Value.cells] at hcs
      obtain ⟨rfl, rfl, rfl⟩ := hcs
      simp only [Prod.mk.injEq] at hx
      have hz' : zs.length = cap8 := by simpa using hz
      have hsl := sized_slice hsz (j := 8) (t := 22) (e := 5) rfl (by rw [hx.1]; rfl) Yba.underlying22
      have hr47 := reachBytes_lt
      have hb5 := bytes5
      refine ⟨zs, .inr ⟨_, rfl, hl, hm, hz', hcell, hwz⟩, ?_⟩
      simp [lits, hb5] at hsl
      omega
  obtain ⟨a9, rfl, rfl, rfl⟩ := open_bool Yba.underlying4 (hval 9 4 v9 rfl rfl) h9
  obtain ⟨a10, len10, cap10, rfl⟩ := okWide_slice Yba.underlying22 (hval 10 22 v10 rfl rfl)
  have k10 := h10
  have lt10 : ∀ x ∈ p10, x.block < W.heap.size := by obtain ⟨m, hm⟩ := k10; exact DataW.trod_lt m _ _ _ hm
  obtain ⟨z10, w10, b10⟩ : ∃ zs, IsRow .u8 W a10 len10 cap10 zs ∧ len10 ≤ 140737488355328 := by
    obtain ⟨fuel, hf⟩ := h10
    rcases open_ints Yba.underlying22 Yba.underlying5 (by kernel_rfl) hf with ⟨hcs, _⟩ | ⟨x, l, c, zs, hcs, _, hl, hm, hz, hx, hcell, hwz⟩
    · simp [Value.cells] at hcs
      obtain ⟨rfl, rfl, rfl⟩ := hcs
      exact ⟨[], .inl ⟨rfl, rfl, rfl, rfl⟩, by omega⟩
    · simp [Value.cells] at hcs
      obtain ⟨rfl, rfl, rfl⟩ := hcs
      simp only [Prod.mk.injEq] at hx
      have hz' : zs.length = cap10 := by simpa using hz
      have hsl := sized_slice hsz (j := 10) (t := 22) (e := 5) rfl (by rw [hx.1]; rfl) Yba.underlying22
      have hr47 := reachBytes_lt
      have hb5 := bytes5
      refine ⟨zs, .inr ⟨_, rfl, hl, hm, hz', hcell, hwz⟩, ?_⟩
      simp [lits, hb5] at hsl
      omega
  clear hA0 hval0
  refine (walk a0 a1 a2 len2 cap2 z2 a3 a4 a5 a6 a7 a8 len8 cap8 z8 a9 a10 len10 cap10 z10 W w0 w1 w2 w5 w8 w10 b2 b8 b10).mono fun e W' ⟨he, bel⟩ => ?_
  subst he
  exact ⟨_, rfl, _, _, _, [], _, [], hW', trodAll_mk1 (shut_bool Yba.underlying4 _), (trodAll_cons_mk (shut_int Yba.underlying5 w0) (trodAll_cons_mk (shut_int Yba.underlying5 w1) (trodAll_cons_mk (Below.trod laidOut (by kernel_rfl) (of_decide_eq_true (by kernel_rfl)) k2 bel lt2) (trodAll_cons_mk (shut_bool Yba.underlying4 _) (trodAll_cons_mk (shut_bool Yba.underlying4 _) (trodAll_cons_mk (shut_int Yba.underlying23 w5) (trodAll_cons_mk (shut_int Yba.underlying23 w6) (trodAll_cons_mk (shut_bool Yba.underlying4 _) (trodAll_cons_mk (Below.trod laidOut (by kernel_rfl) (of_decide_eq_true (by kernel_rfl)) k8 bel lt8) (trodAll_cons_mk (shut_bool Yba.underlying4 _) (trodAll_cons_mk (Below.trod laidOut (by kernel_rfl) (of_decide_eq_true (by kernel_rfl)) k10 bel lt10) trodAll_mk0))))))))))), rfl, bel.frame _, fun h => by cases h⟩

theorem over : Rows.lawS6709BWholeRow.holds Yba.pinned (OpenSpec.ofChange Rows.lawS6709BWholeSpec) :=
  OpenClaim.holds_of_wide 3 Yba.f3 rfl rfl rfl rfl rfl rfl rfl ⟨rfl, rfl, rfl, rfl, rfl⟩ rfl rfl rfl rfl rfl (by kernel_rfl) Yba.func3 (by kernel_rfl)
    (of_decide_eq_true (by kernel_rfl)) (by unfold Func.isWrapper; first | (rw [if_pos (by decide +kernel)]; kernel_rfl) | (rw [if_neg (by decide +kernel)]; exact ⟨rfl, rfl⟩))
    (fun os started H enc _ => lifted os started H enc)

/-- ████ THE STATEMENT ████ -/
theorem proved : Rows.LawS6709BWholeSaid := over
#print axioms proved
end Go.Proofs.Ybulkehxo.lawS6709BWhole
