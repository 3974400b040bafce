/-
  FOR LawS6709CWhole: floats: what may come of an operation; math.Round, math.IsNaN, zzs6709csame.
-/
import Derived.Test.YbulkehxoRows
import Derived.WalkKit
import Derived.WalkSpells
import Derived.WalkSmall
import Derived.WalkLawsBesides
import Derived.Handy
import Derived.Laws.Externs
import Derived.Laws.FloatArith
import Derived.Laws.Bits64b
import Derived.LaidEql
import Derived.BigQuiet
import Derived.Deep.RegionHeldLaw
import Derived.Deep.CutRange
import Derived.Lib.SliceRun
import Derived.Lib.BufferMore
namespace Go.Proofs.Ybulkehxo
open Go.RowKit

/-! ### the words that are no number -/
def NaN (b : Nat) : Prop := b < 18446744073709551616 ∧ 9218868437227405312 < b % 9223372036854775808
theorem NaN.read {b : Nat} (h : NaN b) : ∃ s t, FloatKind.f64.format.read b = .nan s t := by
  obtain ⟨_, h2⟩ := h
  have e1 : Ieee.double.signWeight = 9223372036854775808 := by decide
  have e2 : Ieee.double.binade = 4503599627370496 := by decide
  have e3 : Ieee.double.infRung = 9218868437227405312 := by decide
  refine ⟨b / 9223372036854775808 % 2 == 1, b % 9223372036854775808 - 9218868437227405312, ?_⟩
  show Ieee.double.read b = _
  unfold Ieee.Format.read
  simp only [e1, e2, e3]
  rw [if_neg (by omega), if_neg (by omega), if_neg (by omega)]
theorem NaN.mul {x : Nat} (h : NaN x) (y : Nat) : floatBits .mul .f64 x y = none := by
  obtain ⟨s, t, e⟩ := h.read
  show FloatKind.f64.format.mul x y = none
  simp [Ieee.Format.mul, e, Ieee.Datum.product]
theorem NaN.quo {x : Nat} (h : NaN x) (y : Nat) : floatBits .quo .f64 x y = none := by
  obtain ⟨s, t, e⟩ := h.read
  show FloatKind.f64.format.div x y = none
  simp [Ieee.Format.div, e, Ieee.Datum.quotient]
theorem NaN.order {x : Nat} (h : NaN x) : FloatKind.f64.format.order x x = none := by
  obtain ⟨s, t, e⟩ := h.read
  simp [Ieee.Format.order, e, Ieee.Datum.order]
theorem order_self (x : Nat) : FloatKind.f64.format.order x x = none ∨ FloatKind.f64.format.order x x = some .eq := by
  unfold Ieee.Format.order
  cases FloatKind.f64.format.read x with
  | number s m i => right; simp [Ieee.Datum.order]
  | infinity s => right; simp [Ieee.Datum.order]
  | nan s t => left; simp [Ieee.Datum.order]
theorem cut_NaN (x y t : Nat) : NaN ((Question.nanBits .f64 x y).cut t) := by
  show NaN ((t % 2) * 2 ^ 63 + 0x7ff0000000000000 + 1 + (t / 2) % (2 ^ 52 - 1))
  have h1 : t % 2 < 2 := Nat.mod_lt _ (by omega)
  have h2 : (t / 2) % (2 ^ 52 - 1) < 2 ^ 52 - 1 := Nat.mod_lt _ (by decide)
  generalize t % 2 = a at h1
  generalize (t / 2) % (2 ^ 52 - 1) = c at h2
  unfold NaN
  omega

/-! ### what may come of a float operation -/
def fres (op : BinOp) (x y : Nat) (W : World) : Nat := match floatBits op .f64 x y with
  | some r => r
  | none => (Question.nanBits .f64 x y).cut (W.tape W.drawn (.nanBits .f64 x y))
def fw (op : BinOp) (x y : Nat) (W : World) : World := match floatBits op .f64 x y with
  | some _ => W
  | none => W.drew
theorem run_quo48 (x y : Nat) (W : World) : (binOp .quo 48 (.float .f64 x) (.float .f64 y)).run Yba.prog W = .ok (.float .f64 (fres .quo x y W)) (fw .quo x y W) := by
  unfold fres fw
  simp only [binOp, Op.floatArith, floatBits]
  cases FloatKind.f64.format.div x y with
  | some r => rfl
  | none => rfl
theorem run_mul48 (x y : Nat) (W : World) : (binOp .mul 48 (.float .f64 x) (.float .f64 y)).run Yba.prog W = .ok (.float .f64 (fres .mul x y W)) (fw .mul x y W) := by
  unfold fres fw
  simp only [binOp, Op.floatArith, floatBits]
  cases FloatKind.f64.format.mul x y with
  | some r => rfl
  | none => rfl
theorem fw_drewN (op : BinOp) (x y : Nat) (W : World) : ∃ n, fw op x y W = W.drewN n := by
  unfold fw
  cases floatBits op .f64 x y with
  | some r => exact ⟨0, rfl⟩
  | none => exact ⟨1, rfl⟩
theorem fw3_drewN (o1 o2 o3 : BinOp) (x1 y1 x2 y2 x3 y3 : Nat) (W : World) : ∃ n, fw o1 x1 y1 (fw o2 x2 y2 (fw o3 x3 y3 W.drew)) = W.drewN n := by
  obtain ⟨n3, e3⟩ := fw_drewN o3 x3 y3 W.drew
  rw [e3]
  obtain ⟨n2, e2⟩ := fw_drewN o2 x2 y2 (W.drew.drewN n3)
  rw [e2]
  obtain ⟨n1, e1⟩ := fw_drewN o1 x1 y1 ((W.drew.drewN n3).drewN n2)
  rw [e1]
  exact ⟨1 + (n3 + (n2 + n1)), by unfold World.drewN World.drew; simp only [Nat.add_assoc]⟩
theorem fw_cell (op : BinOp) (x y : Nat) (W : World) (a : Addr) : (fw op x y W).cell? a = W.cell? a := by
  unfold fw
  cases floatBits op .f64 x y with
  | some r => rfl
  | none => rfl
theorem fw_frozen (op : BinOp) (x y : Nat) (W : World) (a : Addr) : (fw op x y W).frozen? a = W.frozen? a := by
  unfold fw
  cases floatBits op .f64 x y with
  | some r => rfl
  | none => rfl
structure Fits (o : Option Nat) (b : Nat) : Prop where
  yes : ∀ r, o = some r → b = r
  no : o = none → NaN b
theorem Fits.some' {r b : Nat} (h : Fits (some r) b) : b = r := h.yes r rfl
theorem Fits.none' {b : Nat} (h : Fits none b) : NaN b := h.no rfl
theorem fres_fits (op : BinOp) (x y : Nat) (W : World) : Fits (floatBits op .f64 x y) (fres op x y W) := by
  unfold fres
  cases floatBits op .f64 x y with
  | some r => exact ⟨fun _ e => (by injection e), fun e => (by cases e)⟩
  | none => exact ⟨fun _ e => (by cases e), fun _ => cut_NaN x y _⟩
theorem fits_lt {op : BinOp} {x y b : Nat} (h : Fits (floatBits op .f64 x y) b) : b < 18446744073709551616 := by
  cases e : floatBits op .f64 x y with
  | none => rw [e] at h; exact h.none'.1
  | some r =>
    rw [e] at h
    obtain rfl := h.some'
    have := floatBits_wf e
    simpa [Lit.wf] using this

/-! ### math.Round -/
theorem bits23 (b : Nat) (w : World) : (callFunc 23 #[.float .f64 b]).run Yba.prog w = .ok (.value (.int .u64 b)) w := by
  rw [run_callFunc_extern Yba.func23 (by kernel_rfl) (by kernel_rfl) (by kernel_rfl) (e := Extern.MathFloatBits.float64bits) (by kernel_rfl)]
  rfl
theorem from24 (n : Int) (w : World) : (callFunc 24 #[.int .u64 n]).run Yba.prog w = .ok (.value (.float .f64 n.toNat)) w := by
  rw [run_callFunc_extern Yba.func24 (by kernel_rfl) (by kernel_rfl) (by kernel_rfl) (e := Extern.MathFloatBits.float64frombits) (by kernel_rfl)]
  rfl
attribute [local go_sem] bits23 from24

def eB (b : Nat) : Int := bits BinOp.and IntKind.u64 ((b : Int) / 4503599627370496) 2047
theorem eB_nat (b : Nat) (hb : b < 18446744073709551616) : eB b = ((b / 4503599627370496 % 2048 : Nat) : Int) := by
  unfold eB
  have h := bits_and_u64_nat (b / 4503599627370496) 2047 (by omega) (by omega)
  have e : b / 4503599627370496 &&& 2047 = b / 4503599627370496 % 2048 := Nat.and_two_pow_sub_one_eq_mod _ 11
  rw [e] at h
  rw [← h]
  rfl
theorem NaN.eB {b : Nat} (h : NaN b) : eB b = 2047 := by
  obtain ⟨h1, h2⟩ := h
  rw [eB_nat b h1]
  omega
def roundB (b : Nat) : Nat :=
  if eB b < 1023 then
    if eB b = 1022 then (bits BinOp.or IntKind.u64 (bits BinOp.and IntKind.u64 (b : Int) 9223372036854775808) 4607182418800017408).toNat
    else (bits BinOp.and IntKind.u64 (b : Int) 9223372036854775808).toNat
  else if eB b < 1075 then
    (bits BinOp.andNot IntKind.u64 (IntKind.u64.wrap ((b : Int) + 2251799813685248 / 2 ^ (eB b - 1023).toNat)) (4503599627370495 / 2 ^ (eB b - 1023).toNat)).toNat
  else b
theorem NaN.round {b : Nat} (h : NaN b) : roundB b = b := by
  unfold roundB
  rw [h.eB]
  rfl

set_option maxRecDepth 100000 in
set_option maxHeartbeats 1000000 in
theorem round_any (b : Nat) (w : World) (hb : b < 18446744073709551616) :
    Calls Yba.prog 13 #[.float .f64 b] w fun e w' => e = .returned (.float .f64 (roundB b)) ∧ w' = w := by
  have he := eB_nat b hb
  have hlo : 0 ≤ eB b := by omega
  have hhi : eB b < 2048 := by omega
  have Hr : Hid (roundB b = if eB b < 1023 then (if eB b = 1022 then (bits BinOp.or IntKind.u64 (bits BinOp.and IntKind.u64 (b : Int) 9223372036854775808) 4607182418800017408).toNat else (bits BinOp.and IntKind.u64 (b : Int) 9223372036854775808).toNat) else if eB b < 1075 then (bits BinOp.andNot IntKind.u64 (IntKind.u64.wrap ((b : Int) + 2251799813685248 / 2 ^ (eB b - 1023).toNat)) (4503599627370495 / 2 ^ (eB b - 1023).toNat)).toNat else b) := rfl
  have hE : bits BinOp.and IntKind.u64 ((b : Int) / 4503599627370496) 2047 = eB b := rfl
  clear he
  generalize eB b = E at Hr hE hlo hhi
  generalize roundB b = R at Hr ⊢
  by_cases h1 : E < 1023
  · by_cases h2 : E = 1022
    · subst h2
      go_enter Yba.func13, Yba.ntmps13
      go_wp2_with fail
      go_ret
      exact ⟨by rw [Hr.out]; rfl, rfl⟩
    · have h3 : (E == 1022) = false := beq_eq_false_iff_ne.2 h2
      have Hr2 : Hid (R = (bits BinOp.and IntKind.u64 (b : Int) 9223372036854775808).toNat) := by rw [Hr.out, if_pos h1, if_neg h2]; exact rfl
      go_enter Yba.func13, Yba.ntmps13
      go_wp2_with fail
      go_ret
      exact ⟨by rw [Hr2.out]; rfl, rfl⟩
  · by_cases h2 : E < 1075
    · have Hr2 : Hid (R = (bits BinOp.andNot IntKind.u64 (IntKind.u64.wrap ((b : Int) + 2251799813685248 / 2 ^ (E - 1023).toNat)) (4503599627370495 / 2 ^ (E - 1023).toNat)).toNat) := by rw [Hr.out, if_neg h1, if_pos h2]; exact rfl
      go_enter Yba.func13, Yba.ntmps13
      go_wp2_with fail
      go_ret
      exact ⟨by rw [Hr2.out]; rfl, rfl⟩
    · have Hr2 : Hid (R = b) := by rw [Hr.out, if_neg h1, if_neg h2]; exact rfl
      go_enter Yba.func13, Yba.ntmps13
      go_wp2_with fail
      go_ret
      exact ⟨by rw [Hr2.out]; rfl, rfl⟩

/-! ### what the hops may be -/
def hop2 (K : Nat) (m : Option Nat) : Option Nat := match m with
  | none => none
  | some m => floatBits .quo .f64 (roundB m) K
def hop1 (K : Nat) (q : Option Nat) : Option Nat := match q with
  | none => none
  | some q => hop2 K (floatBits .mul .f64 q K)
def hopG (K : Nat) (l a h : Int) : Option Nat := hop1 K (floatBits .quo .f64 (floatOfInt .f64 (IntKind.i64.wrap (l - a))) (floatOfInt .f64 h))
theorem hop2_some (K m : Nat) : hop2 K (some m) = floatBits .quo .f64 (roundB m) K := by simp only [hop2]
theorem hop1_some (K q : Nat) : hop1 K (some q) = hop2 K (floatBits .mul .f64 q K) := by simp only [hop1]
theorem hop2_fits {K : Nat} {o : Option Nat} {m r : Nat} (hm : Fits o m) (hr : Fits (floatBits .quo .f64 (roundB m) K) r) : Fits (hop2 K o) r := by
  cases o with
  | none =>
    rw [hm.none'.round, hm.none'.quo] at hr
    exact hr
  | some m' =>
    rw [hm.some'] at hr
    rw [hop2_some]
    exact hr
theorem hop1_fits {K : Nat} {o : Option Nat} {q m r : Nat} (hq : Fits o q) (hm : Fits (floatBits .mul .f64 q K) m) (hr : Fits (floatBits .quo .f64 (roundB m) K) r) : Fits (hop1 K o) r := by
  cases o with
  | none =>
    rw [hq.none'.mul] at hm
    rw [hm.none'.round, hm.none'.quo] at hr
    exact hr
  | some q' =>
    rw [hq.some'] at hm
    rw [hop1_some]
    exact hop2_fits hm hr
theorem hop_fits {K : Nat} {l a h : Int} {q m r : Nat} (hq : Fits (floatBits .quo .f64 (floatOfInt .f64 (IntKind.i64.wrap (l - a))) (floatOfInt .f64 h)) q)
    (hm : Fits (floatBits .mul .f64 q K) m) (hr : Fits (floatBits .quo .f64 (roundB m) K) r) : Fits (hopG K l a h) r := by
  unfold hopG
  exact hop1_fits hq hm hr

/-! ### math.IsNaN, zzs6709csame -/
set_option maxHeartbeats 400000 in
theorem isnan_any (b : Nat) (w : World) : Calls Yba.prog 42 #[.float .f64 b] w fun e w' => e = .returned (.bool (FloatKind.f64.format.order b b != some .eq)) ∧ w' = w := by
  go_enter Yba.func42, Yba.ntmps42
  go_wp2
  go_ret
  exact ⟨rfl, rfl⟩

set_option maxRecDepth 100000 in
set_option maxHeartbeats 400000 in
theorem csame_any {o : Option Nat} (x y : Nat) (w : World) (hx : Fits o x) (hy : Fits o y) : Calls Yba.prog 26 #[.float .f64 x, .float .f64 y] w fun e w' => e = .returned (.bool true) ∧ w' = w := by
  have h : (x = y) ∨ (NaN x ∧ NaN y) := by
    cases o with
    | none => exact .inr ⟨hx.none', hy.none'⟩
    | some r => exact .inl (hx.some'.trans hy.some'.symm)
  clear hx hy
  rcases h with rfl | ⟨hx, hy⟩
  · rcases order_self x with e | e
    · have e1 : (FloatKind.f64.format.order x x != some .eq) = true := by rw [e]; rfl
      have hc := isnan_any x
      rw [e1] at hc
      clear e e1
      go_enter Yba.func26, Yba.ntmps26
      go_wp2_with (go_at_call 42; refine (hc _).mono ?_; rintro e w' ⟨rfl, rfl⟩)
      go_ret
      exact ⟨rfl, rfl⟩
    · have e1 : (FloatKind.f64.format.order x x != some .eq) = false := by rw [e]; rfl
      have e2 : (FloatKind.f64.format.order x x == some .eq) = true := by rw [e]; rfl
      have hc := isnan_any x
      rw [e1] at hc
      clear e e1
      go_enter Yba.func26, Yba.ntmps26
      go_wp2_with (go_at_call 42; refine (hc _).mono ?_; rintro e w' ⟨rfl, rfl⟩)
      go_ret
      exact ⟨rfl, rfl⟩
  · have hc := isnan_any x
    have hd := isnan_any y
    rw [show (FloatKind.f64.format.order x x != some .eq) = true by rw [hx.order]; rfl] at hc
    rw [show (FloatKind.f64.format.order y y != some .eq) = true by rw [hy.order]; rfl] at hd
    go_enter Yba.func26, Yba.ntmps26
    go_wp2_with fail
    refine (hc _).mono ?_
    rintro e w' ⟨rfl, rfl⟩
    go_wp2_with fail
    refine (hd _).mono ?_
    rintro e w'' ⟨rfl, rfl⟩
    go_wp2_with fail
    go_ret
    exact ⟨rfl, rfl⟩

set_option maxHeartbeats 400000 in
/-- 'slices.Equal' of two nil slices of strings. -/
theorem equal_nil (w : World) : Calls Yba.prog 25 #[.slice none 0 0, .slice none 0 0] w fun e w' => e = .returned (.bool true) ∧ w' = w := by
  go_enter Yba.func25, Yba.ntmps25
  go_wp2_with fail
  go_loop [13] (fun i => i = .int .i64 0) (fun _ => 0)
  case atStart => rfl
  case round =>
    subst hrel
    go_wp2_with fail
    go_ret
    exact ⟨rfl, rfl⟩

end Go.Proofs.Ybulkehxo
