/-
  'Replication.MissPercent' (function 24): what it computes, by a walk; and the two laws' tests over it, as plain facts in the walk's own forms.
-/
import Derived.Test.Qxb6613305aRows
import Derived.Test.Qxb6613305aFlt
import Derived.WalkKit
import Derived.WalkSpells
import Derived.WalkLawsBesides
import Derived.RowKit3
import Derived.Laws.FloatArith
namespace Go.Proofs.Qxb6613305a
open Go.RowKit

theorem grown_trans {a b c : World} (h1 : Grown a b) (h2 : Grown b c) : Grown a c :=
  ⟨World.keptBut_trans h1.1 h2.1, fun x => (h2.2.1 x).trans (h1.2.1 x), Nat.le_trans h1.2.2 h2.2.2⟩

/-- The miss percentage as bits of a float64. -/
def mpv (m k l : Int) : Nat := Flt.MP (k + l).toNat m.toNat

theorem foi (n : Int) (h : 0 ≤ n) : floatOfInt .f64 n = Flt.F n.toNat := by
  obtain ⟨k, rfl⟩ := Int.eq_ofNat_of_zero_le h
  unfold floatOfInt FloatKind.nearest FloatKind.encode Flt.F
  have e : decide ((k : Int) < 0) = false := by rw [decide_eq_false_iff_not]; omega
  rw [e, Int.natAbs_natCast, Int.toNat_natCast]; rfl

theorem hundred : (4636737291354636288 : Nat) = Flt.F 100 := by decide +kernel
theorem one_bits : (4607182418800017408 : Nat) = Flt.F 1 := by decide +kernel

set_option maxHeartbeats 400000 in
theorem mp_any (m k l : Int) (hm : 1 ≤ m) (hm' : m ≤ 4398046511104) (hk : 0 ≤ k) (hl : 0 ≤ l) (hk' : k ≤ 4398046511103) (hl' : l ≤ 4398046511103) (w : World) :
    Calls Try.prog 24 #[.agg #[.int .i64 0, .int .i64 m, .int .i64 0, .int .i64 k, .int .i64 l, .slice none 0 0, .int .i64 0, .int .i64 0, .int .i64 0, .int .i64 0, .int .i64 0, .int .i64 0, .int .i64 0, .int .i64 0, .int .i64 0, .float .f64 0, .float .f64 0, .int .i64 0, .int .i64 0, .int .i64 0, .int .i64 0, .float .f64 0, .float .f64 0, .float .f64 0]] w
      fun e w' => e = .returned (.float .f64 (mpv m k l)) ∧ Grown w w' := by
  have c := Flt.MP_calc (k + l).toNat m.toNat (by omega) (by omega) (by omega)
  have e1 : ∀ w : World, (binOp .mul 46 (.float .f64 4636737291354636288) (.float .f64 (floatOfInt .f64 (k + l)))).run Try.prog w = .ok (.float .f64 (Flt.F (100 * (k + l).toNat))) w := by
    intro w
    refine run_float_arith w .mul 46 .f64 _ _ _ ?_
    rw [hundred, foi _ (by omega)]; exact c.1
  have e2 : ∀ w : World, (binOp .quo 46 (.float .f64 (Flt.F (100 * (k + l).toNat))) (.float .f64 (floatOfInt .f64 m))).run Try.prog w = .ok (.float .f64 (mpv m k l)) w := by
    intro w
    refine run_float_arith w .quo 46 .f64 _ _ _ ?_
    rw [foi _ (by omega)]; exact c.2
  clear c
  go_enter Try.func24, Try.ntmps24
  go_wp2
  go_ret
  exact ⟨rfl, by repeat (first | exact Grown.refl _ | apply Grown.drew | apply Grown.alloc)⟩

/-- The contract of function 24 over whatever function f computes it: the walks of the laws take f as a letter (the checker would else reckon 'mpv' out). -/
def MpC (f : Int → Int → Int → Nat) : Prop := ∀ m k l : Int, 1 ≤ m → m ≤ 4398046511104 → 0 ≤ k → 0 ≤ l → k ≤ 4398046511103 → l ≤ 4398046511103 → ∀ w : World,
    Calls Try.prog 24 #[.agg #[.int .i64 0, .int .i64 m, .int .i64 0, .int .i64 k, .int .i64 l, .slice none 0 0, .int .i64 0, .int .i64 0, .int .i64 0, .int .i64 0, .int .i64 0, .int .i64 0, .int .i64 0, .int .i64 0, .int .i64 0, .float .f64 0, .float .f64 0, .int .i64 0, .int .i64 0, .int .i64 0, .int .i64 0, .float .f64 0, .float .f64 0, .float .f64 0]] w
      fun e w' => e = .returned (.float .f64 (f m k l)) ∧ Grown w w'
theorem mp_c : MpC mpv := fun m k l a b c d e g w => mp_any m k l a b c d e g w

/-- The result under a name; closed to the walk. -/
def MpIs (f : Int → Int → Int → Nat) (m k l : Int) (r : Nat) : Prop := f m k l = r

theorem mp_r {f : Int → Int → Int → Nat} (hc : MpC f) (m k l : Int) (r : Nat) (hr : MpIs f m k l r) (hm : 1 ≤ m) (hm' : m ≤ 4398046511104) (hk : 0 ≤ k) (hl : 0 ≤ l) (hk' : k ≤ 4398046511103) (hl' : l ≤ 4398046511103) (w : World) :
    Calls Try.prog 24 #[.agg #[.int .i64 0, .int .i64 m, .int .i64 0, .int .i64 k, .int .i64 l, .slice none 0 0, .int .i64 0, .int .i64 0, .int .i64 0, .int .i64 0, .int .i64 0, .int .i64 0, .int .i64 0, .int .i64 0, .int .i64 0, .float .f64 0, .float .f64 0, .int .i64 0, .int .i64 0, .int .i64 0, .int .i64 0, .float .f64 0, .float .f64 0, .float .f64 0]] w
      fun e w' => e = .returned (.float .f64 r) ∧ Grown w w' := (show f m k l = r from hr) ▸ hc m k l hm hm' hk hl hk' hl' w

/-- Two finite floats that are not negative stand to each other as their bits do. -/
theorem ord_bits {a b : Nat} (ha : a < 2047 * 2 ^ 52) (hb : b < 2047 * 2 ^ 52) : FloatKind.f64.format.order a b = some (compare a b) := Flt.order_rungs a b ha hb

theorem not_lt_bits {a b : Nat} (ha : a < 2047 * 2 ^ 52) (hb : b < 2047 * 2 ^ 52) (h : b ≤ a) : (FloatKind.f64.format.order a b == some .lt) = false := by
  rw [ord_bits ha hb, beq_eq_false_iff_ne]
  intro e
  rw [Option.some_inj, Nat.compare_eq_lt] at e
  omega
theorem not_gt_bits {a b : Nat} (ha : a < 2047 * 2 ^ 52) (hb : b < 2047 * 2 ^ 52) (h : a ≤ b) : (FloatKind.f64.format.order a b == some .gt) = false := by
  rw [ord_bits ha hb, beq_eq_false_iff_ne]
  intro e
  rw [Option.some_inj, Nat.compare_eq_gt] at e
  omega
theorem gt_bits {a b : Nat} (ha : a < 2047 * 2 ^ 52) (hb : b < 2047 * 2 ^ 52) (h : b < a) : (FloatKind.f64.format.order a b == some .gt) = true := by
  rw [ord_bits ha hb, beq_iff_eq, Option.some_inj, Nat.compare_eq_gt]; exact h
theorem eq_bits {a b : Nat} (ha : a < 2047 * 2 ^ 52) (hb : b < 2047 * 2 ^ 52) (h : a = b) : (FloatKind.f64.format.order a b == some .eq) = true := by
  rw [ord_bits ha hb, beq_iff_eq, Option.some_inj, Nat.compare_eq_eq]; exact h
theorem not_eq_bits {a b : Nat} (ha : a < 2047 * 2 ^ 52) (hb : b < 2047 * 2 ^ 52) (h : a ≠ b) : (FloatKind.f64.format.order a b == some .eq) = false := by
  rw [ord_bits ha hb, beq_eq_false_iff_ne]
  intro e
  rw [Option.some_inj, Nat.compare_eq_eq] at e
  exact h e
theorem not_ne_bits {a b : Nat} (ha : a < 2047 * 2 ^ 52) (hb : b < 2047 * 2 ^ 52) (h : a = b) : (FloatKind.f64.format.order a b != some .eq) = false := by
  rw [bne, eq_bits ha hb h]; rfl

theorem cast_div (x m : Nat) : (100 * (x : Int) / (m : Int)) = ((100 * x / m : Nat) : Int) := by
  rw [Int.natCast_ediv, Int.natCast_mul]; rfl
theorem cast_mod (x m : Nat) (h : 100 * (x : Int) % (m : Int) = 0) : 100 * x % m = 0 := by
  have e : (100 * (x : Int) % (m : Int)) = ((100 * x % m : Nat) : Int) := by rw [Int.natCast_emod, Int.natCast_mul]; rfl
  rw [e] at h; omega

/-! ### The tests of 'FnMissPercentSplitAndScale' -/
theorem split_facts (a0 a1 a2 : Int) (h0 : 1 ≤ a0) (h1 : 0 ≤ a1) (h2 : 0 ≤ a2) (h3 : a0 ≤ 1099511627776) (h4 : a1 ≤ 1099511627776) (h5 : a2 ≤ 1099511627776) :
    ∃ r hi : Nat, MpIs mpv a0 a1 a2 r ∧ MpIs mpv a0 (a1 + a2) 0 r ∧ MpIs mpv a0 0 (a1 + a2) r ∧ MpIs mpv (2 * a0) (2 * a1) (2 * a2) r
      ∧ floatBits .add .f64 (floatOfInt .f64 (100 * (a1 + a2) / a0)) 4607182418800017408 = some hi
      ∧ (FloatKind.f64.format.order r (floatOfInt .f64 (100 * (a1 + a2) / a0)) == some .lt) = false
      ∧ (FloatKind.f64.format.order r hi == some .gt) = false
      ∧ (100 * (a1 + a2) % a0 = 0 → (FloatKind.f64.format.order r (floatOfInt .f64 (100 * (a1 + a2) / a0)) != some .eq) = false)
      ∧ (FloatKind.f64.format.order r r == some .eq) = true := by
  obtain ⟨m, rfl⟩ := Int.eq_ofNat_of_zero_le (show 0 ≤ a0 by omega)
  obtain ⟨x, hx⟩ := Int.eq_ofNat_of_zero_le (show 0 ≤ a1 + a2 by omega)
  have hxb : x ≤ 2199023255552 := by omega
  have hm0 : m ≠ 0 := by omega
  have fr := Flt.MP_fin x m (by omega) hm0
  have hq : (100 * (a1 + a2) / (m : Int)) = ((100 * x / m : Nat) : Int) := by rw [hx]; exact cast_div x m
  have hqle : 100 * x / m ≤ 100 * x := Nat.div_le_self _ _
  have dm := Nat.div_add_mod (100 * x) m
  have ml := Nat.mod_lt (100 * x) (show 0 < m by omega)
  have hc : m * (100 * x / m) = 100 * x / m * m := Nat.mul_comm _ _
  have flo := Flt.F_fin (100 * x / m) (by omega)
  have fhi := Flt.F_fin (100 * x / m + 1) (by omega)
  have e0 : floatOfInt .f64 (100 * (a1 + a2) / (m : Int)) = Flt.F (100 * x / m) := by rw [hq, foi _ (Int.natCast_nonneg _), Int.toNat_natCast]
  refine ⟨Flt.MP x m, Flt.F (100 * x / m + 1), ?_, ?_, ?_, ?_, ?_, ?_, ?_, ?_, ?_⟩
  · unfold MpIs mpv; rw [hx, Int.toNat_natCast, Int.toNat_natCast]
  · unfold MpIs mpv; rw [hx, Int.add_zero, Int.toNat_natCast, Int.toNat_natCast]
  · unfold MpIs mpv; rw [hx, Int.zero_add, Int.toNat_natCast, Int.toNat_natCast]
  · unfold MpIs mpv
    rw [show (2 * a1 + 2 * a2).toNat = 2 * x by omega, show (2 * (m : Int)).toNat = 2 * m by omega]
    exact Flt.MP_twice x m hm0
  · rw [e0, one_bits]; exact Flt.addF _ (by omega)
  · rw [e0]; exact not_lt_bits fr flo (Flt.MP_ge x m _ hm0 (by omega) (by omega))
  · refine not_gt_bits fr fhi (Flt.MP_le x m _ hm0 (by omega) ?_)
    rw [Nat.add_mul, Nat.one_mul]; omega
  · intro hz
    rw [e0]
    have hz' : 100 * x % m = 0 := cast_mod x m (by rw [hx] at hz; exact hz)
    exact not_ne_bits fr flo (Flt.MP_eq x m _ hm0 (by omega) (by omega))
  · exact eq_bits fr fr rfl
end Go.Proofs.Qxb6613305a
