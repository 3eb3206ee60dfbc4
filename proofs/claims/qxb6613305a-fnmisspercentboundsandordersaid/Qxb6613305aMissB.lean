/-
  The tests of 'FnMissPercentBoundsAndOrder' as plain facts in the walk's own forms.
-/
import Derived.Test.Qxb6613305aMiss
namespace Go.Proofs.Qxb6613305a
open Go.RowKit

theorem bounds_facts (a0 a1 a2 : Int) (h0 : 1 ≤ a0) (h1 : 0 ≤ a1) (h2 : 0 ≤ a2) (h3 : a0 ≤ 1099511627776) (hx : a1 + a2 ≤ a0) :
    ∃ r hi rk rl rm : Nat, MpIs mpv a0 a1 a2 r ∧ MpIs mpv a0 (a1 + 1) a2 rk ∧ MpIs mpv a0 a1 (a2 + 1) rl ∧ MpIs mpv (a0 + 1) a1 a2 rm
      ∧ floatBits .add .f64 (floatOfInt .f64 (100 * (a1 + a2) / a0)) 4607182418800017408 = some hi
      ∧ (FloatKind.f64.format.order r 0 == some .lt) = false
      ∧ (FloatKind.f64.format.order r 4636737291354636288 == some .gt) = false
      ∧ (FloatKind.f64.format.order r 4636737291354636288 == some .eq) = decide (a1 + a2 = a0)
      ∧ (FloatKind.f64.format.order r 0 == some .eq) = decide (a1 + a2 = 0)
      ∧ (FloatKind.f64.format.order r (floatOfInt .f64 (100 * (a1 + a2) / a0)) == some .lt) = false
      ∧ (FloatKind.f64.format.order r hi == some .gt) = false
      ∧ (FloatKind.f64.format.order rk r == some .gt) = true
      ∧ (FloatKind.f64.format.order rl r == some .gt) = true
      ∧ (FloatKind.f64.format.order rm r == some .gt) = false := by
  obtain ⟨m, rfl⟩ := Int.eq_ofNat_of_zero_le (show 0 ≤ a0 by omega)
  obtain ⟨x, ex⟩ := Int.eq_ofNat_of_zero_le (show 0 ≤ a1 + a2 by omega)
  have hxb : x ≤ m := by omega
  have hm0 : m ≠ 0 := by omega
  have hmb : m ≤ 1099511627776 := by omega
  have fr := Flt.MP_fin x m (by omega) hm0
  have fr1 := Flt.MP_fin (x + 1) m (by omega) hm0
  have frm := Flt.MP_fin x (m + 1) (by omega) (by omega)
  have hq : (100 * (a1 + a2) / (m : Int)) = ((100 * x / m : Nat) : Int) := by rw [ex]; exact cast_div x m
  have hqle : 100 * x / m ≤ 100 * x := Nat.div_le_self _ _
  have dm := Nat.div_add_mod (100 * x) m
  have ml := Nat.mod_lt (100 * x) (show 0 < m by omega)
  have hc : m * (100 * x / m) = 100 * x / m * m := Nat.mul_comm _ _
  have flo := Flt.F_fin (100 * x / m) (by omega)
  have fhi := Flt.F_fin (100 * x / m + 1) (by omega)
  have f100 := Flt.F_fin 100 (by omega)
  have f0 := Flt.F_fin 0 (by omega)
  have lt1 := Flt.MP_lt x m (by omega) hm0 (by omega)
  have le100 := Flt.MP_le x m 100 hm0 (by omega) (by omega)
  have ge0 := Flt.MP_ge x m 0 hm0 (by omega) (by omega)
  have e0 : floatOfInt .f64 (100 * (a1 + a2) / (m : Int)) = Flt.F (100 * x / m) := by rw [hq, foi _ (Int.natCast_nonneg _), Int.toNat_natCast]
  refine ⟨Flt.MP x m, Flt.F (100 * x / m + 1), Flt.MP (x + 1) m, Flt.MP (x + 1) m, Flt.MP x (m + 1), ?_, ?_, ?_, ?_, ?_, ?_, ?_, ?_, ?_, ?_, ?_, ?_, ?_, ?_⟩
  · unfold MpIs mpv; rw [ex, Int.toNat_natCast, Int.toNat_natCast]
  · unfold MpIs mpv; rw [show (a1 + 1 + a2).toNat = x + 1 by omega, Int.toNat_natCast]
  · unfold MpIs mpv; rw [show (a1 + (a2 + 1)).toNat = x + 1 by omega, Int.toNat_natCast]
  · unfold MpIs mpv; rw [ex, Int.toNat_natCast, show ((m : Int) + 1).toNat = m + 1 by omega]
  · rw [e0, one_bits]; exact Flt.addF _ (by omega)
  · rw [← Flt.F_zero]; exact not_lt_bits fr f0 ge0
  · rw [hundred]; exact not_gt_bits fr f100 le100
  · rw [hundred]
    by_cases c : x = m
    · rw [decide_eq_true (by omega)]
      refine eq_bits fr f100 (Flt.MP_eq x m 100 hm0 (by omega) (by omega))
    · rw [decide_eq_false (by omega)]
      refine not_eq_bits fr f100 ?_
      have := Flt.MP_le (x + 1) m 100 hm0 (by omega) (by omega)
      omega
  · rw [← Flt.F_zero]
    by_cases c : x = 0
    · rw [decide_eq_true (by omega)]
      refine eq_bits fr f0 (Flt.MP_eq x m 0 hm0 (by omega) (by omega))
    · rw [decide_eq_false (by omega)]
      refine not_eq_bits fr f0 ?_
      have l0 := Flt.MP_lt 0 m (by omega) hm0 (by omega)
      have l1 := Flt.MP_mono (0 + 1) x m hm0 (by omega)
      rw [Flt.F_zero]
      omega
  · rw [e0]; exact not_lt_bits fr flo (Flt.MP_ge x m _ hm0 (by omega) (by omega))
  · refine not_gt_bits fr fhi (Flt.MP_le x m _ hm0 (by omega) ?_)
    rw [Nat.add_mul, Nat.one_mul]; omega
  · exact gt_bits fr1 fr lt1
  · exact gt_bits fr1 fr lt1
  · exact not_gt_bits frm fr (Flt.MP_more x m hm0)
end Go.Proofs.Qxb6613305a
