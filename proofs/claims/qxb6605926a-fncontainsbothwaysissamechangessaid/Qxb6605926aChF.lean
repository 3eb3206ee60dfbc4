/-
  includes (13).
-/
import Derived.Test.Qxb6605926aChE
namespace Go.Proofs.Qxb6605926a
open Go.RowKit

theorem gr3 {w W W' : World} (h : Below w.heap.size w W) (k : Below W.heap.size W W') : Below w.heap.size w W' := gr_trans h k

def Incl (n : Nat) (f : Nat → Ch) (n' : Nat) (f' : Nat → Ch) (m : Nat) (g : Nat → Ch) (m' : Nat) (g' : Nat → Ch) : Prop :=
  (∀ i, i < m → InL n f (g i) ∨ InL n' f' (g i)) ∧ ∀ i, i < m' → InL n f (g' i) ∨ InL n' f' (g' i)

theorem includes_c (a : Option Addr) (n cap : Nat) (f : Nat → Ch) (a' : Option Addr) (n' cap' : Nat) (f' : Nat → Ch) (c : Option Addr) (m capm : Nat) (g : Nat → Ch) (c' : Option Addr) (m' capm' : Nat) (g' : Nat → Ch) (w : World)
    (h : Row w a n f) (h' : Row w a' n' f') (k : Row w c m g) (k' : Row w c' m' g') (hn : n ≤ 1048576) (hn' : n' ≤ 1048576) (hm : m ≤ 1048576) (hm' : m' ≤ 1048576) :
    Calls Try.prog 13 #[.slice a n cap, .slice a' n' cap', .slice c m capm, .slice c' m' capm'] w fun e w' => BPost (Incl n f n' f' m g m' g') w e w' := by
  have IN : ∀ (x : Ch) (W : World), Below w.heap.size w W → Calls Try.prog 29 #[.slice a n cap, .slice a' n' cap', .agg #[.string x.op, .string x.id, .string x.addr, .int .u64 x.inc]] W fun e w' => BPost (InL n f x ∨ InL n' f' x) W e w' :=
    fun x W hW => inSet_c a n cap f a' n' cap' f' x W (h.below hW) (h'.below hW) hn hn'
  clear h h'
  go_enter Try.func13, Try.ntmps13
  go_wp2
  go_loopg [9] m (fun kk y wr => ∃ (i : Nat), y = .int .i64 i ∧ i + kk = m ∧ (∀ j, j < i → InL n f (g j) ∨ InL n' f' (g j)) ∧ Below w.heap.size w wr)
  case atStart => exact ⟨0, rfl, by omega, fun j hj => by omega, Below.refl _ _⟩
  case round =>
    obtain ⟨i, rfl, hk, hP, hB⟩ := hrel
    have HP := hide hP
    clear hP
    by_cases hi : i < m
    case neg =>
      have hi' : ¬ (i : Int) < m := by omega
      go_wp2
      go_loopg [10] m' (fun kk y wr => ∃ (i : Nat), y = .int .i64 i ∧ i + kk = m' ∧ (∀ j, j < i → InL n f (g' j) ∨ InL n' f' (g' j)) ∧ Below w.heap.size w wr)
      case atStart => exact ⟨0, rfl, by omega, fun j hj => by omega, hB⟩
      case round =>
        obtain ⟨i2, rfl, hk2, hP2, hB⟩ := hrel
        have HP2 := hide hP2
        clear hP2
        by_cases hi2 : i2 < m'
        case neg =>
          have hi2' : ¬ (i2 : Int) < m' := by omega
          go_wp2
          go_ret
          exact ⟨true, rfl, ⟨(fun _ => ⟨fun j hj => HP.out j (by omega), fun j hj => HP2.out j (by omega)⟩), fun _ => rfl⟩, hB⟩
        case pos =>
          have hi2' : (i2 : Int) < m' := by omega
          obtain ⟨b, o, rfl, hb, hc⟩ := k'.below hB (by omega)
          obtain ⟨p0, p1, p2, p3⟩ := hc i2 (by omega)
          clear hc k k'
          go_wp2_with fail
          refine (IN (g' i2) _ hB).mono ?_
          rintro e w' ⟨r, rfl, hr, hB2⟩
          cases r
          case false =>
            go_wp2_with fail
            go_ret
            exact ⟨false, rfl, ⟨(fun h => by cases h), fun h => absurd (hr.2 (h.2 i2 hi2)) (by simp)⟩, gr3 hB hB2⟩
          case true =>
            go_wp2_with fail
            go_roundg (m' - (i2 + 1))
            case measure => omega
            case rel =>
              refine ⟨i2 + 1, by simp, by omega, fun j hj => ?_, gr3 hB hB2⟩
              rcases Nat.lt_or_ge j i2 with c | c
              · exact HP2.out j c
              · obtain rfl : j = i2 := by omega
                exact hr.1 (by simp)
    case pos =>
      have hi' : (i : Int) < m := by omega
      obtain ⟨b, o, rfl, hb, hc⟩ := k.below hB (by omega)
      obtain ⟨p0, p1, p2, p3⟩ := hc i (by omega)
      clear hc k k'
      go_wp2_with fail
      refine (IN (g i) _ hB).mono ?_
      rintro e w' ⟨r, rfl, hr, hB2⟩
      cases r
      case false =>
        go_wp2_with fail
        go_ret
        exact ⟨false, rfl, ⟨(fun h => by cases h), fun h => absurd (hr.2 (h.1 i hi)) (by simp)⟩, gr3 hB hB2⟩
      case true =>
        go_wp2_with fail
        go_roundg (m - (i + 1))
        case measure => omega
        case rel =>
          refine ⟨i + 1, by simp, by omega, fun j hj => ?_, gr3 hB hB2⟩
          rcases Nat.lt_or_ge j i with c | c
          · exact HP.out j c
          · obtain rfl : j = i := by omega
            exact hr.1 (by simp)
end Go.Proofs.Qxb6605926a
