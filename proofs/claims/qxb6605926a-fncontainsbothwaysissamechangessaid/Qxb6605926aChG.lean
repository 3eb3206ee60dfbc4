/-
  wellFormed (9).
-/
import Derived.Test.Qxb6605926aChF
namespace Go.Proofs.Qxb6605926a
open Go.RowKit

/-- A live change is no removal and its id is not removed. -/
def LiveOk (f : Nat → Ch) (n' : Nat) (f' : Nat → Ch) (i : Nat) : Prop := ((f i).op.toList == [45]) = false ∧ ¬ AnyRem f' n' (f i).id
/-- A removal has no address and no incarnation; a tombstone's id is removed. -/
def TombOk (n' : Nat) (f' : Nat → Ch) (i : Nat) : Prop := (((f' i).op.toList == [45]) = true → (f' i).addr.toList = [] ∧ (f' i).inc = 0) ∧ AnyRem f' n' (f' i).id
def WFm (n : Nat) (f : Nat → Ch) (n' : Nat) (f' : Nat → Ch) : Prop :=
  (Asc f n ∧ Asc f' n') ∧ (∀ i, i < n → LiveOk f n' f' i) ∧ ∀ i, i < n' → TombOk n' f' i

theorem wellFormed_c (a : Option Addr) (n cap : Nat) (f : Nat → Ch) (a' : Option Addr) (n' cap' : Nat) (f' : Nat → Ch) (w : World)
    (h : Row w a n f) (h' : Row w a' n' f') (hn : n ≤ 1048576) (hn' : n' ≤ 1048576) :
    Calls Try.prog 9 #[.slice a n cap, .slice a' n' cap'] w fun e w' => BPost (WFm n f n' f') w e w' := by
  have S1 : ∀ (W : World), Below w.heap.size w W → Calls Try.prog 19 #[.slice a n cap] W fun e w' => BPost (Asc f n) W e w' := fun W hW => strictlySorted_c a n cap f W (h.below hW) hn
  have S2 : ∀ (W : World), Below w.heap.size w W → Calls Try.prog 19 #[.slice a' n' cap'] W fun e w' => BPost (Asc f' n') W e w' := fun W hW => strictlySorted_c a' n' cap' f' W (h'.below hW) hn'
  have HR : ∀ (d : ByteArray) (W : World), Below w.heap.size w W → Calls Try.prog 20 #[.slice a' n' cap', .string d] W fun e w' => BPost (AnyRem f' n' d) W e w' := fun d W hW => hasRemoval_c a' n' cap' f' d W (h'.below hW) hn'
  go_enter Try.func9, Try.ntmps9
  go_wp2_with fail
  refine (S1 w (Below.refl _ _)).mono ?_
  rintro e w1 ⟨r1, rfl, hr1, hB1⟩
  cases r1
  case false =>
    go_wp2_with fail
    go_ret
    exact ⟨false, rfl, ⟨(fun h => by cases h), fun h => absurd (hr1.2 h.1.1) (by simp)⟩, hB1⟩
  go_wp2_with fail
  refine (S2 w1 hB1).mono ?_
  rintro e w2 ⟨r2, rfl, hr2, hB2⟩
  replace hB2 := gr3 hB1 hB2
  clear hB1
  cases r2
  case false =>
    go_wp2_with fail
    go_ret
    exact ⟨false, rfl, ⟨(fun h => by cases h), fun h => absurd (hr2.2 h.1.2) (by simp)⟩, hB2⟩
  have A : Hid (Asc f n ∧ Asc f' n') := hide ⟨hr1.1 (by simp), hr2.1 (by simp)⟩
  clear hr1 hr2 S1 S2
  go_wp2_with fail
  go_loopg [5] n (fun kk y wr => ∃ (i : Nat), y = .int .i64 i ∧ i + kk = n ∧ (∀ j, j < i → LiveOk f n' f' j) ∧ Below w.heap.size w wr)
  case atStart => exact ⟨0, rfl, by omega, fun j hj => by omega, hB2⟩
  case round =>
    clear hB2
    obtain ⟨i, rfl, hk, hP, hB⟩ := hrel
    have HP := hide hP
    clear hP
    by_cases hi : i < n
    case neg =>
      have hi' : ¬ (i : Int) < n := by omega
      go_wp2
      go_loopg [6] n' (fun kk y wr => ∃ (i : Nat), y = .int .i64 i ∧ i + kk = n' ∧ (∀ j, j < i → TombOk n' f' j) ∧ Below w.heap.size w wr)
      case atStart => exact ⟨0, rfl, by omega, fun j hj => by omega, hB⟩
      case round =>
        clear hB
        obtain ⟨i2, rfl, hk2, hP2, hB⟩ := hrel
        have HP2 := hide hP2
        clear hP2
        by_cases hi2 : i2 < n'
        case neg =>
          have hi2' : ¬ (i2 : Int) < n' := by omega
          go_wp2
          go_ret
          exact ⟨true, rfl, ⟨(fun _ => ⟨A.out, fun j hj => HP.out j (by omega), fun j hj => HP2.out j (by omega)⟩), fun _ => rfl⟩, hB⟩
        case pos =>
          have hi2' : (i2 : Int) < n' := by omega
          obtain ⟨b, o, rfl, hb, hc⟩ := h'.below hB (by omega)
          obtain ⟨p0, p1, p2, p3⟩ := hc i2 (by omega)
          clear hc h h'
          cases h1 : ((f' i2).op.toList == [45])
          case false =>
            go_wp2_with fail
            refine (HR (f' i2).id _ hB).mono ?_
            rintro e w' ⟨r, rfl, hr, hB3⟩
            cases r
            case false =>
              go_wp2_with fail
              go_ret
              exact ⟨false, rfl, ⟨(fun h => by cases h), fun h => absurd (hr.2 (h.2.2 i2 hi2).2) (by simp)⟩, gr3 hB hB3⟩
            case true =>
              go_wp2_with fail
              go_roundg (n' - (i2 + 1))
              case measure => omega
              case rel =>
                refine ⟨i2 + 1, by simp, by omega, fun j hj => ?_, gr3 hB hB3⟩
                rcases Nat.lt_or_ge j i2 with c | c
                · exact HP2.out j c
                · obtain rfl : j = i2 := by omega
                  exact ⟨fun e => absurd e (by rw [h1]; simp), hr.1 (by simp)⟩
          case true =>
            by_cases h2 : (f' i2).addr.toList = []
            case neg =>
              go_wp2_with fail
              go_ret
              exact ⟨false, rfl, ⟨(fun h => by cases h), fun h => absurd ((h.2.2 i2 hi2).1 h1).1 h2⟩, hB⟩
            case pos =>
              by_cases h3 : (f' i2).inc = 0
              case neg =>
                go_wp2_with fail
                go_ret
                exact ⟨false, rfl, ⟨(fun h => by cases h), fun h => absurd ((h.2.2 i2 hi2).1 h1).2 h3⟩, hB⟩
              case pos =>
                go_wp2_with fail
                refine (HR (f' i2).id _ hB).mono ?_
                rintro e w' ⟨r, rfl, hr, hB3⟩
                cases r
                case false =>
                  go_wp2_with fail
                  go_ret
                  exact ⟨false, rfl, ⟨(fun h => by cases h), fun h => absurd (hr.2 (h.2.2 i2 hi2).2) (by simp)⟩, gr3 hB hB3⟩
                case true =>
                  go_wp2_with fail
                  go_roundg (n' - (i2 + 1))
                  case measure => omega
                  case rel =>
                    refine ⟨i2 + 1, by simp, by omega, fun j hj => ?_, gr3 hB hB3⟩
                    rcases Nat.lt_or_ge j i2 with c | c
                    · exact HP2.out j c
                    · obtain rfl : j = i2 := by omega
                      exact ⟨fun _ => ⟨h2, h3⟩, hr.1 (by simp)⟩
    case pos =>
      have hi' : (i : Int) < n := by omega
      obtain ⟨b, o, rfl, hb, hc⟩ := h.below hB (by omega)
      obtain ⟨p0, p1, p2, p3⟩ := hc i (by omega)
      clear hc h h'
      cases h1 : ((f i).op.toList == [45])
      case true =>
        go_wp2_with fail
        go_ret
        exact ⟨false, rfl, ⟨(fun h => by cases h), fun h => absurd (h.2.1 i hi).1 (by rw [h1]; simp)⟩, hB⟩
      case false =>
        go_wp2_with fail
        refine (HR (f i).id _ hB).mono ?_
        rintro e w' ⟨r, rfl, hr, hB3⟩
        cases r
        case true =>
          go_wp2_with fail
          go_ret
          exact ⟨false, rfl, ⟨(fun h => by cases h), fun h => absurd (hr.1 (by simp)) (h.2.1 i hi).2⟩, gr3 hB hB3⟩
        case false =>
          go_wp2_with fail
          go_roundg (n - (i + 1))
          case measure => omega
          case rel =>
            refine ⟨i + 1, by simp, by omega, fun j hj => ?_, gr3 hB hB3⟩
            rcases Nat.lt_or_ge j i with c | c
            · exact HP.out j c
            · obtain rfl : j = i := by omega
              exact ⟨h1, fun x => absurd (hr.2 x) (by simp)⟩
end Go.Proofs.Qxb6605926a
