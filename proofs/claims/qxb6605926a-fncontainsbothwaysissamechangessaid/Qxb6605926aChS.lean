/-
  zzBytes (6).
-/
import Derived.Test.Qxb6605926aChL
namespace Go.Proofs.Qxb6605926a
open Go.RowKit

def ZPost (n1 n2 n3 n4 : Nat) (w : World) (e : Ending) (w' : World) : Prop := ∃ b : Bool, e = .returned (.bool b) ∧ (b = true → n1 ≤ 1048576 ∧ n2 ≤ 1048576 ∧ n3 ≤ 1048576 ∧ n4 ≤ 1048576) ∧ Below w.heap.size w w'
theorem zno {n1 n2 n3 n4 : Nat} {w w' : World} (h : Below w.heap.size w w') : ZPost n1 n2 n3 n4 w (.returned (.bool false)) w' := ⟨false, rfl, (fun e => by cases e), h⟩
theorem two_alloc (w : World) (a b : Obj) : Below w.heap.size w ((w.alloc a).alloc b) := gr_trans (below_alloc _ _) (below_alloc _ _)

set_option maxRecDepth 1000000 in
set_option maxHeartbeats 4000000 in
theorem zz6_c (a1 : Option Addr) (n1 c1 : Nat) (f1 : Nat → Ch) (a2 : Option Addr) (n2 c2 : Nat) (f2 : Nat → Ch) (d1 : Nat → Int) (a3 : Option Addr) (n3 c3 : Nat) (f3 : Nat → Ch) (a4 : Option Addr) (n4 c4 : Nat) (f4 : Nat → Ch) (d2 : Nat → Int) (w : World)
    (h1 : Row w a1 n1 f1) (h2 : Row w a2 n2 f2) (h3 : Row w a3 n3 f3) (h4 : Row w a4 n4 f4) :
    Calls Try.prog 6 #[.slice a1 n1 c1, .slice a2 n2 c2, .agg (dval d1), .slice a3 n3 c3, .slice a4 n4 c4, .agg (dval d2)] w fun e w' => ZPost n1 n2 n3 n4 w e w' := by
  generalize dval d1 = D1
  generalize dval d2 = D2
  have H1 := hide h1
  have H2 := hide h2
  have H3 := hide h3
  have H4 := hide h4
  clear h1 h2 h3 h4
  by_cases e1 : (1048576 : Int) < n1
  case pos =>
    go_enter Try.func6, Try.ntmps6
    go_wp2
    go_ret
    exact zno (two_alloc _ _ _)
  case neg =>
    go_enter Try.func6, Try.ntmps6
    go_wp2
    have hB := two_alloc w (Obj.cells D1 23) (Obj.cells D2 23)
    generalize hW0 : (w.alloc (Obj.cells D1 23)).alloc (Obj.cells D2 23) = W0 at *
    clear hW0
    go_loopg [13, 14] n1 (fun k x y wr => ∃ (i : Nat) (r : Int), x = .int .i64 r ∧ y = .int .i64 i ∧ i + k = n1 ∧ 0 ≤ r ∧ r ≤ 1048576 ∧ wr = W0)
    case atStart => exact ⟨0, n1, rfl, rfl, by omega, by omega, by omega, rfl⟩
    case round =>
      obtain ⟨i1, r1, rfl, rfl, hk1, hr1a, hr1b, hwr⟩ := hrel
      obtain rfl := hwr.symm
      by_cases hi1 : i1 < n1
      case neg =>
        have hi1' : ¬ (i1 : Int) < n1 := by omega
        by_cases e2 : (1048576 : Int) < n2
        case pos =>
          go_wp2
          go_ret
          exact zno hB
        case neg =>
        by_cases s2 : (1048576 : Int) < r1 + n2
        case pos =>
          go_wp2
          go_ret
          exact zno hB
        case neg =>
        go_wp2
        go_loopg [13, 15] n2 (fun k x y wr => ∃ (i : Nat) (r : Int), x = .int .i64 r ∧ y = .int .i64 i ∧ i + k = n2 ∧ 0 ≤ r ∧ r ≤ 1048576 ∧ wr = W0)
        case atStart => exact ⟨0, r1 + n2, rfl, rfl, by omega, by omega, by omega, rfl⟩
        case round =>
          obtain ⟨i2, r2, rfl, rfl, hk2, hr2a, hr2b, hwr⟩ := hrel
          obtain rfl := hwr.symm
          by_cases hi2 : i2 < n2
          case neg =>
            have hi2' : ¬ (i2 : Int) < n2 := by omega
            by_cases e3 : (1048576 : Int) < n3
            case pos =>
              go_wp2
              go_ret
              exact zno hB
            case neg =>
            by_cases s3 : (1048576 : Int) < r2 + n3
            case pos =>
              go_wp2
              go_ret
              exact zno hB
            case neg =>
            go_wp2
            go_loopg [13, 16] n3 (fun k x y wr => ∃ (i : Nat) (r : Int), x = .int .i64 r ∧ y = .int .i64 i ∧ i + k = n3 ∧ 0 ≤ r ∧ r ≤ 1048576 ∧ wr = W0)
            case atStart => exact ⟨0, r2 + n3, rfl, rfl, by omega, by omega, by omega, rfl⟩
            case round =>
              obtain ⟨i3, r3, rfl, rfl, hk3, hr3a, hr3b, hwr⟩ := hrel
              obtain rfl := hwr.symm
              by_cases hi3 : i3 < n3
              case neg =>
                have hi3' : ¬ (i3 : Int) < n3 := by omega
                by_cases e4 : (1048576 : Int) < n4
                case pos =>
                  go_wp2
                  go_ret
                  exact zno hB
                case neg =>
                by_cases s4 : (1048576 : Int) < r3 + n4
                case pos =>
                  go_wp2
                  go_ret
                  exact zno hB
                case neg =>
                go_wp2
                go_loopg [13, 17] n4 (fun k x y wr => ∃ (i : Nat) (r : Int), x = .int .i64 r ∧ y = .int .i64 i ∧ i + k = n4 ∧ 0 ≤ r ∧ r ≤ 1048576 ∧ wr = W0)
                case atStart => exact ⟨0, r3 + n4, rfl, rfl, by omega, by omega, by omega, rfl⟩
                case round =>
                  obtain ⟨i4, r4, rfl, rfl, hk4, hr4a, hr4b, hwr⟩ := hrel
                  obtain rfl := hwr.symm
                  by_cases hi4 : i4 < n4
                  case neg =>
                    have hi4' : ¬ (i4 : Int) < n4 := by omega
                    go_wp2
                    go_ret
                    exact ⟨true, rfl, fun _ => ⟨by omega, by omega, by omega, by omega⟩, hB⟩
                  case pos =>
                    have hi4' : (i4 : Int) < n4 := by omega
                    have hi4z : (0 : Int) ≤ i4 := by omega
                    obtain ⟨b, o, rfl, hb, hc⟩ := H4.out.below hB (by omega)
                    obtain ⟨p0, p1, p2, p3⟩ := hc i4 hi4
                    clear hc
                    by_cases x0 : (1048576 : Int) < (f4 i4).op.size
                    case pos =>
                      go_wp2
                      go_ret
                      exact zno hB
                    case neg =>
                    by_cases y0 : (1048576 : Int) < r4 + (f4 i4).op.size
                    case pos =>
                      go_wp2
                      go_ret
                      exact zno hB
                    case neg =>
                    by_cases x1 : (1048576 : Int) < (f4 i4).id.size
                    case pos =>
                      go_wp2
                      go_ret
                      exact zno hB
                    case neg =>
                    by_cases y1 : (1048576 : Int) < r4 + (f4 i4).op.size + (f4 i4).id.size
                    case pos =>
                      go_wp2
                      go_ret
                      exact zno hB
                    case neg =>
                    by_cases x2 : (1048576 : Int) < (f4 i4).addr.size
                    case pos =>
                      go_wp2
                      go_ret
                      exact zno hB
                    case neg =>
                    by_cases y2 : (1048576 : Int) < r4 + (f4 i4).op.size + (f4 i4).id.size + (f4 i4).addr.size
                    case pos =>
                      go_wp2
                      go_ret
                      exact zno hB
                    case neg =>
                    go_wp2
                    go_roundg (n4 - (i4 + 1))
                    case measure => omega
                    case rel => exact ⟨i4 + 1, r4 + (f4 i4).op.size + (f4 i4).id.size + (f4 i4).addr.size, rfl, by simp, by omega, by omega, by omega, rfl⟩
              case pos =>
                have hi3' : (i3 : Int) < n3 := by omega
                have hi3z : (0 : Int) ≤ i3 := by omega
                obtain ⟨b, o, rfl, hb, hc⟩ := H3.out.below hB (by omega)
                obtain ⟨p0, p1, p2, p3⟩ := hc i3 hi3
                clear hc
                by_cases x0 : (1048576 : Int) < (f3 i3).op.size
                case pos =>
                  go_wp2
                  go_ret
                  exact zno hB
                case neg =>
                by_cases y0 : (1048576 : Int) < r3 + (f3 i3).op.size
                case pos =>
                  go_wp2
                  go_ret
                  exact zno hB
                case neg =>
                by_cases x1 : (1048576 : Int) < (f3 i3).id.size
                case pos =>
                  go_wp2
                  go_ret
                  exact zno hB
                case neg =>
                by_cases y1 : (1048576 : Int) < r3 + (f3 i3).op.size + (f3 i3).id.size
                case pos =>
                  go_wp2
                  go_ret
                  exact zno hB
                case neg =>
                by_cases x2 : (1048576 : Int) < (f3 i3).addr.size
                case pos =>
                  go_wp2
                  go_ret
                  exact zno hB
                case neg =>
                by_cases y2 : (1048576 : Int) < r3 + (f3 i3).op.size + (f3 i3).id.size + (f3 i3).addr.size
                case pos =>
                  go_wp2
                  go_ret
                  exact zno hB
                case neg =>
                go_wp2
                go_roundg (n3 - (i3 + 1))
                case measure => omega
                case rel => exact ⟨i3 + 1, r3 + (f3 i3).op.size + (f3 i3).id.size + (f3 i3).addr.size, rfl, by simp, by omega, by omega, by omega, rfl⟩
          case pos =>
            have hi2' : (i2 : Int) < n2 := by omega
            have hi2z : (0 : Int) ≤ i2 := by omega
            obtain ⟨b, o, rfl, hb, hc⟩ := H2.out.below hB (by omega)
            obtain ⟨p0, p1, p2, p3⟩ := hc i2 hi2
            clear hc
            by_cases x0 : (1048576 : Int) < (f2 i2).op.size
            case pos =>
              go_wp2
              go_ret
              exact zno hB
            case neg =>
            by_cases y0 : (1048576 : Int) < r2 + (f2 i2).op.size
            case pos =>
              go_wp2
              go_ret
              exact zno hB
            case neg =>
            by_cases x1 : (1048576 : Int) < (f2 i2).id.size
            case pos =>
              go_wp2
              go_ret
              exact zno hB
            case neg =>
            by_cases y1 : (1048576 : Int) < r2 + (f2 i2).op.size + (f2 i2).id.size
            case pos =>
              go_wp2
              go_ret
              exact zno hB
            case neg =>
            by_cases x2 : (1048576 : Int) < (f2 i2).addr.size
            case pos =>
              go_wp2
              go_ret
              exact zno hB
            case neg =>
            by_cases y2 : (1048576 : Int) < r2 + (f2 i2).op.size + (f2 i2).id.size + (f2 i2).addr.size
            case pos =>
              go_wp2
              go_ret
              exact zno hB
            case neg =>
            go_wp2
            go_roundg (n2 - (i2 + 1))
            case measure => omega
            case rel => exact ⟨i2 + 1, r2 + (f2 i2).op.size + (f2 i2).id.size + (f2 i2).addr.size, rfl, by simp, by omega, by omega, by omega, rfl⟩
      case pos =>
        have hi1' : (i1 : Int) < n1 := by omega
        have hi1z : (0 : Int) ≤ i1 := by omega
        obtain ⟨b, o, rfl, hb, hc⟩ := H1.out.below hB (by omega)
        obtain ⟨p0, p1, p2, p3⟩ := hc i1 hi1
        clear hc
        by_cases x0 : (1048576 : Int) < (f1 i1).op.size
        case pos =>
          go_wp2
          go_ret
          exact zno hB
        case neg =>
        by_cases y0 : (1048576 : Int) < r1 + (f1 i1).op.size
        case pos =>
          go_wp2
          go_ret
          exact zno hB
        case neg =>
        by_cases x1 : (1048576 : Int) < (f1 i1).id.size
        case pos =>
          go_wp2
          go_ret
          exact zno hB
        case neg =>
        by_cases y1 : (1048576 : Int) < r1 + (f1 i1).op.size + (f1 i1).id.size
        case pos =>
          go_wp2
          go_ret
          exact zno hB
        case neg =>
        by_cases x2 : (1048576 : Int) < (f1 i1).addr.size
        case pos =>
          go_wp2
          go_ret
          exact zno hB
        case neg =>
        by_cases y2 : (1048576 : Int) < r1 + (f1 i1).op.size + (f1 i1).id.size + (f1 i1).addr.size
        case pos =>
          go_wp2
          go_ret
          exact zno hB
        case neg =>
        go_wp2
        go_roundg (n1 - (i1 + 1))
        case measure => omega
        case rel => exact ⟨i1 + 1, r1 + (f1 i1).op.size + (f1 i1).id.size + (f1 i1).addr.size, rfl, by simp, by omega, by omega, by omega, rfl⟩
end Go.Proofs.Qxb6605926a
