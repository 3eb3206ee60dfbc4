import Derived.Test.Qxb6605926aChA
namespace Go.Proofs.Qxb6605926a
open Go.RowKit

/-- The first n changes behind the address a. -/
def Row (w : World) (a : Option Addr) (n : Nat) (f : Nat → Ch) : Prop :=
  0 < n → ∃ b o, a = some ⟨b, o, none⟩ ∧ b < w.heap.size ∧ ∀ i, i < n →
    w.cell? ⟨b, o + i * 4, none⟩ = some (.string (f i).op) ∧ w.cell? ⟨b, o + i * 4 + 1, none⟩ = some (.string (f i).id) ∧ w.cell? ⟨b, o + i * 4 + 2, none⟩ = some (.string (f i).addr) ∧ w.cell? ⟨b, o + i * 4 + 3, none⟩ = some (.int .u64 (f i).inc)

theorem cell_below {B : Nat} {w w' : World} (h : Below B w w') {b o : Nat} (hb : b < B) : w'.cell? ⟨b, o, none⟩ = w.cell? ⟨b, o, none⟩ := by
  simp only [World.cell?, h.block b hb]

theorem Row.below {w w' : World} {a : Option Addr} {n : Nat} {f : Nat → Ch} (h : Row w a n f) (hb : Below w.heap.size w w') : Row w' a n f := by
  intro h0
  obtain ⟨b, o, e, hl, hc⟩ := h h0
  refine ⟨b, o, e, Nat.lt_of_lt_of_le hl hb.size, fun i hi => ?_⟩
  rw [cell_below hb hl, cell_below hb hl, cell_below hb hl, cell_below hb hl]
  exact hc i hi

def IntPost (w : World) (e : Ending) (w' : World) : Prop := ∃ r : Int, e = .returned (.int .i64 r) ∧ 0 ≤ r ∧ r ≤ 2097152 ∧ w' = w

theorem addL_le (n k : Int) (hn : 0 ≤ n) (hk : 0 ≤ k) : 0 ≤ addL n k ∧ addL n k ≤ 2097152 := by
  unfold addL; split <;> omega

theorem addLen_p (n k : Int) (w : World) (hn : 0 ≤ n) (hk : 0 ≤ k) :
    Calls Try.prog 7 #[.int .i64 n, .int .i64 k] w fun e w' => IntPost w e w' := by
  refine (addLen_c n k w (by omega) (by omega)).mono ?_
  rintro e w' ⟨rfl, rfl⟩
  exact ⟨_, rfl, (addL_le n k hn hk).1, (addL_le n k hn hk).2, rfl⟩

theorem chgBytes_c (a : Option Addr) (n cap : Nat) (f : Nat → Ch) (w : World) (h : Row w a n f) (hn : n ≤ 1048576) :
    Calls Try.prog 8 #[.slice a n cap] w fun e w' => IntPost w e w' := by
  go_enter Try.func8, Try.ntmps8
  go_wp2
  go_loopg [3, 4] n (fun k x y wr => ∃ (i : Nat) (r : Int), x = .int .i64 r ∧ y = .int .i64 i ∧ i + k = n ∧ 0 ≤ r ∧ r ≤ 1048576 ∧ wr = w)
  case atStart => exact ⟨0, 0, rfl, rfl, by omega, by omega, by omega, rfl⟩
  case round =>
    obtain ⟨i, r, rfl, rfl, hk, hr0, hr1, rfl⟩ := hrel
    by_cases hi : i < n
    case neg =>
      have hi' : ¬ (i : Int) < n := by omega
      go_wp2
      go_ret
      exact ⟨r, rfl, hr0, by omega, rfl⟩
    case pos =>
      have hi' : (i : Int) < n := by omega
      obtain ⟨b, o, rfl, hb, hc⟩ := h (by omega)
      obtain ⟨c0, c1, c2, c3⟩ := hc i hi
      clear h hc
      go_wp2_with fail
      refine (addLen_p r 8 wr hr0 (by omega)).mono ?_
      rintro e w' ⟨s1, rfl, hs10, hs11, hw'⟩; obtain rfl := hw'.symm
      go_wp2_with fail
      refine (addLen_p s1 _ wr hs10 (by omega)).mono ?_
      rintro e w' ⟨s2, rfl, hs20, hs21, hw'⟩; obtain rfl := hw'.symm
      go_wp2_with fail
      refine (addLen_p s2 _ wr hs20 (by omega)).mono ?_
      rintro e w' ⟨s3, rfl, hs30, hs31, hw'⟩; obtain rfl := hw'.symm
      go_wp2_with fail
      refine (addLen_p s3 _ wr hs30 (by omega)).mono ?_
      rintro e w' ⟨s4, rfl, hs40, hs41, hw'⟩; obtain rfl := hw'.symm
      by_cases h4 : 1048576 < s4
      case pos =>
        go_wp2_with fail
        go_ret
        exact ⟨s4, rfl, hs40, hs41, rfl⟩
      case neg =>
        go_wp2_with fail
        go_roundg (n - (i + 1))
        case measure => omega
        case rel => exact ⟨i + 1, s4, rfl, by simp, by omega, hs40, by omega, rfl⟩
end Go.Proofs.Qxb6605926a
