/-
  inSet (29).
-/
import Derived.Test.Qxb6605926aChD
namespace Go.Proofs.Qxb6605926a
open Go.RowKit

def InL (n : Nat) (f : Nat → Ch) (c : Ch) : Prop := ∃ i, i < n ∧ f i = c

/-- A change in a block of its own. -/
def Box (w : World) (b : Nat) (c : Ch) : Prop :=
  w.cell? ⟨b, 0, none⟩ = some (.string c.op) ∧ w.cell? ⟨b, 1, none⟩ = some (.string c.id) ∧ w.cell? ⟨b, 2, none⟩ = some (.string c.addr) ∧ w.cell? ⟨b, 3, none⟩ = some (.int .u64 c.inc)

theorem box_new (w : World) (c : Ch) (t : TypeId) : Box (w.alloc (.cells #[.string c.op, .string c.id, .string c.addr, .int .u64 c.inc] t)) w.heap.size c := by
  have hh : (w.alloc (.cells #[.string c.op, .string c.id, .string c.addr, .int .u64 c.inc] t)).heap[w.heap.size]? = some (.cells #[.string c.op, .string c.id, .string c.addr, .int .u64 c.inc] t) := by
    show (w.heap.push _)[w.heap.size]? = _
    simp
  unfold Box
  simp only [World.cell?, hh]
  exact ⟨rfl, rfl, rfl, rfl⟩

theorem Box.below {w w' : World} {b B : Nat} {c : Ch} (h : Box w b c) (g : Below B w w') (hb : b < B) : Box w' b c := by
  unfold Box at *
  rw [cell_below g hb, cell_below g hb, cell_below g hb, cell_below g hb]
  exact h
theorem Box.lt {w : World} {b : Nat} {c : Ch} (h : Box w b c) : b < w.heap.size := World.block_lt_of_cell? w _ h.1

theorem inSet_c (a : Option Addr) (n cap : Nat) (f : Nat → Ch) (a' : Option Addr) (n' cap' : Nat) (f' : Nat → Ch) (c : Ch) (w : World) (h : Row w a n f) (h' : Row w a' n' f') (hn : n ≤ 1048576) (hn' : n' ≤ 1048576) :
    Calls Try.prog 29 #[.slice a n cap, .slice a' n' cap', .agg #[.string c.op, .string c.id, .string c.addr, .int .u64 c.inc]] w fun e w' => BPost (InL n f c ∨ InL n' f' c) w e w' := by
  go_enter Try.func29, Try.ntmps29
  go_wp2
  have hw0 := below_alloc w (Obj.cells #[Value.string c.op, Value.string c.id, Value.string c.addr, Value.int IntKind.u64 c.inc] 42)
  have hx0 := box_new w c 42
  generalize hW0 : w.alloc (Obj.cells #[Value.string c.op, Value.string c.id, Value.string c.addr, Value.int IntKind.u64 c.inc] 42) = W0 at *
  generalize hz : w.heap.size = z at *
  clear hW0
  go_loopg [7] n (fun k y wr => ∃ (i : Nat), y = .int .i64 i ∧ i + k = n ∧ (∀ j, j < i → f j ≠ c) ∧ Below z w wr ∧ Box wr z c)
  case atStart => exact ⟨0, rfl, by omega, fun j hj => by omega, hw0, hx0⟩
  case round =>
    obtain ⟨i, rfl, hk, hP, hB, hX⟩ := hrel
    have HP := hide hP
    clear hP
    by_cases hi : i < n
    case neg =>
      have hi' : ¬ (i : Int) < n := by omega
      go_wp2
      go_loopg [8] n' (fun k y wr => ∃ (i : Nat), y = .int .i64 i ∧ i + k = n' ∧ (∀ j, j < i → f' j ≠ c) ∧ Below z w wr ∧ Box wr z c)
      case atStart => exact ⟨0, rfl, by omega, fun j hj => by omega, hB, hX⟩
      case round =>
        obtain ⟨i, rfl, hk2, hP2, hB, hX⟩ := hrel
        have HP2 := hide hP2
        clear hP2
        by_cases hi : i < n'
        case neg =>
          have hi2' : ¬ (i : Int) < n' := by omega
          go_wp2
          go_ret
          rw [← hz] at hB
          refine ⟨false, rfl, ⟨(fun h => by cases h), fun h => ?_⟩, hB⟩
          rcases h with ⟨j, hj, e⟩ | ⟨j, hj, e⟩
          · exact absurd e (HP.out j (by omega))
          · exact absurd e (HP2.out j (by omega))
        case pos =>
          have hi2' : (i : Int) < n' := by omega
          obtain ⟨b, o, rfl, hb, hc⟩ := h'.below (by rw [hz]; exact hB) (by omega)
          obtain ⟨p0, p1, p2, p3⟩ := hc i (by omega)
          obtain ⟨x0, x1, x2, x3⟩ := hX
          clear hc h'
          have G : ∀ W : World, (eqGuard .eql 42 (.tmp 30) (.tmp 31) (.agg #[.string (f' i).op, .string (f' i).id, .string (f' i).addr, .int .u64 (f' i).inc]) (.agg #[.string c.op, .string c.id, .string c.addr, .int .u64 c.inc])).run Try.prog W = .ok () W := fun W => run_eqGuard_agg W _ _ _ _ _ _ eg42
          have E := run_eql42 (f' i) c
          cases hs : (f' i).same c
          case true =>
            go_wp2_with fail
            go_quiet (fail)
            go_wp2_with fail
            go_ret
            rw [← hz] at hB
            exact ⟨true, rfl, ⟨fun _ => Or.inr ⟨i, hi, (Ch.same_iff _ _).1 hs⟩, fun _ => rfl⟩, gr_drewN hB⟩
          case false =>
            go_wp2_with fail
            go_quiet (fail)
            go_wp2_with fail
            go_roundg (n' - (i + 1))
            case measure => omega
            case rel =>
              refine ⟨i + 1, by simp, by omega, fun j hj => ?_, ⟨hB.os, hB.tape, hB.output, hB.size, hB.block⟩, x0, x1, x2, x3⟩
              rcases Nat.lt_or_ge j i with c | c
              · exact HP2.out j c
              · obtain rfl : j = i := by omega
                intro e; have := (Ch.same_iff _ _).2 e; rw [hs] at this; cases this
    case pos =>
      have hi' : (i : Int) < n := by omega
      obtain ⟨b, o, rfl, hb, hc⟩ := h.below (by rw [hz]; exact hB) (by omega)
      obtain ⟨p0, p1, p2, p3⟩ := hc i (by omega)
      obtain ⟨x0, x1, x2, x3⟩ := hX
      clear hc h h'
      have G : ∀ W : World, (eqGuard .eql 42 (.tmp 18) (.tmp 19) (.agg #[.string (f i).op, .string (f i).id, .string (f i).addr, .int .u64 (f i).inc]) (.agg #[.string c.op, .string c.id, .string c.addr, .int .u64 c.inc])).run Try.prog W = .ok () W := fun W => run_eqGuard_agg W _ _ _ _ _ _ eg42
      have E := run_eql42 (f i) c
      cases hs : (f i).same c
      case true =>
        go_wp2_with fail
        go_quiet (fail)
        go_wp2_with fail
        go_ret
        rw [← hz] at hB
        exact ⟨true, rfl, ⟨fun _ => Or.inl ⟨i, hi, (Ch.same_iff _ _).1 hs⟩, fun _ => rfl⟩, gr_drewN hB⟩
      case false =>
        go_wp2_with fail
        go_quiet (fail)
        go_wp2_with fail
        go_roundg (n - (i + 1))
        case measure => omega
        case rel =>
          refine ⟨i + 1, by simp, by omega, fun j hj => ?_, ⟨hB.os, hB.tape, hB.output, hB.size, hB.block⟩, x0, x1, x2, x3⟩
          rcases Nat.lt_or_ge j i with c | c
          · exact HP.out j c
          · obtain rfl : j = i := by omega
            intro e; have := (Ch.same_iff _ _).2 e; rw [hs] at this; cases this
end Go.Proofs.Qxb6605926a
