/-
  Equality of changes; sameList (15).
-/
import Derived.Test.Qxb6605926aChC
import Derived.Laws.StructEq
namespace Go.Proofs.Qxb6605926a
open Go.RowKit

def Ch.same (x y : Ch) : Bool := (x.op.toList == y.op.toList) && ((x.id.toList == y.id.toList) && ((x.addr.toList == y.addr.toList) && (x.inc == y.inc)))

theorem st42 : Try.prog.stoodInHeld 42 = false := by kernel_rfl
theorem st56 : Try.prog.stoodInHeld 56 = false := by kernel_rfl
theorem eg42 : Try.prog.eqGuardType Try.prog.depth 42 = false := by kernel_rfl
theorem eg56 : Try.prog.eqGuardType Try.prog.depth 56 = false := by kernel_rfl
theorem fo42 : Try.prog.underlying 42 = some (.struct (Try.prog.fieldsOf 42)) := by kernel_rfl
theorem fo56 : Try.prog.underlying 56 = some (.struct (Try.prog.fieldsOf 56)) := by kernel_rfl

theorem equal42 (x y : Ch) (w : World) : (Op.equalIn 10000 42 (.agg #[.string x.op, .string x.id, .string x.addr, .int .u64 x.inc]) (.agg #[.string y.op, .string y.id, .string y.addr, .int .u64 y.inc])).run Try.prog w = .ok (x.same y) w := by
  rw [run_equalIn_agg (d := 9999) (ht := fo42) (hp := st42)]
  unfold Ch.same
  by_cases h4 : x.inc = y.inc <;> cases h1 : (x.op.toList == y.op.toList) <;> cases h2 : (x.id.toList == y.id.toList) <;> cases h3 : (x.addr.toList == y.addr.toList) <;> simp [go_sem, Program.fieldsOf, Try.underlying42, Op.eqFields, part, h1, h2, h3, h4, Try.underlying9, Try.underlying40]
theorem run_eql42 (x y : Ch) (w : World) : (binOp .eql 42 (.agg #[.string x.op, .string x.id, .string x.addr, .int .u64 x.inc]) (.agg #[.string y.op, .string y.id, .string y.addr, .int .u64 y.inc])).run Try.prog w = .ok (.bool (x.same y)) w := by
  rw [run_eql_struct, equal42]; rfl
theorem run_neq42 (x y : Ch) (w : World) : (binOp .neq 42 (.agg #[.string x.op, .string x.id, .string x.addr, .int .u64 x.inc]) (.agg #[.string y.op, .string y.id, .string y.addr, .int .u64 y.inc])).run Try.prog w = .ok (.bool (!x.same y)) w := by
  rw [run_neq_struct, equal42]; rfl
theorem equal56 (x y : Ch) (w : World) : (Op.equalIn 10000 56 (.agg #[.string x.op, .string x.id, .string x.addr, .int .u64 x.inc]) (.agg #[.string y.op, .string y.id, .string y.addr, .int .u64 y.inc])).run Try.prog w = .ok (x.same y) w := by
  rw [run_equalIn_agg (d := 9999) (ht := fo56) (hp := st56)]
  unfold Ch.same
  by_cases h4 : x.inc = y.inc <;> cases h1 : (x.op.toList == y.op.toList) <;> cases h2 : (x.id.toList == y.id.toList) <;> cases h3 : (x.addr.toList == y.addr.toList) <;> simp [go_sem, Program.fieldsOf, Try.underlying56, Op.eqFields, part, h1, h2, h3, h4, Try.underlying9, Try.underlying53, Try.underlying54]
theorem run_eql56 (x y : Ch) (w : World) : (binOp .eql 56 (.agg #[.string x.op, .string x.id, .string x.addr, .int .u64 x.inc]) (.agg #[.string y.op, .string y.id, .string y.addr, .int .u64 y.inc])).run Try.prog w = .ok (.bool (x.same y)) w := by
  rw [run_eql_struct, equal56]; rfl
theorem run_neq56 (x y : Ch) (w : World) : (binOp .neq 56 (.agg #[.string x.op, .string x.id, .string x.addr, .int .u64 x.inc]) (.agg #[.string y.op, .string y.id, .string y.addr, .int .u64 y.inc])).run Try.prog w = .ok (.bool (!x.same y)) w := by
  rw [run_neq_struct, equal56]; rfl

theorem Ch.same_iff (x y : Ch) : x.same y = true ↔ x = y := by
  have tl : ∀ a b : ByteArray, a.toList = b.toList ↔ a = b := fun a b => ⟨fun h => by
    rw [ByteArray.toList_eq, ByteArray.toList_eq] at h
    obtain ⟨⟨x⟩⟩ := a
    obtain ⟨⟨y⟩⟩ := b
    simpa using h, fun h => by rw [h]⟩
  unfold Ch.same
  obtain ⟨o1, i1, a1, n1⟩ := x
  obtain ⟨o2, i2, a2, n2⟩ := y
  simp [tl]
def SameL (n : Nat) (f : Nat → Ch) (n' : Nat) (f' : Nat → Ch) : Prop := n = n' ∧ ∀ i, i < n → f i = f' i

theorem gr_drewN {w w' : World} {q : Nat} (h : Below w.heap.size w w') : Below w.heap.size w (w'.drewN q) := ⟨h.os, h.tape, h.output, h.size, h.block⟩

theorem sameList_c (a : Option Addr) (n cap : Nat) (f : Nat → Ch) (a' : Option Addr) (n' cap' : Nat) (f' : Nat → Ch) (w : World) (h : Row w a n f) (h' : Row w a' n' f') (hn : n ≤ 1048576) (hn' : n' ≤ 1048576) :
    Calls Try.prog 15 #[.slice a n cap, .slice a' n' cap'] w fun e w' => BPost (SameL n f n' f') w e w' := by
  by_cases hl : n = n'
  case neg =>
    have hl' : ¬ (n : Int) = n' := by omega
    go_enter Try.func15, Try.ntmps15
    go_wp2
    go_ret
    exact ⟨false, rfl, ⟨(fun h => by cases h), fun h => absurd h.1 hl⟩, Below.refl _ _⟩
  subst hl
  go_enter Try.func15, Try.ntmps15
  go_wp2
  go_loopg [5] n (fun k y wr => ∃ (i : Nat), y = .int .i64 i ∧ i + k = n ∧ (∀ j, j < i → f j = f' j) ∧ Below w.heap.size w wr)
  case atStart => exact ⟨0, rfl, by omega, fun j hj => by omega, Below.refl _ _⟩
  case round =>
    obtain ⟨i, rfl, hk, hP, hB⟩ := hrel
    have HP := hide hP
    clear hP
    by_cases hi : i < n
    case neg =>
      have hi' : ¬ (i : Int) < n := by omega
      go_wp2
      go_ret
      exact ⟨true, rfl, ⟨(fun _ => ⟨rfl, fun j hj => HP.out j (by omega)⟩), fun _ => rfl⟩, hB⟩
    case pos =>
      have hi' : (i : Int) < n := by omega
      obtain ⟨b, o, rfl, hb, hc⟩ := h.below hB (by omega)
      obtain ⟨b', o', rfl, hb', hc'⟩ := h'.below hB (by omega)
      obtain ⟨p0, p1, p2, p3⟩ := hc i (by omega)
      obtain ⟨q0, q1, q2, q3⟩ := hc' i (by omega)
      clear hc h hc' h'
      have G : ∀ W : World, (eqGuard .neq 42 (.tmp 20) (.tmp 24) (.agg #[.string (f i).op, .string (f i).id, .string (f i).addr, .int .u64 (f i).inc]) (.agg #[.string (f' i).op, .string (f' i).id, .string (f' i).addr, .int .u64 (f' i).inc])).run Try.prog W = .ok () W := fun W => run_eqGuard_agg W _ _ _ _ _ _ eg42
      have E := run_neq42 (f i) (f' i)
      cases hs : (f i).same (f' i)
      case false =>
        go_wp2_with fail
        go_quiet (fail)
        go_wp2_with fail
        go_ret
        refine ⟨false, rfl, ⟨(fun h => by cases h), fun h => ?_⟩, gr_drewN hB⟩
        have := (Ch.same_iff _ _).2 (h.2 i hi)
        rw [hs] at this; exact this
      case true =>
        go_wp2_with fail
        go_quiet (fail)
        go_wp2_with fail
        go_roundg (n - (i + 1))
        case measure => omega
        case rel =>
          refine ⟨i + 1, by simp, by omega, fun j hj => ?_, gr_drewN hB⟩
          rcases Nat.lt_or_ge j i with c | c
          · exact HP.out j c
          · obtain rfl : j = i := by omega
            exact (Ch.same_iff _ _).1 hs

end Go.Proofs.Qxb6605926a
