/-
  Digests as arrays of 16 bytes; digestClash (10).
-/
import Derived.Test.Qxb6605926aChG
import Derived.ChangeKeysEq
namespace Go.Proofs.Qxb6605926a
open Go.RowKit

/-- A digest: sixteen bytes. -/
def dval (d : Nat → Int) : Array Value :=
  #[.int .u8 (d 0), .int .u8 (d 1), .int .u8 (d 2), .int .u8 (d 3), .int .u8 (d 4), .int .u8 (d 5), .int .u8 (d 6), .int .u8 (d 7),
    .int .u8 (d 8), .int .u8 (d 9), .int .u8 (d 10), .int .u8 (d 11), .int .u8 (d 12), .int .u8 (d 13), .int .u8 (d 14), .int .u8 (d 15)]

theorem dval_at (d : Nat → Int) : ∀ i, i < 16 → (dval d)[i]? = some (.int .u8 (d i))
  | 0, _ => rfl | 1, _ => rfl | 2, _ => rfl | 3, _ => rfl | 4, _ => rfl | 5, _ => rfl | 6, _ => rfl | 7, _ => rfl
  | 8, _ => rfl | 9, _ => rfl | 10, _ => rfl | 11, _ => rfl | 12, _ => rfl | 13, _ => rfl | 14, _ => rfl | 15, _ => rfl
  | n + 16, h => absurd h (by omega)

theorem part5 (d : Nat → Int) (i : Nat) (h : i < 16) (w : World) : (part 5 (dval d) i).run Try.prog w = .ok (.int .u8 (d i)) w :=
  run_part_plain (P := Try.prog) w (e := 5) (by kernel_rfl) (dval_at d i h)

def deq (d e : Nat → Int) : Bool := (List.range' 0 16).all fun i => d i == e i


theorem eqLoop (d e : Nat → Int) (k : Nat) (w : World) : ∀ l : List Nat, (∀ i, i ∈ l → i < 16) →
    Sem.run Try.prog (forIn l ((none, ()) : Option Bool × Unit) fun i _ => do
      let x ← part 5 (dval d) i
      let y ← part 5 (dval e) i
      let b ← Op.equalIn (k + 1) 5 x y
      if b = false then pure (ForInStep.done (some false, ())) else pure (ForInStep.yield (none, ()))) w
    = .ok (if l.all (fun i => d i == e i) then (none, ()) else (some false, ())) w := by
  intro l
  induction l with
  | nil => intro _; rfl
  | cons i l ih =>
    intro h
    have hi : i < 16 := h i (List.mem_cons_self ..)
    have ih' := ih fun j hj => h j (List.mem_cons_of_mem _ hj)
    rw [List.forIn_cons]
    simp only [Sem.run_bind, part5 d i hi, part5 e i hi, Result.andThen_ok, run_equalIn_int w k 5 .u8 .u8 _ _ Try.underlying5]
    cases hd : (d i == e i)
    · simp [hd]
    · simp [hd]
      simpa using ih'

theorem equalD (t : TypeId) (ht : Try.prog.underlying t = some (.array 16 5)) (d e : Nat → Int) (k : Nat) (w : World) : (Op.equalIn (k + 2) t (.agg (dval d)) (.agg (dval e))).run Try.prog w = .ok (deq d e) w := by
  have hl := eqLoop d e k w (List.range' 0 16) (fun i hi => by have := List.mem_range'.1 hi; omega)
  rw [Op.equalIn]
  simp [run_underlying ht]
  rw [hl]
  unfold deq
  cases hd : ((List.range' 0 16).all fun i => d i == e i) <;> simp

theorem run_eqlD (t : TypeId) (ht : Try.prog.underlying t = some (.array 16 5)) (d e : Nat → Int) (w : World) : (binOp .eql t (.agg (dval d)) (.agg (dval e))).run Try.prog w = .ok (.bool (deq d e)) w := by
  rw [run_eql_struct, equalD t ht d e 9998]; rfl

theorem eg23 : Try.prog.eqGuardType Try.prog.depth 23 = false := by kernel_rfl
theorem eg36 : Try.prog.eqGuardType Try.prog.depth 36 = false := by kernel_rfl
theorem un23 : Try.prog.underlying 23 = some (.array 16 5) := by kernel_rfl
theorem un36 : Try.prog.underlying 36 = some (.array 16 5) := by kernel_rfl

/-- Two different sets of tombstones under one digest. -/
def Clash (n : Nat) (f : Nat → Ch) (d : Nat → Int) (n' : Nat) (f' : Nat → Ch) (d' : Nat → Int) : Prop := 0 < n ∧ 0 < n' ∧ deq d d' = true ∧ ¬ SameL n f n' f'

theorem digestClash_c (a : Option Addr) (n cap : Nat) (f : Nat → Ch) (d : Nat → Int) (a' : Option Addr) (n' cap' : Nat) (f' : Nat → Ch) (d' : Nat → Int) (w : World) (h : Row w a n f) (h' : Row w a' n' f') (hn : n ≤ 1048576) (hn' : n' ≤ 1048576) :
    Calls Try.prog 10 #[.slice a n cap, .agg (dval d), .slice a' n' cap', .agg (dval d')] w fun e w' => BPost (Clash n f d n' f' d') w e w' := by
  have SL : ∀ (W : World), Below w.heap.size w W → Calls Try.prog 15 #[.slice a n cap, .slice a' n' cap'] W fun e w' => BPost (SameL n f n' f') W e w' := fun W hW => sameList_c a n cap f a' n' cap' f' W (h.below hW) (h'.below hW) hn hn'
  clear h h'
  by_cases h0 : 0 < n
  case neg =>
    have h0' : ¬ (0 : Int) < n := by omega
    go_enter Try.func10, Try.ntmps10
    go_wp2
    go_ret
    exact ⟨false, rfl, ⟨(fun h => by cases h), fun h => absurd h.1 h0⟩, gr_trans (below_alloc _ _) (below_alloc _ _)⟩
  by_cases h1 : 0 < n'
  case neg =>
    have h0' : (0 : Int) < n := by omega
    have h1' : ¬ (0 : Int) < n' := by omega
    go_enter Try.func10, Try.ntmps10
    go_wp2
    go_ret
    exact ⟨false, rfl, ⟨(fun h => by cases h), fun h => absurd h.2.1 h1⟩, gr_trans (below_alloc _ _) (below_alloc _ _)⟩
  have h0' : (0 : Int) < n := by omega
  have h1' : (0 : Int) < n' := by omega
  have E := run_eqlD 23 un23 d d'
  unfold dval at *
  cases hd : deq d d'
  case false =>
    go_enter Try.func10, Try.ntmps10
    go_wp2_with fail
    go_ret
    exact ⟨false, rfl, ⟨(fun h => by cases h), fun h => absurd h.2.2.1 (by rw [hd]; simp)⟩, gr_trans (below_alloc _ _) (below_alloc _ _)⟩
  case true =>
    go_enter Try.func10, Try.ntmps10
    go_wp2_with fail
    refine (SL _ (gr_trans (below_alloc _ _) (below_alloc _ _))).mono ?_
    rintro e w' ⟨r, rfl, hr, hB⟩
    have hB' := gr3 (gr_trans (below_alloc _ _) (below_alloc _ _)) hB
    clear hB
    cases r
    case true =>
      go_wp2_with fail
      go_ret
      exact ⟨false, rfl, ⟨(fun h => by cases h), fun h => absurd (hr.1 (by simp)) h.2.2.2⟩, hB'⟩
    case false =>
      go_wp2_with fail
      go_ret
      exact ⟨true, rfl, ⟨fun _ => ⟨h0, h1, hd, fun h => absurd (hr.2 h) (by simp)⟩, fun _ => rfl⟩, hB'⟩
end Go.Proofs.Qxb6605926a
