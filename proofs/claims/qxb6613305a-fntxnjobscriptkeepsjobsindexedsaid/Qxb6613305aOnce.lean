/-
  Plain facts for FnLeaveQueueTakesCohortOutOnce: the list of looks, the marks of those seen.
-/
import Derived.Test.Qxb6613305aLaw
namespace Go.Proofs.Qxb6613305a
open Go.RowKit

/-- k looks, each at the lock bl with the count f. -/
def LooksL (xs : List Value) (bl : Nat) (f : Int) (k : Nat) : Prop :=
  ∀ i, i < k → xs[i * 4]? = some (.pointer (some ⟨bl, 0, none⟩)) ∧ xs[i * 4 + 1]? = some (.int .u32 f)

theorem LooksL.app {xs : List Value} {bl : Nat} {f : Int} {k : Nat} (h : LooksL xs bl f k) (hl : xs.length = k * 4) (ys : List Value) : LooksL (xs ++ ys) bl f k := by
  intro i hi
  rw [List.getElem?_append_left (by omega), List.getElem?_append_left (by omega)]
  exact h i hi

theorem look_last {xs : List Value} {k : Nat} (hl : xs.length = k * 4) (bl : Nat) (f : Int) :
    (xs ++ lookV bl f)[k * 4]? = some (.pointer (some ⟨bl, 0, none⟩)) ∧ (xs ++ lookV bl f)[k * 4 + 1]? = some (.int .u32 f) ∧ (xs ++ lookV bl f)[k * 4 + 2]? = some (.pointer none) ∧ (xs ++ lookV bl f)[k * 4 + 3]? = some (.int .u64 0) := by
  have r : ∀ j, (xs ++ lookV bl f)[k * 4 + j]? = (lookV bl f)[j]? := fun j => by
    rw [List.getElem?_append_right (by omega), hl, Nat.add_sub_cancel_left]
  have r0 := r 0
  rw [Nat.add_zero] at r0
  rw [r0, r 1, r 2, r 3]
  exact ⟨rfl, rfl, rfl, rfl⟩

theorem LooksL.snoc {xs : List Value} {bl : Nat} {f : Int} {k : Nat} (h : LooksL xs bl f k) (hl : xs.length = k * 4) : LooksL (xs ++ lookV bl f) bl f (k + 1) := by
  intro i hi
  by_cases e : i = k
  · subst e; have := look_last hl bl f; exact ⟨this.1, this.2.1⟩
  · exact h.app hl _ i (by omega)

/-- The marks: those of the first i nodes stand. -/
def SeenIn (sa : Array Value) (a : Nat → Nat) (n i : Nat) : Prop := sa.size = n ∧ ∀ j, j < n → ∃ t : Bool, sa[j]? = some (.bool t) ∧ (t = true → ∃ k, k < i ∧ a k = j)

theorem SeenIn.start {sa : Array Value} {a : Nat → Nat} {n : Nat} (hs : sa.size = n) (h : ∀ j, j < n → sa[j]? = some (.bool false)) : SeenIn sa a n 0 :=
  ⟨hs, fun j hj => ⟨false, h j hj, fun e => by cases e⟩⟩

theorem SeenIn.fresh {sa : Array Value} {a : Nat → Nat} {n i m p : Nat} (h : SeenIn sa a n i) (hS : Sifted p m a) (hi : i < m) (ha : a i < n) : sa[a i]? = some (.bool false) := by
  obtain ⟨t, ht, hk⟩ := h.2 (a i) ha
  cases t
  · exact ht
  · exfalso
    obtain ⟨k, hk1, hk2⟩ := hk rfl
    exact hS.inj k i hk1 hi hk2

theorem SeenIn.step {sa : Array Value} {a : Nat → Nat} {n i : Nat} (h : SeenIn sa a n i) : SeenIn (sa.setIfInBounds (a i) (.bool true)) a n (i + 1) := by
  refine ⟨by simp [h.1], fun j hj => ?_⟩
  by_cases e : a i = j
  · refine ⟨true, ?_, fun _ => ⟨i, by omega, e⟩⟩
    rw [e]; exact set_eq _ _ _ (by rw [h.1]; exact hj)
  · obtain ⟨t, ht, hk⟩ := h.2 j hj
    refine ⟨t, by rw [set_ne _ _ _ _ e]; exact ht, fun hh => ?_⟩
    obtain ⟨k, h1, h2⟩ := hk hh
    exact ⟨k, by omega, h2⟩

theorem info4 : (Try.prog.info? 4).map (fun i => (i.zero, i.size, i.bytes)) = some (some (.bool false), 1, 1) := by kernel_rfl

theorem made_false (n j : Nat) (hj : j < n) : (madeCells (Value.bool false).cells (n * 1)).toList[j]? = some (.bool false) := by
  have e : (madeCells (Value.bool false).cells (n * 1)).toList = List.replicate (n * 1) (.bool false) := toList_madeCells_one _ _
  rw [e, Nat.mul_one, List.getElem?_replicate, if_pos hj]
end Go.Proofs.Qxb6613305a
