/-
  Configuration.Contains (12).
-/
import Derived.Test.Qxb6605926aChN
import Derived.Test.Qxb6605926aChP
namespace Go.Proofs.Qxb6605926a
open Go.RowKit

/-- c removes the id of the change. -/
def Rm (n' : Nat) (f' : Nat → Ch) (c : Ch) : Prop := InL n' f' (remOf c.id)
/-- What 'Contains' computes. -/
def Cons (n : Nat) (f : Nat → Ch) (n' : Nat) (f' : Nat → Ch) (m : Nat) (g : Nat → Ch) (m' : Nat) (g' : Nat → Ch) : Prop :=
  Sub m' g' n' f' ∧ ∀ i, i < m → (Rm n' f' (g i) ∧ InL n' f' (g i)) ∨ (¬ Rm n' f' (g i) ∧ InL n f (g i))

/-- The kept ones among the first i: k of them, at the places s 0 < s 1 < .. -/
structure Kept (n' : Nat) (f' g : Nat → Ch) (i k : Nat) (s : Nat → Nat) : Prop where
  le : k ≤ i
  lt : ∀ j, j < k → s j < i
  asc : ∀ j, j + 1 < k → s j < s (j + 1)
  every1 : ∀ a, a < i → (Rm n' f' (g a) ∧ InL n' f' (g a)) ∨ (¬ Rm n' f' (g a) ∧ ∃ j, j < k ∧ s j = a)
  never1 : ∀ j, j < k → ¬ Rm n' f' (g (s j))

theorem Kept.begin0 (n' : Nat) (f' g : Nat → Ch) (s : Nat → Nat) : Kept n' f' g 0 0 s := ⟨Nat.le_refl _, fun j h => absurd h (by omega), fun j h => absurd h (by omega), fun j h => absurd h (by omega), fun j h => absurd h (by omega)⟩
theorem Kept.pass1 {n' : Nat} {f' g : Nat → Ch} {i k : Nat} {s : Nat → Nat} (h : Kept n' f' g i k s) (h1 : Rm n' f' (g i)) (h2 : InL n' f' (g i)) : Kept n' f' g (i + 1) k s :=
  ⟨by have := h.le; omega, fun j hj => by have := h.lt j hj; omega, h.asc, fun a ha => by
    rcases Nat.lt_or_ge a i with c | c
    · exact h.every1 a c
    · obtain rfl : a = i := by omega
      exact Or.inl ⟨h1, h2⟩, h.never1⟩
def pushAt (s : Nat → Nat) (k i : Nat) : Nat → Nat := fun j => if j < k then s j else i
theorem push_lt {s : Nat → Nat} {k i j : Nat} (h : j < k) : pushAt s k i j = s j := if_pos h
theorem push_at {s : Nat → Nat} {k i : Nat} : pushAt s k i k = i := if_neg (by omega)
theorem Kept.keep1 {n' : Nat} {f' g : Nat → Ch} {i k : Nat} {s : Nat → Nat} (h : Kept n' f' g i k s) (h1 : ¬ Rm n' f' (g i)) : Kept n' f' g (i + 1) (k + 1) (pushAt s k i) := by
  refine ⟨by have := h.le; omega, fun j hj => ?_, fun j hj => ?_, fun a ha => ?_, fun j hj => ?_⟩
  · rcases Nat.lt_or_ge j k with c | c
    · rw [push_lt c]; have := h.lt j c; omega
    · obtain rfl : j = k := by omega
      rw [push_at]; omega
  · rcases Nat.lt_or_ge (j + 1) k with c | c
    · rw [push_lt c, push_lt (by omega)]; exact h.asc j c
    · obtain rfl : j + 1 = k := by omega
      rw [push_at, push_lt (by omega)]; exact h.lt j (by omega)
  · rcases Nat.lt_or_ge a i with c | c
    · rcases h.every1 a c with q | ⟨q, j, hj, e⟩
      · exact Or.inl q
      · exact Or.inr ⟨q, j, by omega, by rw [push_lt hj]; exact e⟩
    · obtain rfl : a = i := by omega
      exact Or.inr ⟨h1, k, by omega, push_at⟩
  · rcases Nat.lt_or_ge j k with c | c
    · rw [push_lt c]; exact h.never1 j c
    · obtain rfl : j = k := by omega
      rw [push_at]; exact h1
theorem Kept.ascCh {n' : Nat} {f' g : Nat → Ch} {i k : Nat} {s : Nat → Nat} (h : Kept n' f' g i k s) {m : Nat} (hm : i ≤ m) (hs : Asc g m) : Asc (fun j => g (s j)) k := fun j hj =>
  (Ch.less_iff _ _).2 (hs.lt _ _ (h.asc j hj) (by have := h.lt (j + 1) hj; omega))
theorem Kept.finish1 {n' : Nat} {f' g : Nat → Ch} {m k : Nat} {s : Nat → Nat} (h : Kept n' f' g m k s) (n : Nat) (f : Nat → Ch) :
    Sub k (fun j => g (s j)) n f ↔ ∀ i, i < m → (Rm n' f' (g i) ∧ InL n' f' (g i)) ∨ (¬ Rm n' f' (g i) ∧ InL n f (g i)) := by
  constructor
  · intro hs i hi
    rcases h.every1 i hi with q | ⟨q, j, hj, e⟩
    · exact Or.inl q
    · have := hs j hj
      simp only [e] at this
      exact Or.inr ⟨q, this⟩
  · intro hh j hj
    rcases hh (s j) (h.lt j hj) with q | q
    · exact absurd q.1 (h.never1 j hj)
    · exact q.2

/-- The cells of a change. -/
def chL (c : Ch) : List Value := [.string c.op, .string c.id, .string c.addr, .int .u64 c.inc]
/-- The cells xs are those of the changes h 0, .., h (k-1). -/
def XIn (xs : List Value) (h : Nat → Ch) (k : Nat) : Prop := xs.length = k * 4 ∧ ∀ j, j < k → xs[j * 4]? = some (.string (h j).op) ∧ xs[j * 4 + 1]? = some (.string (h j).id) ∧ xs[j * 4 + 2]? = some (.string (h j).addr) ∧ xs[j * 4 + 3]? = some (.int .u64 (h j).inc)
theorem XIn.begin0 (h : Nat → Ch) : XIn [] h 0 := ⟨rfl, fun j hj => absurd hj (by omega)⟩
theorem XIn.pushAt {xs : List Value} {h h' : Nat → Ch} {k : Nat} (x : XIn xs h k) (e : ∀ j, j < k → h' j = h j) {c : Ch} (ec : h' k = c) : XIn (xs ++ chL c) h' (k + 1) := by
  refine ⟨by rw [List.length_append, x.1]; unfold chL; simp; omega, fun j hj => ?_⟩
  rcases Nat.lt_or_ge j k with q | q
  · have := x.1
    rw [List.getElem?_append_left (by omega), List.getElem?_append_left (by omega), List.getElem?_append_left (by omega), List.getElem?_append_left (by omega), e j q]
    exact x.2 j q
  · obtain rfl : j = k := by omega
    have := x.1
    rw [List.getElem?_append_right (by omega), List.getElem?_append_right (by omega), List.getElem?_append_right (by omega), List.getElem?_append_right (by omega), ec]
    rw [show j * 4 - xs.length = 0 by omega, show j * 4 + 1 - xs.length = 1 by omega, show j * 4 + 2 - xs.length = 2 by omega, show j * 4 + 3 - xs.length = 3 by omega]
    exact ⟨rfl, rfl, rfl, rfl⟩
theorem XIn.row {w : World} {B : Nat} {A : Option Addr} {k cap : Nat} {xs : List Value} {h : Nat → Ch} (x : XIn xs h k) (o : w.ownsRow B 56 4 (.slice A k cap) k xs) : Row w A k h := by
  intro h0
  rcases o.2 with ⟨_, hk⟩ | ⟨g, cap', cur, hv, hb, hh, h1, h2, h3, h4⟩
  · omega
  · injection hv with e1 e2 e3
    subst e1
    have hb : Blk w g cur 56 := hh
    have K : ∀ o v, xs[o]? = some v → w.cell? ⟨g, o, none⟩ = some v := fun o v ho => by
      refine hb.cellv ?_
      rw [← h4, List.getElem?_take] at ho
      split at ho
      · rw [← ho, Array.getElem?_toList]
      · cases ho
    refine ⟨g, 0, rfl, hb.lt, fun j hj => ?_⟩
    obtain ⟨x0, x1, x2, x3⟩ := x.2 j hj
    rw [Nat.zero_add]
    exact ⟨K _ _ x0, K _ _ x1, K _ _ x2, K _ _ x3⟩
theorem owns_below {w w' : World} {B : Nat} {v : Value} {k : Nat} {xs : List Value} (o : w.ownsRow B 56 4 v k xs) (g : Below w.heap.size w w') : w'.ownsRow B 56 4 v k xs := by
  refine ⟨o.1, ?_⟩
  rcases o.2 with c | ⟨b, cap, cur, hv, hb, hh, r⟩
  · exact Or.inl c
  · have hB : Blk w b cur 56 := hh
    exact Or.inr ⟨b, cap, cur, hv, hb, hB.below g hB.lt, r⟩
theorem owns_base {w : World} {B : Nat} {v : Value} {k : Nat} {xs : List Value} (o : w.ownsRow B 56 4 v k xs) : ∀ b, v.ownBlock = some b → B ≤ b := by
  intro b hb
  rcases o.2 with ⟨rfl, _⟩ | ⟨b', cap, cur, rfl, hb', _⟩
  · cases hb
  · injection hb with e; rw [← e]; exact hb'

/-- A configuration's pointer in a block of its own. -/
def PBox (w : World) (b : Nat) (p : Option Addr) : Prop := w.cell? ⟨b, 0, none⟩ = some (.pointer p)
theorem PBox.below {w w' : World} {b B : Nat} {p : Option Addr} (h : PBox w b p) (g : Below B w w') (hb : b < B) : PBox w' b p := by
  unfold PBox at *; rw [cell_below g hb]; exact h

theorem two_boxes (w : World) (p q : Option Addr) (t : TypeId) :
    PBox ((w.alloc (.cells #[.pointer p] t)).alloc (.cells #[.pointer q] t)) w.heap.size p ∧ PBox ((w.alloc (.cells #[.pointer p] t)).alloc (.cells #[.pointer q] t)) (w.heap.size + 1) q
    ∧ Below w.heap.size w ((w.alloc (.cells #[.pointer p] t)).alloc (.cells #[.pointer q] t)) ∧ ((w.alloc (.cells #[.pointer p] t)).alloc (.cells #[.pointer q] t)).heap.size = w.heap.size + 1 + 1 := by
  have b1 := Blk.new w #[.pointer p] t
  have g2 := below_alloc (w.alloc (.cells #[.pointer p] t)) (.cells #[.pointer q] t)
  have b1' := b1.below g2 b1.lt
  have b2 := Blk.new (w.alloc (.cells #[.pointer p] t)) #[.pointer q] t
  rw [show (w.alloc (.cells #[.pointer p] t)).heap.size = w.heap.size + 1 by simp] at b2
  exact ⟨b1'.cellv rfl, b2.cellv rfl, gr_trans (below_alloc _ _) g2, by simp⟩
end Go.Proofs.Qxb6605926a
