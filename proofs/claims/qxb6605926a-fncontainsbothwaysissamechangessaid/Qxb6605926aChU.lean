/-
  The plain link: what the Go computes is inclusion of sets.
-/
import Derived.Test.Qxb6605926aChQ
namespace Go.Proofs.Qxb6605926a
open Go.RowKit

def isR (c : Ch) : Prop := (c.op.toList == [45]) = true

theorem toL_inj {a : ByteArray} {l : List UInt8} (h : a.toList = l) : a = ⟨l.toArray⟩ := by
  rw [toL] at h
  obtain ⟨⟨x⟩⟩ := a
  simp only at h
  rw [h]

/-- Of a well-formed configuration a removal is 'remOf' of its id. -/
theorem isRem_iff {n' : Nat} {f' : Nat → Ch} (h : ∀ i, i < n' → TombOk n' f' i) (d : ByteArray) : AnyRem f' n' d ↔ InL n' f' (remOf d) := by
  constructor
  · rintro ⟨i, hi, h1, h2⟩
    refine ⟨i, hi, ?_⟩
    obtain ⟨h3, h4⟩ := (h i hi).1 h1
    have e1 := toL_inj (by simpa using h1 : (f' i).op.toList = [45])
    have e2 : (f' i).id = d := ba_ext.1 (by have := (by simpa using h2 : (f' i).id.toList = d.toList); rwa [toL, toL] at this)
    have e3 := toL_inj h3
    unfold remOf
    generalize f' i = c at *
    obtain ⟨o, j, a, k⟩ := c
    simp only at *
    rw [e1, e2, e3, h4]
  · rintro ⟨i, hi, e⟩
    refine ⟨i, hi, ?_⟩
    unfold IsRem
    rw [e]
    exact ⟨by rw [toL]; simp [remOf], by simp [remOf]⟩

theorem WFm.pl {n : Nat} {f : Nat → Ch} {n' : Nat} {f' : Nat → Ch} (h : WFm n f n' f') : Pl.WF Ch.id remOf Ch.lt isR (LL n f) (LL n' f') where
  sl := LL_sorted h.1.1
  st := LL_sorted h.1.2
  live x hx := by
    obtain ⟨i, hi, rfl⟩ := mem_LL.1 hx
    obtain ⟨h1, h2⟩ := h.2.1 i hi
    refine ⟨by unfold isR; rw [h1]; simp, fun hm => h2 ((isRem_iff h.2.2 _).2 (mem_LL.1 hm))⟩
  tomb x hx := by
    obtain ⟨i, hi, rfl⟩ := mem_LL.1 hx
    exact mem_LL.2 ((isRem_iff h.2.2 _).1 (h.2.2 i hi).2)

theorem hremC (i : ByteArray) : isR (remOf i) := by
  unfold isR remOf; rw [toL]; simp

theorem Cons.pl {n : Nat} {f : Nat → Ch} {n' : Nat} {f' : Nat → Ch} {m : Nat} {g : Nat → Ch} {m' : Nat} {g' : Nat → Ch} :
    Cons n f n' f' m g m' g' ↔ Pl.Con Ch.id remOf (LL n f) (LL n' f') (LL m g) (LL m' g') := by
  unfold Cons Pl.Con Sub Rm
  constructor
  · rintro ⟨h1, h2⟩
    refine ⟨fun x hx => ?_, fun x hx => ?_⟩
    · obtain ⟨i, hi, rfl⟩ := mem_LL.1 hx
      exact mem_LL.2 (h1 i hi)
    · obtain ⟨i, hi, rfl⟩ := mem_LL.1 hx
      rw [mem_LL, mem_LL, mem_LL]
      exact h2 i hi
  · rintro ⟨h1, h2⟩
    refine ⟨fun i hi => mem_LL.1 (h1 _ (mem_LL.2 ⟨i, hi, rfl⟩)), fun i hi => ?_⟩
    have := h2 _ (mem_LL.2 ⟨i, hi, rfl⟩)
    rw [mem_LL, mem_LL, mem_LL] at this
    exact this

theorem Incl.pl {n : Nat} {f : Nat → Ch} {n' : Nat} {f' : Nat → Ch} {m : Nat} {g : Nat → Ch} {m' : Nat} {g' : Nat → Ch} :
    Incl n f n' f' m g m' g' ↔ Pl.Inc (LL n f) (LL n' f') (LL m g) (LL m' g') := by
  unfold Incl Pl.Inc
  constructor
  · rintro ⟨h1, h2⟩
    refine ⟨fun x hx => ?_, fun x hx => ?_⟩
    · obtain ⟨i, hi, rfl⟩ := mem_LL.1 hx
      rw [mem_LL, mem_LL]; exact h1 i hi
    · obtain ⟨i, hi, rfl⟩ := mem_LL.1 hx
      rw [mem_LL, mem_LL]; exact h2 i hi
  · rintro ⟨h1, h2⟩
    refine ⟨fun i hi => ?_, fun i hi => ?_⟩
    · have := h1 _ (mem_LL.2 ⟨i, hi, rfl⟩); rwa [mem_LL, mem_LL] at this
    · have := h2 _ (mem_LL.2 ⟨i, hi, rfl⟩); rwa [mem_LL, mem_LL] at this

/-- THE FIRST LAW's PLAIN HALF. -/
theorem cons_iff_incl {n : Nat} {f : Nat → Ch} {n' : Nat} {f' : Nat → Ch} {m : Nat} {g : Nat → Ch} {m' : Nat} {g' : Nat → Ch} (hc : WFm n f n' f') (ho : WFm m g m' g') :
    Cons n f n' f' m g m' g' ↔ Incl n f n' f' m g m' g' := by
  rw [Cons.pl, Incl.pl]
  exact Pl.con_iff_inc Ch.id remOf hremC hc.pl ho.pl

/-- THE SECOND LAW's PLAIN HALF. -/
theorem cons_both {n : Nat} {f : Nat → Ch} {n' : Nat} {f' : Nat → Ch} {m : Nat} {g : Nat → Ch} {m' : Nat} {g' : Nat → Ch} (hc : WFm n f n' f') (ho : WFm m g m' g') :
    (Cons n f n' f' m g m' g' ∧ Cons m g m' g' n f n' f') ↔ (SameL n f m g ∧ SameL n' f' m' g') := by
  rw [Cons.pl, Cons.pl, Pl.con_iff_inc Ch.id remOf hremC hc.pl ho.pl, Pl.con_iff_inc Ch.id remOf hremC ho.pl hc.pl, Pl.inc_both Ch.id remOf ordCh hremC hc.pl ho.pl, LL_same, LL_same]

theorem deq_iff (d e : Nat → Int) : deq d e = true ↔ ∀ i, i < 16 → d i = e i := by
  unfold deq
  rw [List.all_eq_true]
  constructor
  · intro h i hi
    have := h i (List.mem_range'.2 ⟨i, hi, by simp⟩)
    simpa using this
  · intro h i hi
    obtain ⟨j, hj, rfl⟩ := List.mem_range'.1 hi
    simpa using h _ (by simpa using hj)
theorem Clash.symm {n : Nat} {f : Nat → Ch} {d : Nat → Int} {n' : Nat} {f' : Nat → Ch} {d' : Nat → Int} (h : ¬ Clash n f d n' f' d') : ¬ Clash n' f' d' n f d := by
  rintro ⟨h1, h2, h3, h4⟩
  refine h ⟨h2, h1, ?_, fun hs => h4 ?_⟩
  · rw [deq_iff] at *
    exact fun i hi => (h3 i hi).symm
  · obtain ⟨rfl, hs⟩ := hs
    exact ⟨rfl, fun i hi => (hs i hi).symm⟩
end Go.Proofs.Qxb6605926a
