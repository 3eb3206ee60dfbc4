/-
  Configuration.live (26), .tombstones (24), .Removes (18).
-/
import Derived.Test.Qxb6605926aChL
import Derived.Test.Qxb6605926aChI
namespace Go.Proofs.Qxb6605926a
open Go.RowKit

theorem live_c (p t : Option Addr) (n : Nat) (f : Nat → Ch) (n' : Nat) (f' : Nat → Ch) (d : Nat → Int) (w : World) (h : Conf w p t n f n' f' d) :
    Calls Try.prog 26 #[.agg #[.pointer p]] w fun e w' => SlPost n f w e w' := by
  rcases h with ⟨rfl, rfl, rfl, rfl⟩ | ⟨b, a, cap, rfl, hb, hr, hT⟩
  · go_enter Try.func26, Try.ntmps26
    go_wp2
    go_ret
    exact ⟨none, 0, rfl, fun h => absurd h (by omega), below_alloc _ _⟩
  · have c0 : w.cell? ⟨b, 0, none⟩ = some (.slice a n cap) := hb.cellv rfl
    have hl := hb.lt
    have HR := hide hr
    clear hr hT hb
    go_enter Try.func26, Try.ntmps26
    go_wp2
    go_ret
    exact ⟨a, cap, rfl, HR.out.below (below_alloc _ _), below_alloc _ _⟩

theorem tombs_c (p t : Option Addr) (n : Nat) (f : Nat → Ch) (n' : Nat) (f' : Nat → Ch) (d : Nat → Int) (w : World) (h : Conf w p t n f n' f' d) :
    Calls Try.prog 24 #[.agg #[.pointer p]] w fun e w' => e = .returned (.pointer t) ∧ Below w.heap.size w w' := by
  rcases h with ⟨rfl, rfl, rfl, rfl⟩ | ⟨b, a, cap, rfl, hb, hr, hT⟩
  · go_enter Try.func24, Try.ntmps24
    go_wp2
    go_ret
    exact ⟨rfl, below_alloc _ _⟩
  · have c0 : w.cell? ⟨b, 1, none⟩ = some (.pointer t) := hb.cellv rfl
    have hl := hb.lt
    clear hr hT hb
    go_enter Try.func24, Try.ntmps24
    go_wp2
    go_ret
    exact ⟨rfl, below_alloc _ _⟩

theorem Conf.tomb {w : World} {p t : Option Addr} {n : Nat} {f : Nat → Ch} {n' : Nat} {f' : Nat → Ch} {d : Nat → Int} (h : Conf w p t n f n' f' d) : TombAt w t n' f' d := by
  rcases h with ⟨rfl, rfl, rfl, rfl⟩ | ⟨b, a, cap, rfl, hb, hr, hT⟩
  · exact Or.inl ⟨rfl, rfl⟩
  · exact hT

/-- The removal of an id. -/
def remOf (i : ByteArray) : Ch := ⟨⟨#[45]⟩, i, ⟨#[]⟩, 0⟩

theorem removes_c (p t : Option Addr) (n : Nat) (f : Nat → Ch) (n' : Nat) (f' : Nat → Ch) (d : Nat → Int) (i : ByteArray) (w : World) (h : Conf w p t n f n' f' d) (hs : Asc f' n') (hn' : n' ≤ 1048576) :
    Calls Try.prog 18 #[.agg #[.pointer p], .string i] w fun e w' => BPost (InL n' f' (remOf i)) w e w' := by
  have C : ∀ W, Below w.heap.size w W → Calls Try.prog 24 #[.agg #[.pointer p]] W fun e w' => e = .returned (.pointer t) ∧ Below W.heap.size W w' := fun W hW => tombs_c p t n f n' f' d W (h.below hW)
  have hT := h.tomb
  clear h
  have B1 := below_alloc w (.cells #[.pointer p] 31)
  go_enter Try.func18, Try.ntmps18
  go_wp2_with fail
  refine (C _ B1).mono ?_
  rintro e w1 ⟨rfl, hn1⟩
  have hB := gr_trans B1 hn1
  clear B1 hn1 C
  rcases hT with ⟨rfl, rfl⟩ | ⟨h0, tb, a', cap', rfl, hb, hr⟩
  · go_wp2_with fail
    go_ret
    exact ⟨false, rfl, ⟨(fun h => by cases h), fun ⟨j, hj, _⟩ => absurd hj (by omega)⟩, hB⟩
  · have hb1 := hb.below hB hb.lt
    have c0 : w1.cell? ⟨tb, 0, none⟩ = some (.slice a' n' cap') := hb1.cellv rfl
    have hl := hb1.lt
    have F : Calls Try.prog 27 #[.slice a' n' cap', .agg #[.string ⟨#[45]⟩, .string i, .string ⟨#[]⟩, .int .u64 0]] w1 fun e w' => BPost (InL n' f' (remOf i)) w1 e w' := find_c a' n' cap' f' (remOf i) w1 (hr.below hB) hs hn'
    clear hb hb1 hr
    go_wp2_with fail
    refine F.mono ?_
    rintro e w2 ⟨r, rfl, hr, hn2⟩
    have hB2 := gr_trans hB hn2
    clear F hB hn2
    cases r
    · go_wp2_with fail
      go_ret
      exact ⟨false, rfl, hr, hB2⟩
    · go_wp2_with fail
      go_ret
      exact ⟨true, rfl, ⟨fun _ => hr.1 (by simp), fun _ => rfl⟩, hB2⟩
end Go.Proofs.Qxb6605926a
