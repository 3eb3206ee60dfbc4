/-
  strictlySorted (19), hasRemoval (20).
-/
import Derived.Test.Qxb6605926aChB
import Derived.BigQuiet
namespace Go.Proofs.Qxb6605926a
open Go.RowKit

def BPost (P : Prop) (w : World) (e : Ending) (w' : World) : Prop := ∃ b : Bool, e = .returned (.bool b) ∧ (b = true ↔ P) ∧ Below w.heap.size w w'

theorem gr_drew {w w' : World} (h : Below w.heap.size w.drew w') : Below w.heap.size w w' := ⟨h.os, h.tape, h.output, h.size, h.block⟩

theorem keep8 {w w' : World} {b o1 o2 : Nat} {x1 x2 x3 x4 y1 y2 y3 y4 : Value} (hb : b < w.heap.size)
    (h1 : w.cell? ⟨b, o1, none⟩ = some x1) (h2 : w.cell? ⟨b, o1 + 1, none⟩ = some x2) (h3 : w.cell? ⟨b, o1 + 2, none⟩ = some x3) (h4 : w.cell? ⟨b, o1 + 3, none⟩ = some x4)
    (k1 : w.cell? ⟨b, o2, none⟩ = some y1) (k2 : w.cell? ⟨b, o2 + 1, none⟩ = some y2) (k3 : w.cell? ⟨b, o2 + 2, none⟩ = some y3) (k4 : w.cell? ⟨b, o2 + 3, none⟩ = some y4) (g : Below w.heap.size w w') :
    w'.cell? ⟨b, o1, none⟩ = some x1 ∧ w'.cell? ⟨b, o1 + 1, none⟩ = some x2 ∧ w'.cell? ⟨b, o1 + 2, none⟩ = some x3 ∧ w'.cell? ⟨b, o1 + 3, none⟩ = some x4 ∧
    w'.cell? ⟨b, o2, none⟩ = some y1 ∧ w'.cell? ⟨b, o2 + 1, none⟩ = some y2 ∧ w'.cell? ⟨b, o2 + 2, none⟩ = some y3 ∧ w'.cell? ⟨b, o2 + 3, none⟩ = some y4 := by
  rw [cell_below g hb, cell_below g hb, cell_below g hb, cell_below g hb, cell_below g hb, cell_below g hb, cell_below g hb, cell_below g hb]
  exact ⟨h1, h2, h3, h4, k1, k2, k3, k4⟩

def Asc (f : Nat → Ch) (n : Nat) : Prop := ∀ j, j + 1 < n → (f j).less (f (j + 1)) = true

theorem wrap_small (x : Int) (h0 : 0 ≤ x) (h1 : x ≤ 4611686018427387904) : IntKind.i64.wrap x = x := by
  have := wrap_i64_ediv x 1 (by omega) (by omega) (by omega)
  rwa [Int.ediv_one] at this
structure Hid (p : Prop) : Prop where
  out : p
theorem hide {p : Prop} (h : p) : Hid p := ⟨h⟩

theorem strictlySorted_c (a : Option Addr) (n cap : Nat) (f : Nat → Ch) (w : World) (h : Row w a n f) (hn : n ≤ 1048576) :
    Calls Try.prog 19 #[.slice a n cap] w fun e w' => BPost (Asc f n) w e w' := by
  go_enter Try.func19, Try.ntmps19
  go_wp2
  go_loopg [3] n (fun k y wr => ∃ (i m : Nat), m = i + 1 ∧ y = .int .i64 m ∧ i + k = n ∧ (∀ j, j < i → j + 1 < n → (f j).less (f (j + 1)) = true) ∧ Below w.heap.size w wr)
  case atStart => exact ⟨0, 1, rfl, rfl, by omega, fun j hj => by omega, Below.refl _ _⟩
  case round =>
    obtain ⟨i, m, hm, rfl, hk, hP, hB⟩ := hrel
    by_cases hi : m < n
    case neg =>
      have hi' : ¬ (m : Int) < n := by omega
      go_wp2
      go_ret
      exact ⟨true, rfl, ⟨fun _ j hj => hP j (by omega) hj, fun _ => rfl⟩, hB⟩
    case pos =>
      have hi' : (m : Int) < n := by omega
      obtain ⟨b, o, rfl, hb, hc⟩ := h.below hB (by omega)
      obtain ⟨p0, p1, p2, p3⟩ := hc i (by omega)
      obtain ⟨q0, q1, q2, q3⟩ := hc m hi
      have L : ∀ W, Calls Try.prog 30 #[.agg #[.string (f i).op, .string (f i).id, .string (f i).addr, .int .u64 (f i).inc], .agg #[.string (f m).op, .string (f m).id, .string (f m).addr, .int .u64 (f m).inc]] W fun e w' => e = .returned (.bool ((f i).less (f m))) ∧ Below W.heap.size W w' := fun W => chgLess_c (f i) (f m) W
      clear hc h
      have ew : IntKind.i64.wrap ((m : Int) - 1) = (i : Int) := by rw [show (m : Int) - 1 = (i : Int) by omega]; exact wrap_small _ (by omega) (by omega)
      have hi2 : (i : Int) < n := by omega
      have hi0 : (0 : Int) ≤ i := by omega
      have hm0 : (0 : Int) ≤ m := by omega
      have HM := hide hm
      have HP := hide hP
      have HK := hide hk
      clear hm hP hk
      go_wp2_with fail
      go_region_held3 (fun w' => w'.cell? ⟨b, o + i * 4, none⟩ = some (.string (f i).op) ∧ w'.cell? ⟨b, o + i * 4 + 1, none⟩ = some (.string (f i).id) ∧ w'.cell? ⟨b, o + i * 4 + 2, none⟩ = some (.string (f i).addr) ∧ w'.cell? ⟨b, o + i * 4 + 3, none⟩ = some (.int .u64 (f i).inc) ∧ w'.cell? ⟨b, o + m * 4, none⟩ = some (.string (f m).op) ∧ w'.cell? ⟨b, o + m * 4 + 1, none⟩ = some (.string (f m).id) ∧ w'.cell? ⟨b, o + m * 4 + 2, none⟩ = some (.string (f m).addr) ∧ w'.cell? ⟨b, o + m * 4 + 3, none⟩ = some (.int .u64 (f m).inc))
        (first | exact keep8 hb p0 p1 p2 p3 q0 q1 q2 q3 (gr_drew (Below.refl _ _)) | exact keep8 hb p0 p1 p2 p3 q0 q1 q2 q3 (gr_drew hnew))
        ((go_at_call 30; refine (L _).mono ?_; rintro e w' ⟨rfl, hnew⟩))
      cases hl : (f i).less (f m)
      case false =>
        go_wp2_with fail
        go_ret
        refine ⟨false, rfl, ⟨(fun h => by cases h), fun h => ?_⟩, gr_trans hB (gr_drew hnew)⟩
        have := h i (by have := HM.out; omega)
        rw [← HM.out, hl] at this
        exact this
      case true =>
        go_wp2_with fail
        go_roundg (n - (i + 1))
        case measure => have := HK.out; omega
        case rel =>
          refine ⟨i + 1, m + 1, by rw [HM.out], by simp, by have := HK.out; have := HM.out; omega, fun j hj hj' => ?_, gr_trans hB (gr_drew hnew)⟩
          rcases Nat.lt_or_ge j i with c | c
          · exact HP.out j c hj'
          · obtain rfl : j = i := by omega
            rw [← HM.out]; exact hl

/-- Change i removes the id d. -/
def IsRem (f : Nat → Ch) (d : ByteArray) (i : Nat) : Prop := ((f i).op.toList == [45]) = true ∧ ((f i).id.toList == d.toList) = true
def AnyRem (f : Nat → Ch) (n : Nat) (d : ByteArray) : Prop := ∃ i, i < n ∧ IsRem f d i

theorem hasRemoval_c (a : Option Addr) (n cap : Nat) (f : Nat → Ch) (d : ByteArray) (w : World) (h : Row w a n f) (hn : n ≤ 1048576) :
    Calls Try.prog 20 #[.slice a n cap, .string d] w fun e w' => BPost (AnyRem f n d) w e w' := by
  go_enter Try.func20, Try.ntmps20
  go_wp2
  go_loopg [5] n (fun k y wr => ∃ (i : Nat), y = .int .i64 i ∧ i + k = n ∧ (∀ j, j < i → ¬ IsRem f d j) ∧ wr = w)
  case atStart => exact ⟨0, rfl, by omega, fun j hj => by omega, rfl⟩
  case round =>
    obtain ⟨i, rfl, hk, hP, rfl⟩ := hrel
    have HP := hide hP
    clear hP
    by_cases hi : i < n
    case neg =>
      have hi' : ¬ (i : Int) < n := by omega
      go_wp2
      go_ret
      exact ⟨false, rfl, ⟨(fun h => by cases h), fun ⟨j, hj, hx⟩ => absurd hx (HP.out j (by omega))⟩, Below.refl _ _⟩
    case pos =>
      have hi' : (i : Int) < n := by omega
      obtain ⟨b, o, rfl, hb, hc⟩ := h (by omega)
      obtain ⟨p0, p1, p2, p3⟩ := hc i (by omega)
      clear hc h
      cases h1 : ((f i).op.toList == [45])
      case false =>
        go_wp2_with fail
        go_roundg (n - (i + 1))
        case measure => omega
        case rel =>
          refine ⟨i + 1, by simp, by omega, fun j hj hx => ?_, rfl⟩
          rcases Nat.lt_or_ge j i with c | c
          · exact HP.out j c hx
          · obtain rfl : j = i := by omega
            unfold IsRem at hx; rw [h1] at hx; cases hx.1
      case true =>
        cases h2 : ((f i).id.toList == d.toList)
        case true =>
          go_wp2_with fail
          go_ret
          exact ⟨true, rfl, ⟨fun _ => ⟨i, hi, h1, h2⟩, fun _ => rfl⟩, Below.refl _ _⟩
        case false =>
          go_wp2_with fail
          go_roundg (n - (i + 1))
          case measure => omega
          case rel =>
            refine ⟨i + 1, by simp, by omega, fun j hj hx => ?_, rfl⟩
            rcases Nat.lt_or_ge j i with c | c
            · exact HP.out j c hx
            · obtain rfl : j = i := by omega
              unfold IsRem at hx; rw [h2] at hx; cases hx.2

end Go.Proofs.Qxb6605926a
