/-
  subset (28).
-/
import Derived.Test.Qxb6605926aChO
namespace Go.Proofs.Qxb6605926a
open Go.RowKit

def Sub (n : Nat) (f : Nat → Ch) (n' : Nat) (f' : Nat → Ch) : Prop := ∀ i, i < n → InL n' f' (f i)
/-- What lies before j is less than what comes from i on. -/
def Behind (n : Nat) (f f' : Nat → Ch) (i j : Nat) : Prop := ∀ t, t < j → ∀ s, i ≤ s → s < n → (f' t).lt (f s)

theorem keepG {w w' : World} {b o c0 : Nat} {x1 x2 x3 x4 y1 y2 y3 y4 : Value} (hb : b < w.heap.size) (hc : c0 < w.heap.size)
    (h1 : w.cell? ⟨b, o, none⟩ = some x1) (h2 : w.cell? ⟨b, o + 1, none⟩ = some x2) (h3 : w.cell? ⟨b, o + 2, none⟩ = some x3) (h4 : w.cell? ⟨b, o + 3, none⟩ = some x4)
    (k1 : w.cell? ⟨c0, 0, none⟩ = some y1) (k2 : w.cell? ⟨c0, 1, none⟩ = some y2) (k3 : w.cell? ⟨c0, 2, none⟩ = some y3) (k4 : w.cell? ⟨c0, 3, none⟩ = some y4) (g : Below w.heap.size w w') :
    w'.cell? ⟨b, o, none⟩ = some x1 ∧ w'.cell? ⟨b, o + 1, none⟩ = some x2 ∧ w'.cell? ⟨b, o + 2, none⟩ = some x3 ∧ w'.cell? ⟨b, o + 3, none⟩ = some x4 ∧
    w'.cell? ⟨c0, 0, none⟩ = some y1 ∧ w'.cell? ⟨c0, 1, none⟩ = some y2 ∧ w'.cell? ⟨c0, 2, none⟩ = some y3 ∧ w'.cell? ⟨c0, 3, none⟩ = some y4 := by
  rw [cell_below g hb, cell_below g hb, cell_below g hb, cell_below g hb, cell_below g hc, cell_below g hc, cell_below g hc, cell_below g hc]
  exact ⟨h1, h2, h3, h4, k1, k2, k3, k4⟩

theorem Behind.step {n : Nat} {f f' : Nat → Ch} {i j : Nat} (h : Behind n f f' i j) (hs : Asc f n) (hl : (f' j).cmp (f i) < 0) : Behind n f f' i (j + 1) := by
  intro t ht s h1 h2
  rcases Nat.lt_or_ge t j with c | c
  · exact h t c s h1 h2
  · obtain rfl : t = j := by omega
    rcases Nat.lt_or_ge i s with q | q
    · exact ordCh.tr _ _ _ hl (hs.lt s i q h2)
    · obtain rfl : i = s := by omega
      exact hl
theorem Behind.next {n : Nat} {f f' : Nat → Ch} {i j : Nat} (h : Behind n f f' i j) : Behind n f f' (i + 1) j := fun t ht s h1 h2 => h t ht s (by omega) h2
theorem Behind.no {n : Nat} {f f' : Nat → Ch} {i n' : Nat} (h : Behind n f f' i n') (hi : i < n) : ¬ InL n' f' (f i) := by
  rintro ⟨t, ht, e⟩
  have := h t ht i (Nat.le_refl _) hi
  rw [e] at this; exact ordCh.irr _ this
theorem Behind.no2 {n : Nat} {f f' : Nat → Ch} {i j n' : Nat} (h : Behind n f f' i j) (hs : Asc f' n') (hi : i < n) (hl : ¬ (f' j).cmp (f i) < 0) (hne : f' j ≠ f i) : ¬ InL n' f' (f i) := by
  rintro ⟨t, ht, e⟩
  rcases Nat.lt_or_ge t j with c | c
  · have := h t c i (Nat.le_refl _) hi
    rw [e] at this; exact ordCh.irr _ this
  · rcases Nat.lt_or_ge j t with q | q
    · have := hs.lt t j q ht
      rw [e] at this; exact hl this
    · obtain rfl : t = j := by omega
      exact hne e

set_option maxRecDepth 100000 in
theorem subset_c (a : Option Addr) (n cap : Nat) (f : Nat → Ch) (a' : Option Addr) (n' cap' : Nat) (f' : Nat → Ch) (w : World) (h : Row w a n f) (h' : Row w a' n' f') (hs : Asc f n) (hs' : Asc f' n') (hn : n ≤ 1048576) (hn' : n' ≤ 1048576) :
    Calls Try.prog 28 #[.slice a n cap, .slice a' n' cap'] w fun e w' => BPost (Sub n f n' f') w e w' := by
  have HS := hide hs
  have HS' := hide hs'
  clear hs hs'
  go_enter Try.func28, Try.ntmps28
  go_wp2
  go_loopg [5, 10] n (fun k x y wr => ∃ (i j : Nat), x = .int .i64 j ∧ y = .int .i64 i ∧ i + k = n ∧ j ≤ n' ∧ (∀ t, t < i → InL n' f' (f t)) ∧ Behind n f f' i j ∧ Below w.heap.size w wr)
  case atStart => exact ⟨0, 0, rfl, rfl, by omega, by omega, fun t ht => absurd ht (by omega), fun t ht => absurd ht (by omega), Below.refl _ _⟩
  case round =>
    obtain ⟨i, j, rfl, rfl, hk, hjn, hP, hQ, hB⟩ := hrel
    have HP := hide hP
    have HQ := hide hQ
    clear hP hQ
    by_cases hi : i < n
    case neg =>
      have hi' : ¬ (i : Int) < n := by omega
      go_wp2
      go_ret
      exact ⟨true, rfl, ⟨(fun _ t ht => HP.out t (by omega)), fun _ => rfl⟩, hB⟩
    case pos =>
      have hi' : (i : Int) < n := by omega
      have hi0 : (0 : Int) ≤ i := by omega
      obtain ⟨b, o, rfl, hb, hc⟩ := h.below hB (by omega)
      obtain ⟨p0, p1, p2, p3⟩ := hc i hi
      clear hc
      go_wp2
      have hw0 := gr_trans hB (below_alloc wr (Obj.cells #[Value.string (f i).op, Value.string (f i).id, Value.string (f i).addr, Value.int IntKind.u64 (f i).inc] 56))
      have hx0 := box_new wr (f i) 56
      generalize hW0 : wr.alloc (Obj.cells #[Value.string (f i).op, Value.string (f i).id, Value.string (f i).addr, Value.int IntKind.u64 (f i).inc] 56) = W0 at *
      generalize hz : wr.heap.size = z at *
      clear hW0 p0 p1 p2 p3 hb
      go_loopg [5] n' (fun kk x W => ∃ j : Nat, x = .int .i64 j ∧ j ≤ n' ∧ n' - j ≤ kk ∧ Behind n f f' i j ∧ Below w.heap.size w W ∧ Box W z (f i))
      case atStart => exact ⟨j, rfl, hjn, by omega, HQ.out, hw0, hx0⟩
      case round =>
        clear hw0 hx0 HQ hjn j
        obtain ⟨j, rfl, hjn, hkk, hQ, hBW, hX⟩ := hrel
        have HQ := hide hQ
        clear hQ
        by_cases hj : j < n'
        case neg =>
          have hj' : ¬ (j : Int) < n' := by omega
          have hj'' : (j : Int) = n' := by omega
          obtain ⟨x0, x1, x2, x3⟩ := hX
          go_wp2_with fail
          go_quiet (fail)
          go_wp2_with fail
          go_quiet (fail)
          go_wp2_with fail
          go_ret
          have e : j = n' := by omega
          exact ⟨false, rfl, ⟨(fun h => by cases h), fun hh => absurd (hh i hi) (by rw [← e]; exact Behind.no HQ.out hi)⟩, gr_drewN (gr_drewN hBW)⟩
        case pos =>
          have hj' : (j : Int) < n' := by omega
          have hj0 : (0 : Int) ≤ j := by omega
          have hjne : ¬ (j : Int) = n' := by omega
          have L : ∀ W, Calls Try.prog 33 #[.agg #[.string (f' j).op, .string (f' j).id, .string (f' j).addr, .int .u64 (f' j).inc], .agg #[.string (f i).op, .string (f i).id, .string (f i).addr, .int .u64 (f i).inc]] W fun e w' => e = .returned (.int .i64 ((f' j).cmp (f i))) ∧ Below W.heap.size W w' := fun W => compare_c (f' j) (f i) W
          have H' := hide h'
          have HX := hide hX
          obtain ⟨b', o', rfl, hb', hc'⟩ := h'.below hBW (by omega)
          obtain ⟨q0, q1, q2, q3⟩ := hc' j hj
          have hz' := hX.lt
          obtain ⟨x0, x1, x2, x3⟩ := hX
          clear hc' h h'
          generalize hzc : (f' j).cmp (f i) = zc at *
          have HZ := hide hzc
          clear hzc
          go_wp2_with fail
          go_region_held3 (fun w' => w'.cell? ⟨b', o' + j * 4, none⟩ = some (.string (f' j).op) ∧ w'.cell? ⟨b', o' + j * 4 + 1, none⟩ = some (.string (f' j).id) ∧ w'.cell? ⟨b', o' + j * 4 + 2, none⟩ = some (.string (f' j).addr) ∧ w'.cell? ⟨b', o' + j * 4 + 3, none⟩ = some (.int .u64 (f' j).inc) ∧ w'.cell? ⟨z, 0, none⟩ = some (.string (f i).op) ∧ w'.cell? ⟨z, 1, none⟩ = some (.string (f i).id) ∧ w'.cell? ⟨z, 2, none⟩ = some (.string (f i).addr) ∧ w'.cell? ⟨z, 3, none⟩ = some (.int .u64 (f i).inc))
            (first | exact keepG hb' hz' q0 q1 q2 q3 x0 x1 x2 x3 (gr_drew (Below.refl _ _)) | exact keepG hb' hz' q0 q1 q2 q3 x0 x1 x2 x3 (gr_drew hnew))
            ((go_at_call 33; refine (L _).mono ?_; rintro e w' ⟨rfl, hnew⟩))
          have hB3 := gr_trans hBW (gr_drew hnew)
          have hX3 := HX.out.below (gr_drew hnew) hz'
          obtain ⟨q0, q1, q2, q3, x0, x1, x2, x3⟩ := keepG hb' hz' q0 q1 q2 q3 x0 x1 x2 x3 (gr_drew hnew)
          clear hnew HX
          by_cases hl : zc < 0
          case pos =>
            clear L
            go_wp2_with fail
            go_roundg (n' - (j + 1))
            case measure => omega
            case rel => exact ⟨j + 1, by simp, by omega, Nat.le_refl _, Behind.step HQ.out HS.out (by rw [HZ.out]; exact hl), hB3, hX3⟩
          case neg =>
            have HX3 := hide hX3
            clear hX3 L
            have G : ∀ W : World, (eqGuard .neq 56 (.tmp 37) (.tmp 38) (.agg #[.string (f' j).op, .string (f' j).id, .string (f' j).addr, .int .u64 (f' j).inc]) (.agg #[.string (f i).op, .string (f i).id, .string (f i).addr, .int .u64 (f i).inc])).run Try.prog W = .ok () W := fun W => run_eqGuard_agg W _ _ _ _ _ _ eg56
            have E := run_neq56 (f' j) (f i)
            cases hs : (f' j).same (f i)
            case false =>
              go_wp2_with fail
              go_quiet (fail)
              go_wp2_with fail
              go_ret
              refine ⟨false, rfl, ⟨(fun h => by cases h), fun hh => absurd (hh i hi) (Behind.no2 HQ.out HS'.out hi (by rw [HZ.out]; omega) (fun e => ?_))⟩, gr_drewN hB3⟩
              have := (Ch.same_iff _ _).2 e
              rw [hs] at this; cases this
            case true =>
              go_wp2_with fail
              go_quiet (fail)
              go_wp2_with fail
              go_roundg (n - (i + 1))
              case measure => omega
              case rel =>
                refine ⟨i + 1, j, rfl, by simp, by omega, hjn, fun t ht => ?_, Behind.next HQ.out, gr_drewN hB3⟩
                rcases Nat.lt_or_ge t i with c | c
                · exact HP.out t c
                · obtain rfl : t = i := by omega
                  exact ⟨j, hj, (Ch.same_iff _ _).1 hs⟩
end Go.Proofs.Qxb6605926a
