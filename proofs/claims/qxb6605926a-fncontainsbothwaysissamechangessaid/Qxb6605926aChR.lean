/-
  Configuration.Contains (12): the walk.
-/
import Derived.Test.Qxb6605926aChQ
namespace Go.Proofs.Qxb6605926a
open Go.RowKit

set_option maxRecDepth 100000 in
theorem contains_c (p t : Option Addr) (n : Nat) (f : Nat → Ch) (n' : Nat) (f' : Nat → Ch) (d : Nat → Int) (q u : Option Addr) (m : Nat) (g : Nat → Ch) (m' : Nat) (g' : Nat → Ch) (d' : Nat → Int) (w : World)
    (h : Conf w p t n f n' f' d) (k : Conf w q u m g m' g' d') (hne : ∀ x, p = some x → q ≠ some x) (hne' : ∀ x, t = some x → u ≠ some x) (hc : ¬ Clash n' f' d m' g' d')
    (s : Asc f n) (s' : Asc f' n') (z : Asc g m) (z' : Asc g' m') (hn : n ≤ 1048576) (hn' : n' ≤ 1048576) (hm : m ≤ 1048576) (hm' : m' ≤ 1048576) :
    Calls Try.prog 12 #[.agg #[.pointer p], .agg #[.pointer q]] w fun e w' => BPost (Cons n f n' f' m g m' g') w e w' := by
  by_cases hpq : p = none ∧ q = none
  case pos =>
    obtain ⟨rfl, rfl⟩ := hpq
    have k0 : m = 0 ∧ m' = 0 := by
      rcases k with ⟨_, _, e1, e2⟩ | ⟨_, _, _, e, _⟩
      · exact ⟨e1, e2⟩
      · cases e
    clear h k hne hne' hc s s' z z'
    go_enter Try.func12, Try.ntmps12
    go_wp2
    go_ret
    exact ⟨true, rfl, ⟨fun _ => ⟨fun i hi => absurd hi (by omega), fun i hi => absurd hi (by omega)⟩, fun _ => rfl⟩, gr_trans (below_alloc _ _) (below_alloc _ _)⟩
  case neg =>
  obtain ⟨hP, hQ, hB0, hZ0⟩ := two_boxes w p q 31
  have EQ : ∀ W, Below w.heap.size w W → (binOp .eql 29 (.pointer p) (.pointer q)).run Try.prog W = .ok (.bool false) W := by
    intro W hW
    rcases h with ⟨rfl, rfl, rfl, rfl⟩ | ⟨b, a, cap, rfl, hb, hr, hT⟩
    · rcases k with ⟨rfl, rfl, rfl, rfl⟩ | ⟨b', a', cap', rfl, hb', hr', hT'⟩
      · exact absurd ⟨rfl, rfl⟩ hpq
      · exact nil29 _ _
    · rcases k with ⟨rfl, rfl, rfl, rfl⟩ | ⟨b', a', cap', rfl, hb', hr', hT'⟩
      · have := run_eql_pointer_nil (P := Try.prog) W 29 (some ⟨b, 0, none⟩) (by kernel_rfl)
        simpa using this
      · exact ptr29 (hb.below hW hb.lt) (hb'.below hW hb'.lt) (fun e => hne ⟨b, 0, none⟩ rfl (by rw [e]))
  have EQ0 := EQ _ hB0
  have TC : ∀ W, Below w.heap.size w W → Calls Try.prog 24 #[.agg #[.pointer p]] W fun e w' => e = .returned (.pointer t) ∧ Below W.heap.size W w' := fun W hW => tombs_c p t n f n' f' d W (h.below hW)
  have TO : ∀ W, Below w.heap.size w W → Calls Try.prog 24 #[.agg #[.pointer q]] W fun e w' => e = .returned (.pointer u) ∧ Below W.heap.size W w' := fun W hW => tombs_c q u m g m' g' d' W (k.below hW)
  have HO : ∀ W, Below w.heap.size w W → Calls Try.prog 25 #[.pointer t, .pointer u] W fun e w' => BPost (Sub m' g' n' f') W e w' := fun W hW => holds_c t n' f' d u m' g' d' W (h.below hW).tomb (k.below hW).tomb hne' s' z' hc hn' hm'
  have LC : ∀ W, Below w.heap.size w W → Calls Try.prog 26 #[.agg #[.pointer p]] W fun e w' => SlPost n f W e w' := fun W hW => live_c p t n f n' f' d W (h.below hW)
  have LO : ∀ W, Below w.heap.size w W → Calls Try.prog 26 #[.agg #[.pointer q]] W fun e w' => SlPost m g W e w' := fun W hW => live_c q u m g m' g' d' W (k.below hW)
  have RM : ∀ (i : ByteArray) (W : World), Below w.heap.size w W → Calls Try.prog 18 #[.agg #[.pointer p], .string i] W fun e w' => BPost (InL n' f' (remOf i)) W e w' := fun i W hW => removes_c p t n f n' f' d i W (h.below hW) s' hn'
  have hT := h.tomb
  clear h k hne hne' hc EQ
  have HS := hide s
  have HS' := hide s'
  have HZ := hide z
  clear s s' z z'
  go_enter Try.func12, Try.ntmps12
  go_wp2_with fail
  generalize hW0 : (w.alloc _).alloc _ = W0 at *
  clear hW0
  refine (TC _ hB0).mono ?_
  rintro e w1 ⟨rfl, hn1⟩
  have hB1 := gr_trans hB0 hn1
  have hP1 := hP.below hn1 (by omega)
  have hQ1 := hQ.below hn1 (by omega)
  have hZ1 : w.heap.size + 1 < w1.heap.size := by have := hn1.size; omega
  clear hn1 hP hQ hB0 EQ0 hZ0 TC
  have hQc : w1.cell? ⟨w.heap.size + 1, 0, none⟩ = some (.pointer q) := hQ1
  go_wp2_with fail
  refine (TO _ hB1).mono ?_
  rintro e w2 ⟨rfl, hn2⟩
  have hB2 := gr_trans hB1 hn2
  have hP2 := hP1.below hn2 (by omega)
  have hQ2 := hQ1.below hn2 (by omega)
  have hZ2 : w.heap.size + 1 < w2.heap.size := by have := hn2.size; omega
  clear hn2 hP1 hQ1 hB1 hZ1 TO hQc
  go_wp2_with fail
  refine (HO _ hB2).mono ?_
  rintro e w3 ⟨r, rfl, hr, hn3⟩
  have hB3 := gr_trans hB2 hn3
  have hP3 := hP2.below hn3 (by omega)
  have hQ3 := hQ2.below hn3 (by omega)
  have hZ3 : w.heap.size + 1 < w3.heap.size := by have := hn3.size; omega
  clear hn3 hP2 hQ2 hB2 hZ2 HO
  cases r
  case false =>
    go_wp2_with fail
    go_ret
    exact ⟨false, rfl, ⟨(fun h => by cases h), fun h => absurd (hr.2 h.1) (by simp)⟩, hB3⟩
  have HSub : Hid (Sub m' g' n' f') := hide (hr.1 (by simp))
  clear hr
  have hQc : w3.cell? ⟨w.heap.size + 1, 0, none⟩ = some (.pointer q) := hQ3
  go_wp2_with fail
  refine (LO _ hB3).mono ?_
  rintro e w4 ⟨ao, capo, rfl, hro, hn4⟩
  have hB4 := gr_trans hB3 hn4
  have hP4 := hP3.below hn4 (by omega)
  have hZ4 : w.heap.size + 1 < w4.heap.size := by have := hn4.size; omega
  clear hn4 hP3 hQ3 hB3 hZ3 LO hQc
  go_wp2_with fail
  go_loopg [6, 24] m (fun kk x y wr => ∃ (i kn cap : Nat) (A : Option Addr) (sg : Nat → Nat) (xs : List Value), x = .slice A kn cap ∧ y = .int .i64 i ∧ i + kk = m ∧ Kept n' f' g i kn sg ∧ XIn xs (fun j => g (sg j)) kn ∧ wr.ownsRow w4.heap.size 56 4 (.slice A kn cap) kn xs ∧ Below w4.heap.size w4 wr)
  case atStart => exact ⟨0, 0, 0, none, fun j => j, [], rfl, rfl, by omega, Kept.begin0 _ _ _ _, XIn.begin0 _, ⟨rfl, Or.inl ⟨rfl, rfl⟩⟩, Below.refl _ _⟩
  case round =>
    obtain ⟨i, kn, cap, A, sg, xs, rfl, rfl, hk, hK, hX, hO, hBr⟩ := hrel
    have HK := hide hK
    have HX := hide hX
    clear hK hX
    have hBw := gr_trans hB4 hBr
    have hPr := hP4.below hBr (by omega)
    by_cases hi : i < m
    case neg =>
      have hi' : ¬ (i : Int) < m := by omega
      have hPc : wr.cell? ⟨w.heap.size, 0, none⟩ = some (.pointer p) := hPr
      go_wp2_with fail
      refine (LC _ hBw).mono ?_
      rintro e w5 ⟨ac, capc, rfl, hrc, hn5⟩
      have hO5 := owns_below hO hn5
      have hrl := HX.out.row hO5
      obtain rfl : i = m := by omega
      have SS := subset_c A kn cap (fun j => g (sg j)) ac n capc f w5 hrl hrc (HK.out.ascCh (Nat.le_refl _) HZ.out) HS.out (by have := HK.out.le; omega) hn
      have hB5 := gr_trans hBw hn5
      clear hrl hrc hO5 hn5
      go_wp2_with fail
      refine SS.mono ?_
      rintro e w6 ⟨r, rfl, hr, hn6⟩
      go_wp2_with fail
      go_ret
      refine ⟨r, rfl, ⟨fun e => ⟨HSub.out, (HK.out.finish1 n f).1 (hr.1 e)⟩, fun e => hr.2 ((HK.out.finish1 n f).2 e.2)⟩, gr_trans hB5 hn6⟩
    case pos =>
      have hi' : (i : Int) < m := by omega
      have hi0 : (0 : Int) ≤ i := by omega
      obtain ⟨b, o, rfl, hb, hcc⟩ := hro.below hBr (by omega)
      obtain ⟨p0, p1, p2, p3⟩ := hcc i hi
      clear hcc
      have hPc : wr.cell? ⟨w.heap.size, 0, none⟩ = some (.pointer p) := hPr
      have hzw : w.heap.size < wr.heap.size := by have := hBr.size; omega
      have hx2 := box_new wr (g i) 56
      have hn5 := below_alloc wr (.cells #[.string (g i).op, .string (g i).id, .string (g i).addr, .int .u64 (g i).inc] 56)
      go_wp2_with fail
      generalize hW2 : wr.alloc (.cells #[.string (g i).op, .string (g i).id, .string (g i).addr, .int .u64 (g i).inc] 56) = W2 at *
      clear hW2
      refine (RM (g i).id W2 (gr_trans hBw hn5)).mono ?_
      rintro e w5 ⟨r, rfl, hr, hn6⟩
      have hx5 := hx2.below hn6 hx2.lt
      have hn56 := gr_trans hn5 hn6
      have hO5 := owns_below hO hn56
      have hB5 : Below w4.heap.size w4 w5 := gr_trans hBr hn56
      have hBw5 := gr_trans hBw hn56
      have hz5 : wr.heap.size < w5.heap.size := hx5.lt
      clear hx2 hn5 hn6 hO hBr hPr hPc p0 p1 p2 p3 hb hn56 hBw
      cases r
      case true =>
        have HR : Hid (Rm n' f' (g i)) := hide (hr.1 (by simp))
        clear hr
        rcases hT with ⟨rfl, rfl⟩ | ⟨h0, tb, a', cap', rfl, hb', hr'⟩
        · obtain ⟨j, hj, _⟩ := HR.out
          exact absurd hj (by omega)
        have hb5 := hb'.below hBw5 hb'.lt
        have FD : ∀ W, Below w5.heap.size w5 W → Calls Try.prog 27 #[.slice a' n' cap', .agg #[.string (g i).op, .string (g i).id, .string (g i).addr, .int .u64 (g i).inc]] W fun e w' => BPost (InL n' f' (g i)) W e w' := fun W hW => find_c a' n' cap' f' (g i) W (hr'.below (gr_trans hBw5 hW)) HS'.out hn'
        have hl5 := hb5.lt
        have c5 : w5.cell? ⟨tb, 0, none⟩ = some (.slice a' n' cap') := hb5.cellv rfl
        clear hb' hr' hb5 h0 hro RM LC
        have KP : ∀ W', Below w5.heap.size w5 W' → W'.cell? ⟨tb, 0, none⟩ = some (.slice a' n' cap') ∧ W'.cell? ⟨wr.heap.size, 0, none⟩ = some (.string (g i).op) ∧ W'.cell? ⟨wr.heap.size, 1, none⟩ = some (.string (g i).id) ∧ W'.cell? ⟨wr.heap.size, 2, none⟩ = some (.string (g i).addr) ∧ W'.cell? ⟨wr.heap.size, 3, none⟩ = some (.int .u64 (g i).inc) := fun W' hW => ⟨by rw [cell_below hW hl5]; exact c5, hx5.below hW hz5⟩
        have HKP := hide KP
        have HO5 := hide hO5
        have HB5 := hide hB5
        have HBW5 := hide hBw5
        obtain ⟨x0, x1, x2, x3⟩ := hx5
        clear KP hO5 hB5 hBw5
        go_wp2_with fail
        go_region_held3 (fun W' => W'.cell? ⟨tb, 0, none⟩ = some (.slice a' n' cap') ∧ W'.cell? ⟨wr.heap.size, 0, none⟩ = some (.string (g i).op) ∧ W'.cell? ⟨wr.heap.size, 1, none⟩ = some (.string (g i).id) ∧ W'.cell? ⟨wr.heap.size, 2, none⟩ = some (.string (g i).addr) ∧ W'.cell? ⟨wr.heap.size, 3, none⟩ = some (.int .u64 (g i).inc))
          (first | exact HKP.out _ (gr_drew hnew) | exact HKP.out _ (gr_drew (Below.refl _ _)))
          ((go_at_call 27; refine (FD _ (gr_drew (Below.refl _ _))).mono ?_; rintro e w6 ⟨r2, rfl, hr2, hnew⟩))
        have hn6 : Below w5.heap.size w5 w6 := gr_drew (w := w5) hnew
        have hO6 := owns_below HO5.out hn6
        have hB6 := gr_trans HB5.out hn6
        have hBw6 := gr_trans HBW5.out hn6
        clear hnew FD c5 x0 x1 x2 x3
        cases r2
        case false =>
          go_wp2_with fail
          go_ret
          refine ⟨false, rfl, ⟨(fun h => by cases h), fun h => ?_⟩, hBw6⟩
          rcases h.2 i hi with y | y
          · exact absurd (hr2.2 y.2) (by simp)
          · exact absurd HR.out y.1
        case true =>
          go_wp2_with fail
          go_roundg (m - (i + 1))
          case measure => omega
          case rel =>
            exact ⟨i + 1, kn, cap, A, sg, xs, rfl, by simp, by omega, HK.out.pass1 HR.out (hr2.1 (by simp)), HX.out, hO6, hB6⟩
      case false =>
        have HR : Hid (¬ Rm n' f' (g i)) := hide (fun hh => absurd (hr.2 hh) (by simp))
        clear hr
        obtain ⟨x0, x1, x2, x3⟩ := hx5
        obtain ⟨i0, hi0, hz0, hz1, hz2⟩ := info_parts info56
        have hkm := HK.out.le
        go_wp2_with ((at_builtin; refine wpList_append_lies _ rfl _ _ _ rfl w4.heap.size 56 i0 _ 4 56 Try.underlying46 hi0 hz0 hz1 hz2 rfl (by omega) (.slice A kn cap) kn xs (by rfl) (owns_below hO5 (below_alloc _ _)) ⟨w5.heap.size, 0, none⟩ 1 1 (chL (g i)) (by rfl) (by rfl) (World.news_of_block (cs := #[.string (g i).op, .string (g i).id, .string (g i).addr, .int .u64 (g i).inc]) (t := 56) (fr := (0, 0)) (heap_alloc_new w5 _)) (by simp [Value.oneCell', chL]) (by omega) (by unfold maxLen; omega) (by omega) (by have := hB5.size; simp; omega) (w5.heap.size + 1) (by simp) ?_; intro gg cap2 w8 hown8 hgrow hat hlt8))
        have hB8 : Below w4.heap.size w4 w8 := below_grown (gr_trans hB5 (below_alloc _ _)) hgrow (by have := hB5.size; simp; omega) (owns_base hO5)
        go_roundg (m - (i + 1))
        case measure => omega
        case rel =>
          exact ⟨i + 1, kn + 1, cap2, some ⟨gg, 0, none⟩, pushAt sg kn i, xs ++ chL (g i), rfl, by simp, by omega, HK.out.keep1 HR.out, HX.out.pushAt (fun j hj => by rw [push_lt hj]) (by rw [push_at]), hown8, hB8⟩
end Go.Proofs.Qxb6605926a
