/-
  The law (3).
-/
import Derived.Test.Qxb6605926aChU
import Derived.Test.Qxb6605926aChR
import Derived.Test.Qxb6605926aChM
import Derived.Test.Qxb6605926aChS
namespace Go.Proofs.Qxb6605926a
open Go.RowKit

def LPost (w : World) (e : Ending) (w' : World) : Prop := e = .returned (.bool true) ∧ Below w.heap.size w w'

theorem range_below {W W' : World} {B b o : Nat} {cs : List Value} (h : W.rangeAt b o cs) (g : Below B W W') (hb : b < B) : W'.rangeAt b o cs := fun j v hv => by
  rw [cell_below g hb]; exact h j v hv
theorem range_new (w : World) (cs : Array Value) (t : TypeId) : (w.alloc (.cells cs t)).rangeAt w.heap.size 0 cs.toList := fun j v hv => by
  rw [Nat.zero_add, (Blk.new w cs t).cell]; simpa using hv
theorem law_start (w : World) (D1 D2 : Array Value) :
    ((w.alloc (.cells D1 23)).alloc (.cells D2 23)).rangeAt w.heap.size 0 D1.toList ∧ ((w.alloc (.cells D1 23)).alloc (.cells D2 23)).rangeAt (w.heap.size + 1) 0 D2.toList
    ∧ Below w.heap.size w ((w.alloc (.cells D1 23)).alloc (.cells D2 23)) ∧ ((w.alloc (.cells D1 23)).alloc (.cells D2 23)).heap.size = w.heap.size + 1 + 1 := by
  have r1 := range_new w D1 23
  have g2 := below_alloc (w.alloc (.cells D1 23)) (.cells D2 23)
  have r2 := range_new (w.alloc (.cells D1 23)) D2 23
  rw [show (w.alloc (.cells D1 23)).heap.size = w.heap.size + 1 by simp] at r2
  exact ⟨range_below r1 g2 (by simp), r2, gr_trans (below_alloc _ _) g2, by simp⟩

theorem Conf.old {w : World} {p t : Option Addr} {n : Nat} {f : Nat → Ch} {n' : Nat} {f' : Nat → Ch} {d : Nat → Int} (h : Conf w p t n f n' f' d) : Old w.heap.size p ∧ Old w.heap.size t := by
  have T : ∀ {t : Option Addr}, TombAt w t n' f' d → Old w.heap.size t := fun {t} hT x e => by
    rcases hT with ⟨rfl, _⟩ | ⟨_, tb, a', cap', rfl, hb, _⟩
    · cases e
    · injection e with e; subst e; exact hb.lt
  rcases h with ⟨rfl, rfl, _, _⟩ | ⟨b, a, cap, rfl, hb, hr, hT⟩
  · exact ⟨(fun x e => by cases e), (fun x e => by cases e)⟩
  · exact ⟨(fun x e => by injection e with e; subst e; exact hb.lt), T hT⟩
theorem apart {B : Nat} {p q : Option Addr} (h : Old B p) (k : New B q) : ∀ x, p = some x → q ≠ some x := fun x e e' => by
  have := h x e; have := k x e'; omega
theorem apart' {B : Nat} {p q : Option Addr} (h : New B p) (k : Old B q) : ∀ x, p = some x → q ≠ some x := fun x e e' => by
  have := h x e; have := k x e'; omega
theorem New.le {B B' : Nat} {p : Option Addr} (h : New B p) (hb : B' ≤ B) : New B' p := fun x e => Nat.le_trans hb (h x e)
theorem dsize (d : Nat → Int) : (Try.prog.info? 23).map (·.size) = some (dval d).toList.length := (by kernel_rfl : (Try.prog.info? 23).map (·.size) = some 16)

set_option maxRecDepth 1000000 in
set_option maxHeartbeats 4000000 in
theorem law3_c (a1 : Option Addr) (n1 c1 : Nat) (f1 : Nat → Ch) (a2 : Option Addr) (n2 c2 : Nat) (f2 : Nat → Ch) (d1 : Nat → Int) (a3 : Option Addr) (n3 c3 : Nat) (f3 : Nat → Ch) (a4 : Option Addr) (n4 c4 : Nat) (f4 : Nat → Ch) (d2 : Nat → Int) (w : World)
    (h1 : Row w a1 n1 f1) (h2 : Row w a2 n2 f2) (h3 : Row w a3 n3 f3) (h4 : Row w a4 n4 f4) :
    Calls Try.prog 3 #[.slice a1 n1 c1, .slice a2 n2 c2, .agg (dval d1), .slice a3 n3 c3, .slice a4 n4 c4, .agg (dval d2)] w fun e w' => LPost w e w' := by
  have ZZ : ∀ W, Below w.heap.size w W → Calls Try.prog 6 #[.slice a1 n1 c1, .slice a2 n2 c2, .agg (dval d1), .slice a3 n3 c3, .slice a4 n4 c4, .agg (dval d2)] W fun e w' => ZPost n1 n2 n3 n4 W e w' := fun W hW => zz6_c a1 n1 c1 f1 a2 n2 c2 f2 d1 a3 n3 c3 f3 a4 n4 c4 f4 d2 W (h1.below hW) (h2.below hW) (h3.below hW) (h4.below hW)
  have CB1 : n1 ≤ 1048576 → ∀ W, Below w.heap.size w W → Calls Try.prog 8 #[.slice a1 n1 c1] W fun e w' => IntPost W e w' := fun hn W hW => chgBytes_c a1 n1 c1 f1 W (h1.below hW) hn
  have CB2 : n2 ≤ 1048576 → ∀ W, Below w.heap.size w W → Calls Try.prog 8 #[.slice a2 n2 c2] W fun e w' => IntPost W e w' := fun hn W hW => chgBytes_c a2 n2 c2 f2 W (h2.below hW) hn
  have CB3 : n3 ≤ 1048576 → ∀ W, Below w.heap.size w W → Calls Try.prog 8 #[.slice a3 n3 c3] W fun e w' => IntPost W e w' := fun hn W hW => chgBytes_c a3 n3 c3 f3 W (h3.below hW) hn
  have CB4 : n4 ≤ 1048576 → ∀ W, Below w.heap.size w W → Calls Try.prog 8 #[.slice a4 n4 c4] W fun e w' => IntPost W e w' := fun hn W hW => chgBytes_c a4 n4 c4 f4 W (h4.below hW) hn
  have WC : n1 ≤ 1048576 → n2 ≤ 1048576 → ∀ W, Below w.heap.size w W → Calls Try.prog 9 #[.slice a1 n1 c1, .slice a2 n2 c2] W fun e w' => BPost (WFm n1 f1 n2 f2) W e w' := fun e1 e2 W hW => wellFormed_c a1 n1 c1 f1 a2 n2 c2 f2 W (h1.below hW) (h2.below hW) e1 e2
  have WO : n3 ≤ 1048576 → n4 ≤ 1048576 → ∀ W, Below w.heap.size w W → Calls Try.prog 9 #[.slice a3 n3 c3, .slice a4 n4 c4] W fun e w' => BPost (WFm n3 f3 n4 f4) W e w' := fun e1 e2 W hW => wellFormed_c a3 n3 c3 f3 a4 n4 c4 f4 W (h3.below hW) (h4.below hW) e1 e2
  have DC : n2 ≤ 1048576 → n4 ≤ 1048576 → ∀ W, Below w.heap.size w W → Calls Try.prog 10 #[.slice a2 n2 c2, .agg (dval d1), .slice a4 n4 c4, .agg (dval d2)] W fun e w' => BPost (Clash n2 f2 d1 n4 f4 d2) W e w' := fun e1 e2 W hW => digestClash_c a2 n2 c2 f2 d1 a4 n4 c4 f4 d2 W (h2.below hW) (h4.below hW) e1 e2
  have BC : n1 ≤ 1048576 → n2 ≤ 1048576 → ∀ W, Below w.heap.size w W → Calls Try.prog 11 #[.slice a1 n1 c1, .slice a2 n2 c2, .agg (dval d1)] W fun e w' => CfPost n1 f1 n2 f2 d1 W e w' := fun e1 e2 W hW => build_c a1 n1 c1 f1 a2 n2 c2 f2 d1 W (h1.below hW) (h2.below hW) e1 e2
  have BO : n3 ≤ 1048576 → n4 ≤ 1048576 → ∀ W, Below w.heap.size w W → Calls Try.prog 11 #[.slice a3 n3 c3, .slice a4 n4 c4, .agg (dval d2)] W fun e w' => CfPost n3 f3 n4 f4 d2 W e w' := fun e1 e2 W hW => build_c a3 n3 c3 f3 a4 n4 c4 f4 d2 W (h3.below hW) (h4.below hW) e1 e2
  have IN : n1 ≤ 1048576 → n2 ≤ 1048576 → n3 ≤ 1048576 → n4 ≤ 1048576 → ∀ W, Below w.heap.size w W → Calls Try.prog 13 #[.slice a1 n1 c1, .slice a2 n2 c2, .slice a3 n3 c3, .slice a4 n4 c4] W fun e w' => BPost (Incl n1 f1 n2 f2 n3 f3 n4 f4) W e w' := fun e1 e2 e3 e4 W hW => includes_c a1 n1 c1 f1 a2 n2 c2 f2 a3 n3 c3 f3 a4 n4 c4 f4 W (h1.below hW) (h2.below hW) (h3.below hW) (h4.below hW) e1 e2 e3 e4
  have hu : Try.prog.underlying 23 = some (.array 16 5) := un23
  have hs1 := dsize d1
  have hs2 := dsize d2
  obtain ⟨RA0, RB0, hB0, hZ⟩ := law_start w (dval d1) (dval d2)
  generalize dval d1 = D1 at *
  generalize dval d2 = D2 at *
  clear h1 h2 h3 h4
  go_enter Try.func3, Try.ntmps3
  go_wp2_with (first | (refine wpList_load_mid rfl 23 _ rfl w.heap.size 0 rfl D1.toList _ RA0 hu rfl hs1 ?_) | (refine wpList_load_mid rfl 23 _ rfl (w.heap.size + 1) 0 rfl D2.toList _ RB0 hu rfl hs2 ?_))
  generalize hW0 : (w.alloc _).alloc _ = W0 at *
  clear hW0
  have hZ0 : w.heap.size + 1 < W0.heap.size := by omega
  clear hZ
  refine (ZZ W0 hB0).mono ?_
  rintro e w1 ⟨b1, rfl, hb1, g1⟩
  have hB1 := gr_trans hB0 g1
  have RA1 := range_below RA0 g1 (by omega)
  have RB1 := range_below RB0 g1 (by omega)
  have hZ1 : w.heap.size + 1 < w1.heap.size := by have := Below.size g1; omega
  clear hB0 RA0 RB0 hZ0 g1
  clear ZZ
  cases b1
  case false =>
    go_wp2_with fail
    go_ret
    exact ⟨rfl, hB1⟩
  obtain ⟨e1, e2, e3, e4⟩ := hb1 rfl
  clear hb1
  replace CB1 := CB1 e1
  replace CB2 := CB2 e2
  replace CB3 := CB3 e3
  replace CB4 := CB4 e4
  replace WC := WC e1 e2
  replace WO := WO e3 e4
  replace DC := DC e2 e4
  replace BC := BC e1 e2
  replace BO := BO e3 e4
  replace IN := IN e1 e2 e3 e4
  go_wp2_with fail
  refine (CB1 _ hB1).mono ?_
  rintro e w' ⟨s1, rfl, s1a, s1b, hw'⟩; obtain rfl := hw'.symm
  go_wp2_with fail
  refine (CB2 _ hB1).mono ?_
  rintro e w' ⟨s2, rfl, s2a, s2b, hw'⟩; obtain rfl := hw'.symm
  go_wp2_with fail
  refine (addLen_p s1 s2 w1 s1a s2a).mono ?_
  rintro e w' ⟨t1, rfl, t1a, t1b, hw'⟩; obtain rfl := hw'.symm
  go_wp2_with fail
  refine (CB3 _ hB1).mono ?_
  rintro e w' ⟨s3, rfl, s3a, s3b, hw'⟩; obtain rfl := hw'.symm
  go_wp2_with fail
  refine (addLen_p t1 s3 w1 t1a s3a).mono ?_
  rintro e w' ⟨t2, rfl, t2a, t2b, hw'⟩; obtain rfl := hw'.symm
  go_wp2_with fail
  refine (CB4 _ hB1).mono ?_
  rintro e w' ⟨s4, rfl, s4a, s4b, hw'⟩; obtain rfl := hw'.symm
  go_wp2_with fail
  refine (addLen_p t2 s4 w1 t2a s4a).mono ?_
  rintro e w' ⟨t3, rfl, t3a, t3b, hw'⟩; obtain rfl := hw'.symm
  clear CB1 CB2 CB3 CB4
  by_cases ht : (1048576 : Int) < t3
  case pos =>
    go_wp2_with fail
    go_ret
    exact ⟨rfl, hB1⟩
  by_cases q1 : (65536 : Int) < n1
  case pos =>
    go_wp2_with fail
    go_ret
    exact ⟨rfl, hB1⟩
  by_cases q2 : (65536 : Int) < n2
  case pos =>
    go_wp2_with fail
    go_ret
    exact ⟨rfl, hB1⟩
  by_cases q3 : (65536 : Int) < n3
  case pos =>
    go_wp2_with fail
    go_ret
    exact ⟨rfl, hB1⟩
  by_cases q4 : (65536 : Int) < n4
  case pos =>
    go_wp2_with fail
    go_ret
    exact ⟨rfl, hB1⟩
  go_wp2_with fail
  refine (WC _ hB1).mono ?_
  rintro e w2 ⟨b2, rfl, hb2, g2⟩
  have hB2 := gr_trans hB1 g2
  have RA2 := range_below RA1 g2 (by omega)
  have RB2 := range_below RB1 g2 (by omega)
  have hZ2 : w.heap.size + 1 < w2.heap.size := by have := Below.size g2; omega
  clear hB1 RA1 RB1 hZ1 g2
  cases b2
  case false =>
    go_wp2_with fail
    go_ret
    exact ⟨rfl, hB2⟩
  have HWC : Hid (WFm n1 f1 n2 f2) := hide (hb2.1 (by simp))
  clear hb2 WC
  go_wp2_with fail
  refine (WO _ hB2).mono ?_
  rintro e w3 ⟨b3, rfl, hb3, g3⟩
  have hB3 := gr_trans hB2 g3
  have RA3 := range_below RA2 g3 (by omega)
  have RB3 := range_below RB2 g3 (by omega)
  have hZ3 : w.heap.size + 1 < w3.heap.size := by have := Below.size g3; omega
  clear hB2 RA2 RB2 hZ2 g3
  cases b3
  case false =>
    go_wp2_with fail
    go_ret
    exact ⟨rfl, hB3⟩
  have HWO : Hid (WFm n3 f3 n4 f4) := hide (hb3.1 (by simp))
  clear hb3 WO
  go_wp2_with (first | (refine wpList_load_mid rfl 23 _ rfl w.heap.size 0 rfl D1.toList _ RA3 hu rfl hs1 ?_) | (refine wpList_load_mid rfl 23 _ rfl (w.heap.size + 1) 0 rfl D2.toList _ RB3 hu rfl hs2 ?_))
  refine (DC _ hB3).mono ?_
  rintro e w4 ⟨b4, rfl, hb4, g4⟩
  have hB4 := gr_trans hB3 g4
  have RA4 := range_below RA3 g4 (by omega)
  have RB4 := range_below RB3 g4 (by omega)
  have hZ4 : w.heap.size + 1 < w4.heap.size := by have := Below.size g4; omega
  clear hB3 RA3 RB3 hZ3 g4
  cases b4
  case true =>
    go_wp2_with fail
    go_ret
    exact ⟨rfl, hB4⟩
  have HDC : Hid (¬ Clash n2 f2 d1 n4 f4 d2) := hide (fun hh => absurd (hb4.2 hh) (by simp))
  clear hb4 DC
  go_wp2_with (first | (refine wpList_load_mid rfl 23 _ rfl w.heap.size 0 rfl D1.toList _ RA4 hu rfl hs1 ?_) | (refine wpList_load_mid rfl 23 _ rfl (w.heap.size + 1) 0 rfl D2.toList _ RB4 hu rfl hs2 ?_))
  refine (BC _ hB4).mono ?_
  rintro e w5 ⟨p, t, rfl, hC5, hp, ht5, g5⟩
  clear hp ht5
  have hB5 := gr_trans hB4 g5
  have RA5 := range_below RA4 g5 (by omega)
  have RB5 := range_below RB4 g5 (by omega)
  have hZ5 : w.heap.size + 1 < w5.heap.size := by have := Below.size g5; omega
  clear hB4 RA4 RB4 hZ4 g5
  clear BC
  have g6 := below_alloc w5 (.cells #[.pointer p] 31)
  have x6 : Blk (w5.alloc (.cells #[.pointer p] 31)) w5.heap.size #[.pointer p] 31 := Blk.new _ _ _
  have hC6 := hC5.below g6
  have hB6 := gr_trans hB5 g6
  have RA6 := range_below RA5 g6 (by omega)
  have RB6 := range_below RB5 g6 (by omega)
  clear hB5 RA5 RB5 hC5 g6
  go_wp2_with (first | (refine wpList_load_mid rfl 23 _ rfl w.heap.size 0 rfl D1.toList _ RA6 hu rfl hs1 ?_) | (refine wpList_load_mid rfl 23 _ rfl (w.heap.size + 1) 0 rfl D2.toList _ RB6 hu rfl hs2 ?_))
  generalize hW6 : w5.alloc (.cells #[.pointer p] 31) = w6 at *
  clear hW6
  refine (BO _ hB6).mono ?_
  rintro e w7 ⟨q, u, rfl, hO7, hq, hu7, g7⟩
  have hpo := hC6.old
  have ap := apart hpo.1 hq
  have at_ := apart hpo.2 hu7
  have ap' := apart' hq hpo.1
  have at_' := apart' hu7 hpo.2
  have hC7 := hC6.below g7
  have x7 := x6.below g7 x6.lt
  have hB7 := gr_trans hB6 g7
  clear hpo hq hu7 hC6 x6 hB6 RA6 RB6 g7 BO hZ5
  have g8 := below_alloc w7 (.cells #[.pointer q] 31)
  have hC8 := hC7.below g8
  have hO8 := hO7.below g8
  have x8 := x7.below g8 x7.lt
  have y8 : Blk (w7.alloc (.cells #[.pointer q] 31)) w7.heap.size #[.pointer q] 31 := Blk.new _ _ _
  have hB8 := gr_trans hB7 g8
  have z7 : w7.cell? ⟨w5.heap.size, 0, none⟩ = some (.pointer p) := x7.cellv rfl
  have z7b := x7.lt
  have CC : ∀ W, Below (w7.alloc (.cells #[.pointer q] 31)).heap.size (w7.alloc (.cells #[.pointer q] 31)) W → Calls Try.prog 12 #[.agg #[.pointer p], .agg #[.pointer q]] W fun e w' => BPost (Cons n1 f1 n2 f2 n3 f3 n4 f4) W e w' := fun W hW => contains_c p t n1 f1 n2 f2 d1 q u n3 f3 n4 f4 d2 W (hC8.below hW) (hO8.below hW) ap at_ HDC.out HWC.out.1.1 HWC.out.1.2 HWO.out.1.1 HWO.out.1.2 e1 e2 e3 e4
  have CO : ∀ W, Below (w7.alloc (.cells #[.pointer q] 31)).heap.size (w7.alloc (.cells #[.pointer q] 31)) W → Calls Try.prog 12 #[.agg #[.pointer q], .agg #[.pointer p]] W fun e w' => BPost (Cons n3 f3 n4 f4 n1 f1 n2 f2) W e w' := fun W hW => contains_c q u n3 f3 n4 f4 d2 p t n1 f1 n2 f2 d1 W (hO8.below hW) (hC8.below hW) ap' at_' (Clash.symm HDC.out) HWO.out.1.1 HWO.out.1.2 HWC.out.1.1 HWC.out.1.2 e3 e4 e1 e2
  clear CO
  clear ap at_ ap' at_' hC7 hO7 hC8 hO8 x7 hB7 g8
  go_wp2_with fail
  generalize hW8 : w7.alloc (.cells #[.pointer q] 31) = w8 at *
  clear hW8
  refine (CC _ (Below.refl _ _)).mono ?_
  rintro e w9 ⟨r1, rfl, hr1, g9⟩
  have hB9 := gr_trans hB8 g9
  clear CC x8 y8 z7 z7b hB8 g9
  go_wp2_with fail
  refine (IN _ hB9).mono ?_
  rintro e w10 ⟨r2, rfl, hr2, g10⟩
  have hB10 := gr_trans hB9 g10
  have er : r1 = r2 := by
    have K := cons_iff_incl HWC.out HWO.out
    rw [Bool.eq_iff_iff, hr1, hr2]; exact K
  subst er
  clear hr1 hr2 IN hB9 g10
  cases r1
  case false =>
    go_wp2_with fail
    go_ret
    exact ⟨rfl, hB10⟩
  case true =>
    go_wp2_with fail
    go_ret
    exact ⟨rfl, hB10⟩
end Go.Proofs.Qxb6605926a
