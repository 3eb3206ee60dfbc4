/-
  The law (4).
-/
import Derived.Test.Qxb6605926aChU
import Derived.Test.Qxb6605926aChR
import Derived.Test.Qxb6605926aChM
import Derived.Test.Qxb6605926aChT
import Derived.Test.Qxb6605926aChV
namespace Go.Proofs.Qxb6605926a
open Go.RowKit

set_option maxRecDepth 1000000 in
set_option maxHeartbeats 4000000 in
theorem law4_c (a1 : Option Addr) (n1 c1 : Nat) (f1 : Nat → Ch) (a2 : Option Addr) (n2 c2 : Nat) (f2 : Nat → Ch) (d1 : Nat → Int) (a3 : Option Addr) (n3 c3 : Nat) (f3 : Nat → Ch) (a4 : Option Addr) (n4 c4 : Nat) (f4 : Nat → Ch) (d2 : Nat → Int) (w : World)
    (h1 : Row w a1 n1 f1) (h2 : Row w a2 n2 f2) (h3 : Row w a3 n3 f3) (h4 : Row w a4 n4 f4) :
    Calls Try.prog 4 #[.slice a1 n1 c1, .slice a2 n2 c2, .agg (dval d1), .slice a3 n3 c3, .slice a4 n4 c4, .agg (dval d2)] w fun e w' => LPost w e w' := by
  have ZZ : ∀ W, Below w.heap.size w W → Calls Try.prog 14 #[.slice a1 n1 c1, .slice a2 n2 c2, .agg (dval d1), .slice a3 n3 c3, .slice a4 n4 c4, .agg (dval d2)] W fun e w' => ZPost n1 n2 n3 n4 W e w' := fun W hW => zz14_c a1 n1 c1 f1 a2 n2 c2 f2 d1 a3 n3 c3 f3 a4 n4 c4 f4 d2 W (h1.below hW) (h2.below hW) (h3.below hW) (h4.below hW)
  have CB1 : n1 ≤ 1048576 → ∀ W, Below w.heap.size w W → Calls Try.prog 8 #[.slice a1 n1 c1] W fun e w' => IntPost W e w' := fun hn W hW => chgBytes_c a1 n1 c1 f1 W (h1.below hW) hn
  have CB2 : n2 ≤ 1048576 → ∀ W, Below w.heap.size w W → Calls Try.prog 8 #[.slice a2 n2 c2] W fun e w' => IntPost W e w' := fun hn W hW => chgBytes_c a2 n2 c2 f2 W (h2.below hW) hn
  have CB3 : n3 ≤ 1048576 → ∀ W, Below w.heap.size w W → Calls Try.prog 8 #[.slice a3 n3 c3] W fun e w' => IntPost W e w' := fun hn W hW => chgBytes_c a3 n3 c3 f3 W (h3.below hW) hn
  have CB4 : n4 ≤ 1048576 → ∀ W, Below w.heap.size w W → Calls Try.prog 8 #[.slice a4 n4 c4] W fun e w' => IntPost W e w' := fun hn W hW => chgBytes_c a4 n4 c4 f4 W (h4.below hW) hn
  have WC : n1 ≤ 1048576 → n2 ≤ 1048576 → ∀ W, Below w.heap.size w W → Calls Try.prog 9 #[.slice a1 n1 c1, .slice a2 n2 c2] W fun e w' => BPost (WFm n1 f1 n2 f2) W e w' := fun e1 e2 W hW => wellFormed_c a1 n1 c1 f1 a2 n2 c2 f2 W (h1.below hW) (h2.below hW) e1 e2
  have WO : n3 ≤ 1048576 → n4 ≤ 1048576 → ∀ W, Below w.heap.size w W → Calls Try.prog 9 #[.slice a3 n3 c3, .slice a4 n4 c4] W fun e w' => BPost (WFm n3 f3 n4 f4) W e w' := fun e1 e2 W hW => wellFormed_c a3 n3 c3 f3 a4 n4 c4 f4 W (h3.below hW) (h4.below hW) e1 e2
  have DC : n2 ≤ 1048576 → n4 ≤ 1048576 → ∀ W, Below w.heap.size w W → Calls Try.prog 10 #[.slice a2 n2 c2, .agg (dval d1), .slice a4 n4 c4, .agg (dval d2)] W fun e w' => BPost (Clash n2 f2 d1 n4 f4 d2) W e w' := fun e1 e2 W hW => digestClash_c a2 n2 c2 f2 d1 a4 n4 c4 f4 d2 W (h2.below hW) (h4.below hW) e1 e2
  have BC : n1 ≤ 1048576 → n2 ≤ 1048576 → ∀ W, Below w.heap.size w W → Calls Try.prog 11 #[.slice a1 n1 c1, .slice a2 n2 c2, .agg (dval d1)] W fun e w' => CfPost n1 f1 n2 f2 d1 W e w' := fun e1 e2 W hW => build_c a1 n1 c1 f1 a2 n2 c2 f2 d1 W (h1.below hW) (h2.below hW) e1 e2
  have BO : n3 ≤ 1048576 → n4 ≤ 1048576 → ∀ W, Below w.heap.size w W → Calls Try.prog 11 #[.slice a3 n3 c3, .slice a4 n4 c4, .agg (dval d2)] W fun e w' => CfPost n3 f3 n4 f4 d2 W e w' := fun e1 e2 W hW => build_c a3 n3 c3 f3 a4 n4 c4 f4 d2 W (h3.below hW) (h4.below hW) e1 e2
  have S1 : n1 ≤ 1048576 → n3 ≤ 1048576 → ∀ W, Below w.heap.size w W → Calls Try.prog 15 #[.slice a1 n1 c1, .slice a3 n3 c3] W fun e w' => BPost (SameL n1 f1 n3 f3) W e w' := fun e1 e2 W hW => sameList_c a1 n1 c1 f1 a3 n3 c3 f3 W (h1.below hW) (h3.below hW) e1 e2
  have S2 : n2 ≤ 1048576 → n4 ≤ 1048576 → ∀ W, Below w.heap.size w W → Calls Try.prog 15 #[.slice a2 n2 c2, .slice a4 n4 c4] W fun e w' => BPost (SameL n2 f2 n4 f4) W e w' := fun e1 e2 W hW => sameList_c a2 n2 c2 f2 a4 n4 c4 f4 W (h2.below hW) (h4.below hW) e1 e2
  have hu : Try.prog.underlying 23 = some (.array 16 5) := un23
  have hs1 := dsize d1
  have hs2 := dsize d2
  obtain ⟨RA0, RB0, hB0, hZ⟩ := law_start w (dval d1) (dval d2)
  generalize dval d1 = D1 at *
  generalize dval d2 = D2 at *
  clear h1 h2 h3 h4
  go_enter Try.func4, Try.ntmps4
  go_wp2_with (first | (refine wpList_load_mid rfl 23 _ rfl w.heap.size 0 rfl D1.toList _ RA0 hu rfl hs1 ?_) | (refine wpList_load_mid rfl 23 _ rfl (w.heap.size + 1) 0 rfl D2.toList _ RB0 hu rfl hs2 ?_))
  generalize hW0 : (w.alloc _).alloc _ = W0 at *
  clear hW0
  have hZ0 : w.heap.size + 1 < W0.heap.size := by omega
  clear hZ
  refine (ZZ W0 hB0).mono ?_
  rintro e w1 ⟨b1, rfl, hb1, g1⟩
  have hB1 := gr_trans hB0 g1
  have RA1 := range_below RA0 g1 (by omega)
  have RB1 := range_below RB0 g1 (by omega)
  have hZ1 : w.heap.size + 1 < w1.heap.size := by have := Below.size g1; omega
  clear hB0 RA0 RB0 hZ0 g1
  clear ZZ
  cases b1
  case false =>
    go_wp2_with fail
    go_ret
    exact ⟨rfl, hB1⟩
  obtain ⟨e1, e2, e3, e4⟩ := hb1 rfl
  clear hb1
  replace CB1 := CB1 e1
  replace CB2 := CB2 e2
  replace CB3 := CB3 e3
  replace CB4 := CB4 e4
  replace WC := WC e1 e2
  replace WO := WO e3 e4
  replace DC := DC e2 e4
  replace BC := BC e1 e2
  replace BO := BO e3 e4
  replace S1 := S1 e1 e3
  replace S2 := S2 e2 e4
  go_wp2_with fail
  refine (CB1 _ hB1).mono ?_
  rintro e w' ⟨s1, rfl, s1a, s1b, hw'⟩; obtain rfl := hw'.symm
  go_wp2_with fail
  refine (CB2 _ hB1).mono ?_
  rintro e w' ⟨s2, rfl, s2a, s2b, hw'⟩; obtain rfl := hw'.symm
  go_wp2_with fail
  refine (addLen_p s1 s2 w1 s1a s2a).mono ?_
  rintro e w' ⟨t1, rfl, t1a, t1b, hw'⟩; obtain rfl := hw'.symm
  go_wp2_with fail
  refine (CB3 _ hB1).mono ?_
  rintro e w' ⟨s3, rfl, s3a, s3b, hw'⟩; obtain rfl := hw'.symm
  go_wp2_with fail
  refine (addLen_p t1 s3 w1 t1a s3a).mono ?_
  rintro e w' ⟨t2, rfl, t2a, t2b, hw'⟩; obtain rfl := hw'.symm
  go_wp2_with fail
  refine (CB4 _ hB1).mono ?_
  rintro e w' ⟨s4, rfl, s4a, s4b, hw'⟩; obtain rfl := hw'.symm
  go_wp2_with fail
  refine (addLen_p t2 s4 w1 t2a s4a).mono ?_
  rintro e w' ⟨t3, rfl, t3a, t3b, hw'⟩; obtain rfl := hw'.symm
  clear CB1 CB2 CB3 CB4
  by_cases ht : (1048576 : Int) < t3
  case pos =>
    go_wp2_with fail
    go_ret
    exact ⟨rfl, hB1⟩
  by_cases q1 : (65536 : Int) < n1
  case pos =>
    go_wp2_with fail
    go_ret
    exact ⟨rfl, hB1⟩
  by_cases q2 : (65536 : Int) < n2
  case pos =>
    go_wp2_with fail
    go_ret
    exact ⟨rfl, hB1⟩
  by_cases q3 : (65536 : Int) < n3
  case pos =>
    go_wp2_with fail
    go_ret
    exact ⟨rfl, hB1⟩
  by_cases q4 : (65536 : Int) < n4
  case pos =>
    go_wp2_with fail
    go_ret
    exact ⟨rfl, hB1⟩
  go_wp2_with fail
  refine (WC _ hB1).mono ?_
  rintro e w2 ⟨b2, rfl, hb2, g2⟩
  have hB2 := gr_trans hB1 g2
  have RA2 := range_below RA1 g2 (by omega)
  have RB2 := range_below RB1 g2 (by omega)
  have hZ2 : w.heap.size + 1 < w2.heap.size := by have := Below.size g2; omega
  clear hB1 RA1 RB1 hZ1 g2
  cases b2
  case false =>
    go_wp2_with fail
    go_ret
    exact ⟨rfl, hB2⟩
  have HWC : Hid (WFm n1 f1 n2 f2) := hide (hb2.1 (by simp))
  clear hb2 WC
  go_wp2_with fail
  refine (WO _ hB2).mono ?_
  rintro e w3 ⟨b3, rfl, hb3, g3⟩
  have hB3 := gr_trans hB2 g3
  have RA3 := range_below RA2 g3 (by omega)
  have RB3 := range_below RB2 g3 (by omega)
  have hZ3 : w.heap.size + 1 < w3.heap.size := by have := Below.size g3; omega
  clear hB2 RA2 RB2 hZ2 g3
  cases b3
  case false =>
    go_wp2_with fail
    go_ret
    exact ⟨rfl, hB3⟩
  have HWO : Hid (WFm n3 f3 n4 f4) := hide (hb3.1 (by simp))
  clear hb3 WO
  go_wp2_with (first | (refine wpList_load_mid rfl 23 _ rfl w.heap.size 0 rfl D1.toList _ RA3 hu rfl hs1 ?_) | (refine wpList_load_mid rfl 23 _ rfl (w.heap.size + 1) 0 rfl D2.toList _ RB3 hu rfl hs2 ?_))
  refine (DC _ hB3).mono ?_
  rintro e w4 ⟨b4, rfl, hb4, g4⟩
  have hB4 := gr_trans hB3 g4
  have RA4 := range_below RA3 g4 (by omega)
  have RB4 := range_below RB3 g4 (by omega)
  have hZ4 : w.heap.size + 1 < w4.heap.size := by have := Below.size g4; omega
  clear hB3 RA3 RB3 hZ3 g4
  cases b4
  case true =>
    go_wp2_with fail
    go_ret
    exact ⟨rfl, hB4⟩
  have HDC : Hid (¬ Clash n2 f2 d1 n4 f4 d2) := hide (fun hh => absurd (hb4.2 hh) (by simp))
  clear hb4 DC
  go_wp2_with (first | (refine wpList_load_mid rfl 23 _ rfl w.heap.size 0 rfl D1.toList _ RA4 hu rfl hs1 ?_) | (refine wpList_load_mid rfl 23 _ rfl (w.heap.size + 1) 0 rfl D2.toList _ RB4 hu rfl hs2 ?_))
  refine (BC _ hB4).mono ?_
  rintro e w5 ⟨p, t, rfl, hC5, hp, ht5, g5⟩
  clear hp ht5
  have hB5 := gr_trans hB4 g5
  have RA5 := range_below RA4 g5 (by omega)
  have RB5 := range_below RB4 g5 (by omega)
  have hZ5 : w.heap.size + 1 < w5.heap.size := by have := Below.size g5; omega
  clear hB4 RA4 RB4 hZ4 g5
  clear BC
  have g6 := below_alloc w5 (.cells #[.pointer p] 31)
  have x6 : Blk (w5.alloc (.cells #[.pointer p] 31)) w5.heap.size #[.pointer p] 31 := Blk.new _ _ _
  have hC6 := hC5.below g6
  have hB6 := gr_trans hB5 g6
  have RA6 := range_below RA5 g6 (by omega)
  have RB6 := range_below RB5 g6 (by omega)
  clear hB5 RA5 RB5 hC5 g6
  go_wp2_with (first | (refine wpList_load_mid rfl 23 _ rfl w.heap.size 0 rfl D1.toList _ RA6 hu rfl hs1 ?_) | (refine wpList_load_mid rfl 23 _ rfl (w.heap.size + 1) 0 rfl D2.toList _ RB6 hu rfl hs2 ?_))
  generalize hW6 : w5.alloc (.cells #[.pointer p] 31) = w6 at *
  clear hW6
  refine (BO _ hB6).mono ?_
  rintro e w7 ⟨q, u, rfl, hO7, hq, hu7, g7⟩
  have hpo := hC6.old
  have ap := apart hpo.1 hq
  have at_ := apart hpo.2 hu7
  have ap' := apart' hq hpo.1
  have at_' := apart' hu7 hpo.2
  have hC7 := hC6.below g7
  have x7 := x6.below g7 x6.lt
  have hB7 := gr_trans hB6 g7
  clear hpo hq hu7 hC6 x6 hB6 RA6 RB6 g7 BO hZ5
  have g8 := below_alloc w7 (.cells #[.pointer q] 31)
  have hC8 := hC7.below g8
  have hO8 := hO7.below g8
  have x8 := x7.below g8 x7.lt
  have y8 : Blk (w7.alloc (.cells #[.pointer q] 31)) w7.heap.size #[.pointer q] 31 := Blk.new _ _ _
  have hB8 := gr_trans hB7 g8
  have z7 : w7.cell? ⟨w5.heap.size, 0, none⟩ = some (.pointer p) := x7.cellv rfl
  have z7b := x7.lt
  have CC : ∀ W, Below (w7.alloc (.cells #[.pointer q] 31)).heap.size (w7.alloc (.cells #[.pointer q] 31)) W → Calls Try.prog 12 #[.agg #[.pointer p], .agg #[.pointer q]] W fun e w' => BPost (Cons n1 f1 n2 f2 n3 f3 n4 f4) W e w' := fun W hW => contains_c p t n1 f1 n2 f2 d1 q u n3 f3 n4 f4 d2 W (hC8.below hW) (hO8.below hW) ap at_ HDC.out HWC.out.1.1 HWC.out.1.2 HWO.out.1.1 HWO.out.1.2 e1 e2 e3 e4
  have CO : ∀ W, Below (w7.alloc (.cells #[.pointer q] 31)).heap.size (w7.alloc (.cells #[.pointer q] 31)) W → Calls Try.prog 12 #[.agg #[.pointer q], .agg #[.pointer p]] W fun e w' => BPost (Cons n3 f3 n4 f4 n1 f1 n2 f2) W e w' := fun W hW => contains_c q u n3 f3 n4 f4 d2 p t n1 f1 n2 f2 d1 W (hO8.below hW) (hC8.below hW) ap' at_' (Clash.symm HDC.out) HWO.out.1.1 HWO.out.1.2 HWC.out.1.1 HWC.out.1.2 e3 e4 e1 e2
  clear ap at_ ap' at_' hC7 hO7 hC8 hO8 x7 hB7 g8
  go_wp2_with fail
  generalize hW8 : w7.alloc (.cells #[.pointer q] 31) = w8 at *
  clear hW8
  refine (CC _ (Below.refl _ _)).mono ?_
  rintro e w9 ⟨r1, rfl, hr1, g9⟩
  have hB9 := gr_trans hB8 g9
  have x9 : w9.cell? ⟨w5.heap.size, 0, none⟩ = some (.pointer p) := (x8.below g9 x8.lt).cellv rfl
  have y9 : w9.cell? ⟨w7.heap.size, 0, none⟩ = some (.pointer q) := (y8.below g9 y8.lt).cellv rfl
  have CO9 := CO _ g9
  clear CC CO x8 y8 z7 z7b hB8 g9
  have LAST : ∀ (rr s1 s2 : Bool), (rr = true ↔ (Cons n1 f1 n2 f2 n3 f3 n4 f4 ∧ Cons n3 f3 n4 f4 n1 f1 n2 f2)) → (s1 = true ↔ SameL n1 f1 n3 f3) → (s2 = true ↔ SameL n2 f2 n4 f4) → rr = (s1 && s2) := fun rr s1 s2 hrr k1 k2 => by
    have K := cons_both HWC.out HWO.out
    rw [Bool.eq_iff_iff, hrr, Bool.and_eq_true, k1, k2]; exact K
  have LAST1 : ∀ (rr : Bool), (rr = true ↔ (Cons n1 f1 n2 f2 n3 f3 n4 f4 ∧ Cons n3 f3 n4 f4 n1 f1 n2 f2)) → ¬ SameL n1 f1 n3 f3 → rr = false := fun rr hrr k1 => by
    have K := cons_both HWC.out HWO.out
    cases rr
    · rfl
    · exact absurd (K.1 (hrr.1 rfl)).1 k1
  have HL := hide LAST
  have HL1 := hide LAST1
  clear LAST LAST1
  cases r1
  case false =>
    have hrr : (false = true ↔ (Cons n1 f1 n2 f2 n3 f3 n4 f4 ∧ Cons n3 f3 n4 f4 n1 f1 n2 f2)) := ⟨(fun h => by cases h), fun h => hr1.2 h.1⟩
    have HRR := hide hrr
    clear hr1 hrr CO9 x9 y9
    go_wp2_with fail
    refine (S1 _ hB9).mono ?_
    rintro e v1 ⟨k1, rfl, hk1, j1⟩
    have hBv := gr_trans hB9 j1
    cases k1
    case false =>
      clear hk1
      go_wp2_with fail
      go_ret
      exact ⟨rfl, hBv⟩
    case true =>
      have hk1t : SameL n1 f1 n3 f3 := hk1.1 (by simp)
      have HK1 := hide hk1t
      clear hk1 hk1t
      go_wp2_with fail
      refine (S2 _ hBv).mono ?_
      rintro e v2 ⟨k2, rfl, hk2, j2⟩
      have hBx := gr_trans hBv j2
      have er := HL.out false true k2 HRR.out ⟨fun _ => HK1.out, fun _ => rfl⟩ hk2
      rw [Bool.true_and] at er
      subst er
      clear hk2 hBv j2
      go_wp2_with fail
      go_ret
      exact ⟨rfl, hBx⟩
  case true =>
    have HR1 : Hid (Cons n1 f1 n2 f2 n3 f3 n4 f4) := hide (hr1.1 (by simp))
    clear hr1
    go_wp2_with fail
    refine CO9.mono ?_
    rintro e w10 ⟨r2, rfl, hr2, g10⟩
    have hB10 := gr_trans hB9 g10
    clear CO9 x9 y9 hB9 g10
    cases r2
    case false =>
      have hrr : (false = true ↔ (Cons n1 f1 n2 f2 n3 f3 n4 f4 ∧ Cons n3 f3 n4 f4 n1 f1 n2 f2)) := ⟨(fun h => by cases h), fun h => hr2.2 h.2⟩
      have HRR := hide hrr
      clear hr2 hrr
      go_wp2_with fail
      refine (S1 _ hB10).mono ?_
      rintro e v1 ⟨k1, rfl, hk1, j1⟩
      have hBv := gr_trans hB10 j1
      cases k1
      case false =>
        clear hk1
        go_wp2_with fail
        go_ret
        exact ⟨rfl, hBv⟩
      case true =>
        have hk1t : SameL n1 f1 n3 f3 := hk1.1 (by simp)
        have HK1 := hide hk1t
        clear hk1 hk1t
        go_wp2_with fail
        refine (S2 _ hBv).mono ?_
        rintro e v2 ⟨k2, rfl, hk2, j2⟩
        have hBx := gr_trans hBv j2
        have er := HL.out false true k2 HRR.out ⟨fun _ => HK1.out, fun _ => rfl⟩ hk2
        rw [Bool.true_and] at er
        subst er
        clear hk2 hBv j2
        go_wp2_with fail
        go_ret
        exact ⟨rfl, hBx⟩
    case true =>
      have hrr : Cons n1 f1 n2 f2 n3 f3 n4 f4 ∧ Cons n3 f3 n4 f4 n1 f1 n2 f2 := ⟨HR1.out, hr2.1 (by simp)⟩
      have HRR := hide hrr
      clear hr2 hrr
      go_wp2_with fail
      refine (S1 _ hB10).mono ?_
      rintro e v1 ⟨k1, rfl, hk1, j1⟩
      have hBv := gr_trans hB10 j1
      cases k1
      case false =>
        have er := HL1.out true ⟨fun _ => HRR.out, fun _ => rfl⟩ (fun hh => absurd (hk1.2 hh) (by simp))
        cases er
      case true =>
        have hk1t : SameL n1 f1 n3 f3 := hk1.1 (by simp)
        have HK1 := hide hk1t
        clear hk1 hk1t
        go_wp2_with fail
        refine (S2 _ hBv).mono ?_
        rintro e v2 ⟨k2, rfl, hk2, j2⟩
        have hBx := gr_trans hBv j2
        have er := HL.out true true k2 ⟨fun _ => HRR.out, fun _ => rfl⟩ ⟨fun _ => HK1.out, fun _ => rfl⟩ hk2
        rw [Bool.true_and] at er
        subst er
        clear hk2 hBv j2
        go_wp2_with fail
        go_ret
        exact ⟨rfl, hBx⟩
end Go.Proofs.Qxb6605926a
