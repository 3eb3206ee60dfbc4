/-
  FnLeaveQueueLooksInLeavingOrder (4), walked where its guards let it by.
-/
import Derived.Test.Qxb6613305aLaw
namespace Go.Proofs.Qxb6613305a
open Go.RowKit

namespace fnLeaveQueueLooksInLeavingOrder

set_option maxRecDepth 100000 in
set_option maxHeartbeats 2000000 in
theorem main_way (n1 p1 n2 p2 : Nat) (f1 f2 : Int) (b : Bool) (h1 : 1 ≤ n1) (h1' : n1 ≤ 4096) (h2 : 1 ≤ n2) (h2' : n2 ≤ 4096) (h3 : p1 < n1) (h4 : p2 < n2) (w : World) :
    Calls Try.prog 4 #[.int .i64 n1, .int .i64 p1, .int .i64 n2, .int .i64 p2, .int .u32 f1, .int .u32 f2, .bool b] w fun e w' => e = .returned (.bool true) ∧ Below w.heap.size w w' := by
  have b1 : (1 : Int) ≤ n1 := by omega
  have b2 : (n1 : Int) ≤ 4096 := by omega
  have b3 : (1 : Int) ≤ n2 := by omega
  have b4 : (n2 : Int) ≤ 4096 := by omega
  have b5 : (p1 : Int) < n1 := by omega
  have b6 : (p2 : Int) < n2 := by omega
  go_enter Try.func4, Try.ntmps4
  go_wp2_with fail
  refine (newSim_c _ 0 false).mono ?_
  rintro e w1 ⟨rfl, S, hw1, hS38, -, -, -⟩
  go_wp2_with fail
  refine (newLock_c _ 1 f1).mono ?_
  rintro e w2 ⟨rfl, hw2⟩
  go_wp2_with fail
  refine (newLock_c _ 2 f2).mono ?_
  rintro e w3 ⟨rfl, hw3⟩
  have e1 : Ex (fun _ => False) w w1 := hw1 ▸ (Ex.refl _ _).alloc _
  have e2 : Ex (fun _ => False) w1 w2 := hw2 ▸ (Ex.refl _ _).alloc _
  have e3 : Ex (fun _ => False) w2 w3 := hw3 ▸ (Ex.refl _ _).alloc _
  have hS1 : Blk w1 w.heap.size S 113 := hw1 ▸ Blk.new _ _ _
  have hL1 : Blk w2 w1.heap.size #[.int .i64 1, .slice none 0 0, .slice none 0 0, .nilFunc, .int .u32 f1] 120 := hw2 ▸ Blk.new _ _ _
  have hL2 : Blk w3 w2.heap.size #[.int .i64 2, .slice none 0 0, .slice none 0 0, .nilFunc, .int .u32 f2] 120 := hw3 ▸ Blk.new _ _ _
  have hS3 := (hS1.ex e2 (fun f => f)).ex e3 (fun f => f)
  have hL3 := hL1.ex e3 (fun f => f)
  have z1 : w.heap.size < w1.heap.size := hS1.lt
  have z2 : w1.heap.size < w2.heap.size := hL1.lt
  have z3 : w2.heap.size < w3.heap.size := hL2.lt
  have hB3 : Below w.heap.size w w3 := ((e1.trans e2).trans e3).below (Nat.le_refl _) (fun _ _ f => f)
  clear hw1 hw2 hw3 e1 e2 e3 hS1 hL1
  go_wp2_with fail
  go_loopg [18] n1 (fun k i wr => ∃ j : Nat, i = .int .i64 j ∧ k = n1 - j ∧ j ≤ n1 ∧ Ex (fun k => k = w1.heap.size) w3 wr ∧ ∃ a c xs cb, Filling wr w3.heap.size w1.heap.size j 1 f1 a c xs cb)
  case atStart => exact ⟨0, rfl, rfl, Nat.zero_le _, Ex.refl _ _, _, _, _, _, Filling.start hL3⟩
  case round =>
    obtain ⟨j, rfl, rfl, hj, hex, a, c, xs, cb, hF⟩ := hrel
    by_cases hlt : j < n1
    · go_wp2_with fail
      refine (newCohort_c _ _).mono ?_
      rintro e w4 ⟨rfl, cs, hw4, k1, k9, k10⟩
      have hL4 := hF.lock.alloc (.cells cs 133)
      have hC4 := Blk.new wr cs 133
      have hown4 := hF.own.alloc (.cells cs 133)
      have ex4 : Ex (fun k => k = w1.heap.size) w3 (wr.alloc (.cells cs 133)) := hex.alloc _
      have hb4 : w3.heap.size ≤ (wr.alloc (.cells cs 133)).heap.size := ex4.size
      rw [hw4] at hL4 hC4 hown4 ex4 hb4
      have HW := hide hw4
      clear hw4
      go_wp2_with fail
      refine (enqueue_c _ w1.heap.size wr.heap.size w3.heap.size j cs a c xs _ _ _ (j : Int) _ _ hL4 hC4 k9 k10 hown4 hb4 (by omega)).mono ?_
      rintro e w5 ⟨rfl, g, cap, hL5, hown5, hC5, ex5⟩
      go_wp2_with fail
      go_roundg (n1 - (j + 1))
      case measure => omega
      case rel =>
        have F5 := hF.step hex.size (unhide HW) k1 k9 k10 g cap hL5 hown5 hC5 ex5
        refine ⟨j + 1, by go_num, rfl, hlt, ex4.transLt ex5 ?_, _, _, _, _, F5⟩
        rintro i hi (x | x | x)
        · exact x
        · have := hex.size; omega
        · exfalso
          rcases hF.own.2 with ⟨hv, _⟩ | ⟨g', cap', cur, hv, hb, _⟩
          · rw [hv] at x; cases x
          · rw [hv] at x; have x : i = g' := by simpa [Value.ownBlock] using x
            omega
    · obtain rfl : n1 = j := by omega
      obtain ⟨g1, cap1, cur1, F1a⟩ := hF.full (by omega)
      obtain ⟨lo2, hlo2⟩ : ∃ x, x = wr.heap.size := ⟨_, rfl⟩
      rw [← hlo2] at F1a
      have HL := hide hlo2
      have hSa := hS3.ex hex (by omega)
      have hL2a := hL2.ex hex (by omega)
      have hBa : Below w.heap.size w wr := hB3.trans (hex.below (by have := hB3.size; omega) (fun k hk e => by omega))
      have zA : w3.heap.size ≤ lo2 := by rw [hlo2]; exact hex.size
      clear hlo2 hS3 hL2 hL3 hB3 hF hex
      go_wp2_with fail
      go_loopg [19] n2 (fun k i wq => ∃ j : Nat, i = .int .i64 j ∧ k = n2 - j ∧ j ≤ n2 ∧ Ex (fun k => k = w2.heap.size) wr wq ∧ ∃ a c xs cb, Filling wq lo2 w2.heap.size j 2 f2 a c xs cb)
      case atStart => exact ⟨0, rfl, rfl, Nat.zero_le _, Ex.refl _ _, _, _, _, _, Filling.start hL2a⟩
      case round =>
        obtain ⟨j, rfl, rfl, hj, hexB, a, c, xs, cb2, hF⟩ := hrel
        have hsz2 : lo2 ≤ wr.heap.size := by rw [unhide HL]; exact hexB.size
        by_cases hlt : j < n2
        · go_wp2_with fail
          refine (newCohort_c _ _).mono ?_
          rintro e w4 ⟨rfl, cs, hw4, k1, k9, k10⟩
          have hL4 := hF.lock.alloc (.cells cs 133)
          have hC4 := Blk.new wr cs 133
          have hown4 := hF.own.alloc (.cells cs 133)
          have ex4 := hexB.alloc (.cells cs 133)
          have hb4 : lo2 ≤ (wr.alloc (.cells cs 133)).heap.size := by simp; omega
          rw [hw4] at hL4 hC4 hown4 ex4 hb4
          have HW := hide hw4
          clear hw4
          go_wp2_with fail
          refine (enqueue_c _ w2.heap.size wr.heap.size lo2 j cs a c xs _ _ _ (j : Int) _ _ hL4 hC4 k9 k10 hown4 hb4 (by omega)).mono ?_
          rintro e w5 ⟨rfl, g, cap, hL5, hown5, hC5, ex5⟩
          go_wp2_with fail
          go_roundg (n2 - (j + 1))
          case measure => omega
          case rel =>
            have F5 := hF.step hsz2 (unhide HW) k1 k9 k10 g cap hL5 hown5 hC5 ex5
            refine ⟨j + 1, by go_num, rfl, hlt, ex4.transLt ex5 ?_, _, _, _, _, F5⟩
            rintro i hi (x | x | x)
            · exact x
            · have := hexB.size; omega
            · exfalso
              rw [← unhide HL] at hi
              rcases hF.own.2 with ⟨hv, _⟩ | ⟨g', cap', cur, hv, hb, _⟩
              · rw [hv] at x; cases x
              · rw [hv] at x; have x : i = g' := by simpa [Value.ownBlock] using x
                omega
        · obtain rfl : n2 = j := by omega
          obtain ⟨g2, cap2, cur2, F2⟩ := hF.full (by omega)
          have F1 := F1a.ex hexB (by omega) (fun k h1 h2 e => by omega)
          have hSb := hSa.ex hexB (by omega)
          have hBb : Below w.heap.size w wr := hBa.trans (hexB.below (by have := hBa.size; omega) (fun k hk e => by omega))
          clear hF F1a hSa hBa hL2a hexB
          have nq1 := (F1.nodes p1 h3).2.2.2.2
          have nq2 := (F2.nodes p2 h4).2.2.2.2
          have NQ1 := hide nq1
          have NQ2 := hide nq2
          clear nq1 nq2
          go_wp2_with fail
          refine (waitingAt_c _ w1.heap.size g1 n1 cap1 p1 _ (F1.lock.cellv rfl) h3 (F1.node.cellv (unhide NQ1))).mono ?_
          rintro e w' ⟨rfl, hw'⟩
          obtain rfl := hw'.symm
          go_wp2_with fail
          refine (waitingAt_c _ w2.heap.size g2 n2 cap2 p2 _ (F2.lock.cellv rfl) h4 (F2.node.cellv (unhide NQ2))).mono ?_
          rintro e w' ⟨rfl, hw'⟩
          obtain rfl := hw'.symm
          obtain ⟨m1, hm1⟩ : ∃ m, n1 = m + 1 := ⟨n1 - 1, by omega⟩
          obtain ⟨m2, hm2⟩ : ∃ m, n2 = m + 1 := ⟨n2 - 1, by omega⟩
          have q1 : ((m1 : Int) != (n1 : Int) - 1) = false := by rw [bne_eq_false_iff_eq]; omega
          have q2 : ((m2 : Int) != (n2 : Int) - 1) = false := by rw [bne_eq_false_iff_eq]; omega
          have i1 : m1 ≤ 4095 := by omega
          have i2 : m2 ≤ 4095 := by omega
          have HM1 := hide hm1
          have HM2 := hide hm2
          clear hm1 hm2
          have hnl := neq_lock
          go_wp2_with fail
          · refine (leaveFull_c _ w.heap.size lo2 wr.heap.size w2.heap.size n2 m2 g2 cap2 p2 0 0 w.heap.size none S cur2 [] 2 f2 cb2 hSb hS38 (owns_nil _ _ _ _) hBb.size (by omega) F2 (unhide HM2) (by omega) h4).mono ?_
            rintro e wL ⟨rfl, cc, hcc, kc1, kc9, hLeft⟩
            obtain ⟨gl, capl, hS1, hown1⟩ := hLeft.sim
            have s38 : wL.cell? ⟨w.heap.size, 38, none⟩ = some (.slice (some ⟨gl, 0, none⟩) 1 capl) := hS1.cellv (set_at hS38 _)
            have r1 := F2.row
            have r2 := F2.blks p2 h4
            have r3 := F1.row
            have r4 := F1.blks p1 h3
            have FB := F1.ex hLeft.ex (by rintro ((x | x) | x | x | x) <;> first | omega | cases x) (fun k g1 g2 => by rintro ((x | x) | x | x | x) <;> first | omega | cases x)
            have hBL : Below w.heap.size w wL := hBb.trans (hLeft.ex.below hBb.size (fun k hk => by rintro ((x | x) | x | x | x) <;> first | omega | cases x))
            have hex1 := hLeft.ex
            go_wp2_with fail
            refine (looksLen_c _ _ 1 _ _ s38).mono ?_
            rintro e w' ⟨rfl, hw'⟩
            obtain rfl := hw'.symm
            go_wp2_with fail
            refine (lookLock_c _ _ gl 1 capl 0 _ s38 (by omega) (owns_cell hown1 (j := 0) rfl)).mono ?_
            rintro e w' ⟨rfl, hw'⟩
            obtain rfl := hw'.symm
            go_wp2_with fail
            refine (lookFreed_c _ _ gl 1 capl 0 _ s38 (by omega) (owns_cell hown1 (j := 1) rfl)).mono ?_
            rintro e w' ⟨rfl, hw'⟩
            obtain rfl := hw'.symm
            go_wp2_with fail
            refine (lookCohort_c _ _ gl 1 capl 0 _ s38 (by omega) (owns_cell hown1 (j := 2) rfl)).mono ?_
            rintro e w' ⟨rfl, hw'⟩
            obtain rfl := hw'.symm
            go_wp2_with fail
            refine (cohortWaiting_c _ _ _ (hLeft.cohort.cellv (set_at kc9 _))).mono ?_
            rintro e w' ⟨rfl, hw'⟩
            obtain rfl := hw'.symm
            go_wp2_with fail
            refine (waitingLen_c _ _ m2 _ _ (hLeft.lock.cellv rfl)).mono ?_
            rintro e w' ⟨rfl, hw'⟩
            obtain rfl := hw'.symm
            go_wp2_with fail
            refine (waitingLen_c _ _ n1 _ _ (FB.lock.cellv rfl)).mono ?_
            rintro e w' ⟨rfl, hw'⟩
            obtain rfl := hw'.symm
            go_wp2_with fail
            obtain ⟨c2, hc2, kd1, kd9, kd10⟩ := FB.coh p1 h3
            refine (cohortWaiting_c _ _ _ (hc2.cellv kd9)).mono ?_
            rintro e w' ⟨rfl, hw'⟩
            obtain rfl := hw'.symm
            go_wp2_with fail
            have hsame : ∀ x, (Value.slice (some ⟨gl, 0, none⟩) (0 + 1) capl).ownBlock = some x → x = gl := fun x hx => by simpa [Value.ownBlock] using hx.symm
            obtain ⟨curl, hBl, _, _, _, _, hgl⟩ := owns_blk hown1
            clear s38
            refine (leaveFull_c _ w.heap.size w3.heap.size lo2 w1.heap.size n1 m1 g1 cap1 p1 (0 + 1) capl w.heap.size (some ⟨gl, 0, none⟩) _ cur1 _ 1 f1 cb hS1 (set_at hS38 _) hown1 hBL.size (by omega) FB (unhide HM1) (by omega) h3).mono ?_
            rintro e wM ⟨rfl, cd, hcd, ke1, ke9, hLeft2⟩
            obtain ⟨gm, capm, hS2, hown2⟩ := hLeft2.sim
            have t38 : wM.cell? ⟨w.heap.size, 38, none⟩ = some (.slice (some ⟨gm, 0, none⟩) 2 capm) := hS2.cellv (set_at (set_at hS38 _) _)
            have lA := hLeft.lock.ex hLeft2.ex (by
              rintro ((x | x) | x | x | x)
              · omega
              · omega
              · omega
              · omega
              · exact owns_ne hown1 hLeft.lock (by decide) x.symm)
            have hBM : Below w.heap.size w wM := hBL.trans (hLeft2.ex.below hBL.size (fun k hk => by
              rintro ((x | x) | x | x | x)
              · omega
              · omega
              · omega
              · omega
              · have := hsame k x.symm; omega))
            clear hsame
            go_wp2_with fail
            refine (looksLen_c _ _ 2 _ _ t38).mono ?_
            rintro e w' ⟨rfl, hw'⟩
            obtain rfl := hw'.symm
            go_wp2_with fail
            refine (lookLock_c _ _ gm 2 capm 0 _ t38 (by omega) (owns_cell hown2 (j := 0) rfl)).mono ?_
            rintro e w' ⟨rfl, hw'⟩
            obtain rfl := hw'.symm
            go_wp2_with fail
            refine (lookFreed_c _ _ gm 2 capm 0 _ t38 (by omega) (owns_cell hown2 (j := 1) rfl)).mono ?_
            rintro e w' ⟨rfl, hw'⟩
            obtain rfl := hw'.symm
            go_wp2_with fail
            refine (lookLock_c _ _ gm 2 capm 1 _ t38 (by omega) (owns_cell hown2 (j := 4) rfl)).mono ?_
            rintro e w' ⟨rfl, hw'⟩
            obtain rfl := hw'.symm
            go_wp2_with fail
            refine (lookFreed_c _ _ gm 2 capm 1 _ t38 (by omega) (owns_cell hown2 (j := 5) rfl)).mono ?_
            rintro e w' ⟨rfl, hw'⟩
            obtain rfl := hw'.symm
            go_wp2_with fail
            refine (lookCohort_c _ _ gm 2 capm 1 _ t38 (by omega) (owns_cell hown2 (j := 6) rfl)).mono ?_
            rintro e w' ⟨rfl, hw'⟩
            obtain rfl := hw'.symm
            go_wp2_with fail
            refine (lookSeq_c _ _ gm 2 capm 1 _ t38 (by omega) (owns_cell hown2 (j := 7) rfl)).mono ?_
            rintro e w' ⟨rfl, hw'⟩
            obtain rfl := hw'.symm
            go_wp2_with fail
            refine (cohortWaiting_c _ _ _ (hLeft2.cohort.cellv (set_at ke9 _))).mono ?_
            rintro e w' ⟨rfl, hw'⟩
            obtain rfl := hw'.symm
            go_wp2_with fail
            refine (waitingLen_c _ _ m2 _ _ (lA.cellv rfl)).mono ?_
            rintro e w' ⟨rfl, hw'⟩
            obtain rfl := hw'.symm
            go_wp2_with fail
            refine (waitingLen_c _ _ m1 _ _ (hLeft2.lock.cellv rfl)).mono ?_
            rintro e w' ⟨rfl, hw'⟩
            obtain rfl := hw'.symm
            go_wp2_with fail
            go_ret
            exact ⟨rfl, hBM⟩
          · refine (leaveFull_c _ w.heap.size w3.heap.size lo2 w1.heap.size n1 m1 g1 cap1 p1 0 0 w.heap.size none S cur1 [] 1 f1 cb hSb hS38 (owns_nil _ _ _ _) hBb.size (by omega) F1 (unhide HM1) (by omega) h3).mono ?_
            rintro e wL ⟨rfl, cc, hcc, kc1, kc9, hLeft⟩
            obtain ⟨gl, capl, hS1, hown1⟩ := hLeft.sim
            have s38 : wL.cell? ⟨w.heap.size, 38, none⟩ = some (.slice (some ⟨gl, 0, none⟩) 1 capl) := hS1.cellv (set_at hS38 _)
            have r1 := F1.row
            have r2 := F1.blks p1 h3
            have r3 := F2.row
            have r4 := F2.blks p2 h4
            have FB := F2.ex hLeft.ex (by rintro ((x | x) | x | x | x) <;> first | omega | cases x) (fun k g1 g2 => by rintro ((x | x) | x | x | x) <;> first | omega | cases x)
            have hBL : Below w.heap.size w wL := hBb.trans (hLeft.ex.below hBb.size (fun k hk => by rintro ((x | x) | x | x | x) <;> first | omega | cases x))
            have hex1 := hLeft.ex
            go_wp2_with fail
            refine (looksLen_c _ _ 1 _ _ s38).mono ?_
            rintro e w' ⟨rfl, hw'⟩
            obtain rfl := hw'.symm
            go_wp2_with fail
            refine (lookLock_c _ _ gl 1 capl 0 _ s38 (by omega) (owns_cell hown1 (j := 0) rfl)).mono ?_
            rintro e w' ⟨rfl, hw'⟩
            obtain rfl := hw'.symm
            go_wp2_with fail
            refine (lookFreed_c _ _ gl 1 capl 0 _ s38 (by omega) (owns_cell hown1 (j := 1) rfl)).mono ?_
            rintro e w' ⟨rfl, hw'⟩
            obtain rfl := hw'.symm
            go_wp2_with fail
            refine (lookCohort_c _ _ gl 1 capl 0 _ s38 (by omega) (owns_cell hown1 (j := 2) rfl)).mono ?_
            rintro e w' ⟨rfl, hw'⟩
            obtain rfl := hw'.symm
            go_wp2_with fail
            refine (cohortWaiting_c _ _ _ (hLeft.cohort.cellv (set_at kc9 _))).mono ?_
            rintro e w' ⟨rfl, hw'⟩
            obtain rfl := hw'.symm
            go_wp2_with fail
            refine (waitingLen_c _ _ m1 _ _ (hLeft.lock.cellv rfl)).mono ?_
            rintro e w' ⟨rfl, hw'⟩
            obtain rfl := hw'.symm
            go_wp2_with fail
            refine (waitingLen_c _ _ n2 _ _ (FB.lock.cellv rfl)).mono ?_
            rintro e w' ⟨rfl, hw'⟩
            obtain rfl := hw'.symm
            go_wp2_with fail
            obtain ⟨c2, hc2, kd1, kd9, kd10⟩ := FB.coh p2 h4
            refine (cohortWaiting_c _ _ _ (hc2.cellv kd9)).mono ?_
            rintro e w' ⟨rfl, hw'⟩
            obtain rfl := hw'.symm
            go_wp2_with fail
            have hsame : ∀ x, (Value.slice (some ⟨gl, 0, none⟩) (0 + 1) capl).ownBlock = some x → x = gl := fun x hx => by simpa [Value.ownBlock] using hx.symm
            obtain ⟨curl, hBl, _, _, _, _, hgl⟩ := owns_blk hown1
            clear s38
            refine (leaveFull_c _ w.heap.size lo2 wr.heap.size w2.heap.size n2 m2 g2 cap2 p2 (0 + 1) capl w.heap.size (some ⟨gl, 0, none⟩) _ cur2 _ 2 f2 cb2 hS1 (set_at hS38 _) hown1 hBL.size (by omega) FB (unhide HM2) (by omega) h4).mono ?_
            rintro e wM ⟨rfl, cd, hcd, ke1, ke9, hLeft2⟩
            obtain ⟨gm, capm, hS2, hown2⟩ := hLeft2.sim
            have t38 : wM.cell? ⟨w.heap.size, 38, none⟩ = some (.slice (some ⟨gm, 0, none⟩) 2 capm) := hS2.cellv (set_at (set_at hS38 _) _)
            have lA := hLeft.lock.ex hLeft2.ex (by
              rintro ((x | x) | x | x | x)
              · omega
              · omega
              · omega
              · omega
              · exact owns_ne hown1 hLeft.lock (by decide) x.symm)
            have hBM : Below w.heap.size w wM := hBL.trans (hLeft2.ex.below hBL.size (fun k hk => by
              rintro ((x | x) | x | x | x)
              · omega
              · omega
              · omega
              · omega
              · have := hsame k x.symm; omega))
            clear hsame
            go_wp2_with fail
            refine (looksLen_c _ _ 2 _ _ t38).mono ?_
            rintro e w' ⟨rfl, hw'⟩
            obtain rfl := hw'.symm
            go_wp2_with fail
            refine (lookLock_c _ _ gm 2 capm 0 _ t38 (by omega) (owns_cell hown2 (j := 0) rfl)).mono ?_
            rintro e w' ⟨rfl, hw'⟩
            obtain rfl := hw'.symm
            go_wp2_with fail
            refine (lookFreed_c _ _ gm 2 capm 0 _ t38 (by omega) (owns_cell hown2 (j := 1) rfl)).mono ?_
            rintro e w' ⟨rfl, hw'⟩
            obtain rfl := hw'.symm
            go_wp2_with fail
            refine (lookLock_c _ _ gm 2 capm 1 _ t38 (by omega) (owns_cell hown2 (j := 4) rfl)).mono ?_
            rintro e w' ⟨rfl, hw'⟩
            obtain rfl := hw'.symm
            go_wp2_with fail
            refine (lookFreed_c _ _ gm 2 capm 1 _ t38 (by omega) (owns_cell hown2 (j := 5) rfl)).mono ?_
            rintro e w' ⟨rfl, hw'⟩
            obtain rfl := hw'.symm
            go_wp2_with fail
            refine (lookCohort_c _ _ gm 2 capm 1 _ t38 (by omega) (owns_cell hown2 (j := 6) rfl)).mono ?_
            rintro e w' ⟨rfl, hw'⟩
            obtain rfl := hw'.symm
            go_wp2_with fail
            refine (lookSeq_c _ _ gm 2 capm 1 _ t38 (by omega) (owns_cell hown2 (j := 7) rfl)).mono ?_
            rintro e w' ⟨rfl, hw'⟩
            obtain rfl := hw'.symm
            go_wp2_with fail
            refine (cohortWaiting_c _ _ _ (hLeft2.cohort.cellv (set_at ke9 _))).mono ?_
            rintro e w' ⟨rfl, hw'⟩
            obtain rfl := hw'.symm
            go_wp2_with fail
            refine (waitingLen_c _ _ m1 _ _ (lA.cellv rfl)).mono ?_
            rintro e w' ⟨rfl, hw'⟩
            obtain rfl := hw'.symm
            go_wp2_with fail
            refine (waitingLen_c _ _ m2 _ _ (hLeft2.lock.cellv rfl)).mono ?_
            rintro e w' ⟨rfl, hw'⟩
            obtain rfl := hw'.symm
            go_wp2_with fail
            go_ret
            exact ⟨rfl, hBM⟩
end fnLeaveQueueLooksInLeavingOrder
end Go.Proofs.Qxb6613305a
