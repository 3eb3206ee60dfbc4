/-
  FnLeaveQueueTakesCohortOutOnce (3), walked where its guards let it by.
-/
import Derived.Test.Qxb6613305aOnce
namespace Go.Proofs.Qxb6613305a
open Go.RowKit

theorem own_ge {w : World} {base : Nat} {e : TypeId} {size : Nat} {v : Value} {n : Nat} {xs : List Value} (h : w.ownsRow base e size v n xs) {i : Nat} (hi : some i = v.ownBlock) : base ≤ i := by
  rcases h.2 with ⟨hv, _⟩ | ⟨g', cap', cur, hv, hb, _⟩
  · rw [hv] at hi; cases hi
  · rw [hv] at hi; have x : i = g' := by simpa [Value.ownBlock] using hi
    omega

namespace fnLeaveQueueTakesCohortOutOnce

set_option maxRecDepth 100000 in
set_option maxHeartbeats 4000000 in
theorem main_way (n p pr : Nat) (page f : Int) (h1 : 1 ≤ n) (h1' : n ≤ 4096) (h3 : p < n) (h4 : pr ≤ 4096) (w : World) :
    Calls Try.prog 3 #[.int .i64 n, .int .i64 p, .int .i64 page, .int .u32 f, .int .i64 pr] w fun e w' => e = .returned (.bool true) ∧ Below w.heap.size w w' := by
  have b1 : (1 : Int) ≤ n := by omega
  have b2 : (n : Int) ≤ 4096 := by omega
  have b5 : (p : Int) < n := by omega
  have b6 : (pr : Int) ≤ 4096 := by omega
  go_enter Try.func3, Try.ntmps3
  go_wp2_with fail
  refine (newSim_c _ 0 false).mono ?_
  rintro e w1 ⟨rfl, S, hw1, hS38, -, -, -⟩
  go_wp2_with fail
  refine (newLock_c _ page ((f + 1) % 4294967296)).mono ?_
  rintro e w2 ⟨rfl, hw2⟩
  have e1 : Ex (fun _ => False) w w1 := hw1 ▸ (Ex.refl _ _).alloc _
  have e2 : Ex (fun _ => False) w1 w2 := hw2 ▸ (Ex.refl _ _).alloc _
  have hS1 : Blk w1 w.heap.size S 113 := hw1 ▸ Blk.new _ _ _
  have hO2 : Blk w2 w1.heap.size #[.int .i64 page, .slice none 0 0, .slice none 0 0, .nilFunc, .int .u32 ((f + 1) % 4294967296)] 120 := hw2 ▸ Blk.new _ _ _
  have hS2 := hS1.ex e2 (fun f => f)
  have z1 : w.heap.size < w1.heap.size := hS1.lt
  have z2 : w1.heap.size < w2.heap.size := hO2.lt
  have hB2 : Below w.heap.size w w2 := (e1.trans e2).below (Nat.le_refl _) (fun _ _ f => f)
  clear hw1 hw2 e1 e2 hS1
  go_wp2_with fail
  go_loopg [13] pr (fun k i wr => ∃ j : Nat, i = .int .i64 j ∧ k = pr - j ∧ j ≤ pr ∧ Ex (fun k => k = w.heap.size) w2 wr ∧ ∃ S a c xs, Blk wr w.heap.size S 113 ∧ S[38]? = some (.slice a j c) ∧ wr.ownsRow w2.heap.size 138 4 (.slice a j c) j xs ∧ LooksL xs w1.heap.size ((f + 1) % 4294967296) j)
  case atStart => exact ⟨0, rfl, rfl, Nat.zero_le _, Ex.refl _ _, S, none, 0, [], hS2, hS38, owns_nil _ _ _ _, fun i hi => by omega⟩
  case round =>
    obtain ⟨j, rfl, rfl, hj, hex, S', a, c, xs, hS, h38, hown, hLo⟩ := hrel
    by_cases hlt : j < pr
    · go_wp2_with fail
      have hOr := hO2.ex hex (by omega)
      refine (zzAddLook_c _ w.heap.size w1.heap.size w2.heap.size j S' a c xs _ _ _ _ ((f + 1) % 4294967296) hS h38 hOr hown hex.size (by omega)).mono ?_
      rintro e w3 ⟨rfl, g, cap, hS3, hown3, ex3⟩
      go_wp2_with fail
      go_roundg (pr - (j + 1))
      case measure => omega
      case rel =>
        refine ⟨j + 1, by go_num, rfl, hlt, hex.transLt ex3 ?_, _, _, _, _, hS3, set_at h38 _, hown3, hLo.snoc hown.1⟩
        rintro i hi (x | x)
        · exact x
        · have := own_ge hown x; omega
    · obtain rfl : pr = j := by omega
      have hOa := hO2.ex hex (by omega)
      have hBa : Below w.heap.size w wr := hB2.trans (hex.below (by have := hB2.size; omega) (fun k hk e => by omega))
      have zA : w2.heap.size ≤ wr.heap.size := hex.size
      clear hS2 hS38 hO2 hB2 hex
      go_wp2_with fail
      refine (newLock_c _ page f).mono ?_
      rintro e w3 ⟨rfl, hw3⟩
      obtain ⟨bl, hbl⟩ : ∃ x, x = wr.heap.size := ⟨_, rfl⟩
      rw [← hbl]
      have e3 : Ex (fun _ => False) wr w3 := hw3 ▸ (Ex.refl _ _).alloc _
      have hL3 : Blk w3 bl #[.int .i64 page, .slice none 0 0, .slice none 0 0, .nilFunc, .int .u32 f] 120 := by rw [hbl]; exact hw3 ▸ Blk.new _ _ _
      have hS3 := hS.ex e3 (fun f => f)
      have hO3 := hOa.ex e3 (fun f => f)
      have hown3 := owns_ex hown e3 (fun g _ f => f)
      have hB3 : Below w.heap.size w w3 := hBa.trans (e3.below hBa.size (fun _ _ f => f))
      have z3 : bl < w3.heap.size := hL3.lt
      have z4 : w2.heap.size ≤ bl := by omega
      clear hbl hw3 e3 hS hOa hown hBa zA
      go_wp2_with fail
      go_loopg [15] n (fun k i wq => ∃ j : Nat, i = .int .i64 j ∧ k = n - j ∧ j ≤ n ∧ Ex (fun k => k = bl) w3 wq ∧ ∃ a c xs cb, Filling wq w3.heap.size bl j page f a c xs cb)
      case atStart => exact ⟨0, rfl, rfl, Nat.zero_le _, Ex.refl _ _, _, _, _, _, Filling.start hL3⟩
      case round =>
        obtain ⟨j, rfl, rfl, hj, hexB, a2, c2, xs2, cb, hF⟩ := hrel
        have hsz2 : w3.heap.size ≤ wr.heap.size := hexB.size
        by_cases hlt : j < n
        · go_wp2_with fail
          refine (newCohort_c _ _).mono ?_
          rintro e w4 ⟨rfl, cs, hw4, k1, k9, k10⟩
          have hL4 := hF.lock.alloc (.cells cs 133)
          have hC4 := Blk.new wr cs 133
          have hown4 := hF.own.alloc (.cells cs 133)
          have ex4 := hexB.alloc (.cells cs 133)
          have hb4 : w3.heap.size ≤ (wr.alloc (.cells cs 133)).heap.size := by simp; omega
          rw [hw4] at hL4 hC4 hown4 ex4 hb4
          have HW := hide hw4
          clear hw4
          go_wp2_with fail
          refine (enqueue_c _ bl wr.heap.size w3.heap.size j cs a2 c2 xs2 _ _ _ (j : Int) _ _ hL4 hC4 k9 k10 hown4 hb4 (by omega)).mono ?_
          rintro e w5 ⟨rfl, g, cap, hL5, hown5, hC5, ex5⟩
          go_wp2_with fail
          go_roundg (n - (j + 1))
          case measure => omega
          case rel =>
            have F5 := hF.step hsz2 (unhide HW) k1 k9 k10 g cap hL5 hown5 hC5 ex5
            refine ⟨j + 1, by go_num, rfl, hlt, ex4.transLt ex5 ?_, _, _, _, _, F5⟩
            rintro i hi (x | x | x)
            · exact x
            · have := hexB.size; omega
            · have := own_ge hF.own x; omega
        · obtain rfl : n = j := by omega
          obtain ⟨g, cap, cur, F⟩ := hF.full (by omega)
          have hSb := hS3.ex hexB (by omega)
          have hOb := hO3.ex hexB (by omega)
          have hownb := owns_ex hown3 hexB (fun k hk e => owns_ne hown3 hL3 (by decide) (by rw [← e]; exact hk))
          have hBb : Below w.heap.size w wr := hB3.trans (hexB.below (by have := hB3.size; omega) (fun k hk e => by omega))
          clear hF hexB hS3 hO3 hown3 hB3 hL3
          go_wp2_with fail
          refine (newCohort_c _ _).mono ?_
          rintro e w4 ⟨rfl, cs, hw4, k1, k9, k10⟩
          have e4 : Ex (fun _ => False) wr w4 := hw4 ▸ (Ex.refl _ _).alloc _
          have hC4 : Blk w4 wr.heap.size cs 133 := hw4 ▸ Blk.new _ _ _
          have F4 := F.ex e4 (fun f => f) (fun _ _ _ f => f)
          have hS4 := hSb.ex e4 (fun f => f)
          have hO4 := hOb.ex e4 (fun f => f)
          have hown4 := owns_ex hownb e4 (fun g _ f => f)
          have hB4 : Below w.heap.size w w4 := hBb.trans (e4.below hBb.size (fun _ _ f => f))
          have z5 : w3.heap.size ≤ wr.heap.size := hsz2
          have z6 : wr.heap.size < w4.heap.size := hC4.lt
          clear hw4 e4 F hSb hOb hownb hBb hsz2
          go_wp2_with fail
          refine (zzLeaveNone_c _ _ _ (hC4.cellv k9)).mono ?_
          rintro e w' ⟨rfl, hw'⟩
          obtain rfl := hw'.symm
          go_wp2_with fail
          refine (looksLen_c _ _ pr _ _ (hS4.cellv h38)).mono ?_
          rintro e w' ⟨rfl, hw'⟩
          obtain rfl := hw'.symm
          go_wp2_with fail
          refine (waitingLen_c _ _ n _ _ (F4.lock.cellv rfl)).mono ?_
          rintro e w' ⟨rfl, hw'⟩
          obtain rfl := hw'.symm
          go_wp2_with fail
          refine (cohortWaiting_c _ _ _ (hC4.cellv k9)).mono ?_
          rintro e w' ⟨rfl, hw'⟩
          obtain rfl := hw'.symm
          go_wp2_with fail
          have nq1 := (F4.nodes p h3).2.2.2.2
          refine (waitingAt_c _ bl g n cap p _ (F4.lock.cellv rfl) h3 (F4.node.cellv nq1)).mono ?_
          rintro e w' ⟨rfl, hw'⟩
          obtain rfl := hw'.symm
          clear nq1
          obtain ⟨m, hm⟩ : ∃ m, n = m + 1 := ⟨n - 1, by omega⟩
          have qm : ((m : Int) != (n : Int) - 1) = false := by rw [bne_eq_false_iff_eq]; omega
          have im : m ≤ 4095 := by omega
          have im2 : m < n := by omega
          have HM := hide hm
          clear hm
          go_wp2_with fail
          refine (leaveFull_c _ w.heap.size w3.heap.size wr.heap.size bl n m g cap p pr c w2.heap.size a S' cur xs page f cb hS4 h38 hown4 (by omega) (by omega) F4 (unhide HM) im h3).mono ?_
          rintro e wL ⟨rfl, cc, hcc, kc1, kc9, hLeft⟩
          go_wp2_with fail
          obtain ⟨gl, capl, hS5, hown5⟩ := hLeft.sim
          have s38 : wL.cell? ⟨w.heap.size, 38, none⟩ = some (.slice (some ⟨gl, 0, none⟩) (pr + 1) capl) := hS5.cellv (set_at h38 _)
          obtain ⟨cur', a', hG5, hsz5, hN5, hSi⟩ := hLeft.nodes
          have hL5 := hLeft.lock
          have hC5 := hLeft.cohort
          have r1 := F4.row
          have r2 := F4.blks p h3
          have hB5 : Below w.heap.size w wL := hB4.trans (hLeft.ex.below hB4.size (fun k hk => by
            rintro ((x | x) | x | x | x)
            · omega
            · omega
            · omega
            · omega
            · have := own_ge hown4 x; omega))
          have hCo5 : ∀ i, i < n → i ≠ p → Coh wL (cb i) bl i := fun i hi hip => by
            refine (F4.coh i hi).ex hLeft.ex ?_
            have r3 := F4.blks i hi
            obtain ⟨ci, hci, ki, _⟩ := F4.coh i hi
            rintro ((x | x) | x | x | x)
            · exact hci.ne_type F4.node (by decide) x
            · omega
            · rw [x] at hci
              have := (hci.inj hcc).1
              subst this
              rw [ki] at kc1
              injection kc1 with kc1
              injection kc1 with _ kc1
              omega
            · omega
            · exact owns_ne hown4 hci (by decide) x.symm
          have hl1 := hLo.app hown4.1 (lookV bl f)
          have hl2 := look_last hown4.1 bl f
          have HL1 := hide hl1
          have HL2 := hide hl2
          have zL : w4.heap.size ≤ wL.heap.size := hLeft.ex.size
          clear hl1 hl2 hLo hown4 hS4 F4 hB4 hC4 hLeft hcc hO4
          refine (cohortWaiting_c _ _ _ (hC5.cellv (set_at kc9 _))).mono ?_
          rintro e w' ⟨rfl, hw'⟩
          obtain rfl := hw'.symm
          go_wp2_with fail
          refine (waitingLen_c _ _ m _ _ (hL5.cellv rfl)).mono ?_
          rintro e w' ⟨rfl, hw'⟩
          obtain rfl := hw'.symm
          obtain ⟨i0, hi0, hz0, hz1, hz2⟩ := info_parts info4
          go_wp2_with ((at_make; refine wpList_make_full _ rfl _ _ 37 rfl 0 4 i0 _ 1 Try.underlying37 hi0 hz0 hz1 _ _ _ _ n rfl rfl rfl rfl (by rw [hz2]; omega) (by unfold maxLen; omega) (Nat.zero_le _) ?_; intro w5 hseen hgr5))
          obtain ⟨sa0, hSA, _, _, hsa, htk, _⟩ := owns_blk hseen
          have hsa1 : sa0.size = n := by omega
          have hsn : SeenIn sa0 a' n 0 := SeenIn.start hsa1 (fun j hj => (take_get htk j (by omega)).trans (made_false n j hj))
          have e5 : Ex (fun _ => False) wL w5 := (Ex.refl _ _).grown hgr5 (fun k e => by cases e)
          have hL6 := hL5.ex e5 (fun f => f)
          have hG6 := hG5.ex e5 (fun f => f)
          have hC6 := hC5.ex e5 (fun f => f)
          have hS6 := hS5.ex e5 (fun f => f)
          have hown6 := owns_ex hown5 e5 (fun g _ f => f)
          have hCo6 : ∀ i, i < n → i ≠ p → Coh w5 (cb i) bl i := fun i hi hip => (hCo5 i hi hip).ex e5 (fun f => f)
          have hB6 : Below w.heap.size w w5 := hB5.trans (e5.below hB5.size (fun _ _ f => f))
          have zS : w.heap.size ≤ wL.heap.size := hB5.size
          clear hL5 hG5 hC5 hS5 hown5 hCo5 hB5 e5 hseen hgr5 htk hsa s38
          have hnl := neq_lock
          go_loopg [19] m (fun k i wq => ∃ j : Nat, i = .int .i64 j ∧ k = m - j ∧ j ≤ m ∧ Ex (fun k => k = wL.heap.size) w5 wq ∧ ∃ sa, Blk wq wL.heap.size sa 4 ∧ SeenIn sa a' n j)
          case atStart => exact ⟨0, rfl, rfl, Nat.zero_le _, Ex.refl _ _, _, hSA, hsn⟩
          case round =>
            obtain ⟨j, rfl, rfl, hj, hexS, sa, hSq, hsn2⟩ := hrel
            have hLq := hL6.ex hexS (hL6.ne_type hSA (by decide))
            have hGq := hG6.ex hexS (hG6.ne_type hSA (by decide))
            by_cases hlt : j < m
            · have hji : (j : Int) < (n : Int) - 1 := by have := unhide HM; omega
              have ok := hSi.ok j hlt
              obtain ⟨x, hx⟩ : ∃ x, x = a' j := ⟨_, rfl⟩
              have nd := hN5 j hlt
              rw [← hx] at nd ok
              have hxn : x < n := by have := unhide HM; omega
              have hCx := hCo6 x hxn ok.2
              have hfr := hsn2.fresh hSi hlt (by rw [← hx]; exact hxn)
              rw [← hx] at hfr
              obtain ⟨cx, hcx, kx1, kx9, kx10⟩ := hCx
              have hcq := hcx.ex hexS (hcx.ne_type hSA (by decide))
              have x0 : (x : Int) < n := by omega
              have x1 : ((x : Int) == (p : Int)) = false := by rw [beq_eq_false_iff_ne]; omega
              have sc : wr.cell? ⟨wL.heap.size, x, none⟩ = some (.bool false) := hSq.cellv hfr
              have sf : wr.frozen? ⟨wL.heap.size, x, none⟩ = false := hSq.frozen x
              have HX := hide hx
              have ND := hide nd
              clear hx nd hfr
              go_wp2_with fail
              refine (waitingAt_c _ bl g m cap j _ (hLq.cellv rfl) hlt (hGq.cellv (unhide ND).2.2.2.2)).mono ?_
              rintro e w' ⟨rfl, hw'⟩
              obtain rfl := hw'.symm
              go_wp2_with fail
              refine (index_c _ _ _ (hcq.cellv kx1)).mono ?_
              rintro e w' ⟨rfl, hw'⟩
              obtain rfl := hw'.symm
              go_wp2_with fail
              have hSt := hSq.set x (.bool true)
              have hcs := hcq.set_ne (a := ⟨wL.heap.size, x, none⟩) (.bool true) (hcq.ne_type hSq (by decide))
              have hLs := hLq.set_ne (a := ⟨wL.heap.size, x, none⟩) (.bool true) (hLq.ne_type hSq (by decide))
              have hGs := hGq.set_ne (a := ⟨wL.heap.size, x, none⟩) (.bool true) (hGq.ne_type hSq (by decide))
              have hexT := hexS.set ⟨wL.heap.size, x, none⟩ (.bool true) rfl
              refine (cohortWaiting_c _ _ _ (hcs.cellv kx9)).mono ?_
              rintro e w' ⟨rfl, hw'⟩
              obtain rfl := hw'.symm
              clear sc sf hSq hcq hLq hGq hexS
              generalize wr.setCell ⟨wL.heap.size, x, none⟩ (.bool true) = wT at *
              by_cases h0 : 0 < j
              · have h0' : (0 : Int) < j := by omega
                go_wp2_with fail
                refine (waitingSeq_c _ bl g m cap j _ (hLs.cellv rfl) hlt (hGs.cellv (unhide ND).2.2.2.1)).mono ?_
                rintro e w' ⟨rfl, hw'⟩
                obtain rfl := hw'.symm
                go_wp2_with fail
                obtain ⟨q, hq⟩ : ∃ q : Nat, q = (j - 1) / 2 := ⟨_, rfl⟩
                obtain ⟨y, hy⟩ : ∃ y, y = a' q := ⟨_, rfl⟩
                have hqm : q < m := by omega
                have ndq := hN5 q hqm
                have hyx : y ≤ x := by
                  have := hSi.heap j h0 hlt
                  rw [unhide HX, hy, hq]; exact this
                rw [← hy] at ndq
                have hyx' : decide ((x : Int) < (y : Int)) = false := decide_eq_false (by omega)
                rw [show ((j : Int) - 1) / 2 = (q : Int) by omega]
                clear hq hy
                refine (waitingSeq_c _ bl g m cap q _ (hLs.cellv rfl) hqm (hGs.cellv ndq.2.2.2.1)).mono ?_
                rintro e w' ⟨rfl, hw'⟩
                obtain rfl := hw'.symm
                clear ndq
                go_wp2_with fail
                go_roundg (m - (j + 1))
                case measure => omega
                case rel => exact ⟨j + 1, by go_num, rfl, hlt, hexT, _, hSt, by rw [unhide HX]; exact hsn2.step⟩
              · have h0' : (j : Int) ≤ 0 := by omega
                go_wp2_with fail
                go_roundg (m - (j + 1))
                case measure => omega
                case rel => exact ⟨j + 1, by go_num, rfl, hlt, hexT, _, hSt, by rw [unhide HX]; exact hsn2.step⟩
            · have hji : (n : Int) - 1 ≤ (j : Int) := by have := unhide HM; omega
              have hS7 := hS6.ex hexS (hS6.ne_type hSA (by decide))
              have hC7 := hC6.ex hexS (hC6.ne_type hSA (by decide))
              have hown7 := owns_ex hown6 hexS (fun k hk e => owns_ne hown6 hSA (by decide) (by rw [← e]; exact hk))
              have hB7 : Below w.heap.size w wr := hB6.trans (hexS.below hB6.size (fun k hk e => by omega))
              have s38 : wr.cell? ⟨w.heap.size, 38, none⟩ = some (.slice (some ⟨gl, 0, none⟩) (pr + 1) capl) := hS7.cellv (set_at h38 _)
              clear hS6 hC6 hL6 hG6 hown6 hCo6 hB6 hSA hGq hSq hexS
              go_wp2_with fail
              refine (looksLen_c _ _ (pr + 1) _ _ s38).mono ?_
              rintro e w' ⟨rfl, hw'⟩
              obtain rfl := hw'.symm
              go_wp2_with fail
              go_loopg [22] pr (fun k i wq => ∃ j : Nat, i = .int .i64 j ∧ k = pr - j ∧ j ≤ pr ∧ wq = wr)
              case atStart => exact ⟨0, rfl, rfl, Nat.zero_le _, rfl⟩
              case round =>
                obtain ⟨j, rfl, rfl, hj, hww⟩ := hrel
                subst hww
                by_cases hlt : j < pr
                · go_wp2_with fail
                  refine (lookLock_c _ _ gl (pr + 1) capl j _ s38 (by omega) (owns_cell hown7 ((unhide HL1) j hlt).1)).mono ?_
                  rintro e w' ⟨rfl, hw'⟩
                  obtain rfl := hw'.symm
                  go_wp2_with fail
                  refine (lookFreed_c _ _ gl (pr + 1) capl j _ s38 (by omega) (owns_cell hown7 ((unhide HL1) j hlt).2)).mono ?_
                  rintro e w' ⟨rfl, hw'⟩
                  obtain rfl := hw'.symm
                  go_wp2_with fail
                  go_roundg (pr - (j + 1))
                  case measure => omega
                  case rel => exact ⟨j + 1, by go_num, rfl, hlt, rfl⟩
                · obtain rfl : pr = j := by omega
                  have l2 := unhide HL2
                  go_wp2_with fail
                  refine (lookLock_c _ _ gl (pr + 1) capl pr _ s38 (by omega) (owns_cell hown7 l2.1)).mono ?_
                  rintro e w' ⟨rfl, hw'⟩
                  obtain rfl := hw'.symm
                  go_wp2_with fail
                  refine (lookFreed_c _ _ gl (pr + 1) capl pr _ s38 (by omega) (owns_cell hown7 l2.2.1)).mono ?_
                  rintro e w' ⟨rfl, hw'⟩
                  obtain rfl := hw'.symm
                  go_wp2_with fail
                  refine (lookCohort_c _ _ gl (pr + 1) capl pr _ s38 (by omega) (owns_cell hown7 l2.2.2.1)).mono ?_
                  rintro e w' ⟨rfl, hw'⟩
                  obtain rfl := hw'.symm
                  go_wp2_with fail
                  refine (lookSeq_c _ _ gl (pr + 1) capl pr _ s38 (by omega) (owns_cell hown7 l2.2.2.2)).mono ?_
                  rintro e w' ⟨rfl, hw'⟩
                  obtain rfl := hw'.symm
                  go_wp2_with fail
                  refine (zzLeaveNone_c _ _ _ (hC7.cellv (set_at kc9 _))).mono ?_
                  rintro e w' ⟨rfl, hw'⟩
                  obtain rfl := hw'.symm
                  go_wp2_with fail
                  refine (looksLen_c _ _ (pr + 1) _ _ s38).mono ?_
                  rintro e w' ⟨rfl, hw'⟩
                  obtain rfl := hw'.symm
                  go_wp2_with fail
                  refine (waitingLen_c _ _ m _ _ (hLq.cellv rfl)).mono ?_
                  rintro e w' ⟨rfl, hw'⟩
                  obtain rfl := hw'.symm
                  go_wp2_with fail
                  go_ret
                  exact ⟨rfl, hB7⟩
end fnLeaveQueueTakesCohortOutOnce
end Go.Proofs.Qxb6613305a
