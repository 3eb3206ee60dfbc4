/-
  heap.remove (48), walked.
-/
import Derived.Test.Qxb6613305aHeapB
import Derived.Laws.Closers25
namespace Go.Proofs.Qxb6613305a
open Go.RowKit
attribute [local go_sem] run_store_float

theorem wrap_nat (n : Int) (h0 : 0 ≤ n) (h1 : n ≤ 9223372036854775807) : IntKind.i64.wrap n = n := by
  have := wrap_i64_ediv n 1 (by omega) h1 (by omega)
  rwa [Int.ediv_one] at this
theorem half_nat (k : Nat) (h : k ≤ 4096) : IntKind.i64.wrap (Int.tdiv (k : Int) 2) = (k : Int) / 2 := by
  rw [Int.tdiv_eq_ediv_of_nonneg (by omega)]; exact wrap_nat _ (by omega) (by omega)

theorem NodesIn.putBeyond {cur : Array Value} {C : Nat → Option Addr} {a : Nat → Nat} {m : Nat} (h : NodesIn cur C a m) (i : Nat) (hi : m ≤ i) (s : Int) (p : Option Addr) : NodesIn (put5 cur i s p) C a m := by
  intro j hj
  have g := h j hj
  rw [put5_ne _ _ _ _ _ (by omega), put5_ne _ _ _ _ _ (by omega), put5_ne _ _ _ _ _ (by omega), put5_ne _ _ _ _ _ (by omega), put5_ne _ _ _ _ _ (by omega)]
  exact g

theorem Sifted.none (m : Nat) : Sifted m m (fun j => j) := ⟨fun j hj => ⟨by omega, by omega⟩, fun i j hij _ => by omega, fun i _ _ => by omega⟩

/-- The world behind 'h.nodes[last] = node{}; h.nodes = h.nodes[:last]', the last node's copy laid. -/
theorem rm_world (w : World) (g bl m cap : Nat) (cur : Array Value) (pg hs fd : Value) (sm : Int) (cm : Option Addr)
    (hL : Blk w bl #[pg, hs, .slice (some ⟨g, 0, none⟩) (m + 1) cap, .nilFunc, fd] 120) (hG : Blk w g cur 135) (hne : bl ≠ g) :
    ∃ W1, ((((((w.setCell ⟨g, m * 5, none⟩ (.bool false)).setCell ⟨g, m * 5 + 1, none⟩ (.float .f64 0)).setCell ⟨g, m * 5 + 2, none⟩ (.int .u64 0)).setCell ⟨g, m * 5 + 3, none⟩ (.int .u64 0)).setCell ⟨g, m * 5 + 4, none⟩ (.pointer none)).setCell ⟨bl, 2, none⟩ (.slice (some ⟨g, 0, none⟩) m cap)).alloc (.cells #[.bool false, .float .f64 0, .int .u64 0, .int .u64 sm, .pointer cm] 135) = W1
      ∧ Ex (fun k => k = g ∨ k = bl) w W1 ∧ Blk W1 bl #[pg, hs, .slice (some ⟨g, 0, none⟩) m cap, .nilFunc, fd] 120 ∧ Blk W1 g (put5 cur m 0 none) 135 ∧ Blk W1 w.heap.size #[.bool false, .float .f64 0, .int .u64 0, .int .u64 sm, .pointer cm] 135 := by
  refine ⟨_, rfl, ?_, ?_, ?_, ?_⟩
  · exact ((((((Ex.refl (fun k => k = g ∨ k = bl) w).set ⟨g, m * 5, none⟩ (.bool false) (Or.inl rfl)).set ⟨g, m * 5 + 1, none⟩ (.float .f64 0) (Or.inl rfl)).set ⟨g, m * 5 + 2, none⟩ (.int .u64 0) (Or.inl rfl)).set ⟨g, m * 5 + 3, none⟩ (.int .u64 0) (Or.inl rfl)).set ⟨g, m * 5 + 4, none⟩ (.pointer none) (Or.inl rfl)).set ⟨bl, 2, none⟩ (.slice (some ⟨g, 0, none⟩) m cap) (Or.inr rfl) |>.alloc _
  · have h1 := ((((hL.set_ne (a := ⟨g, m * 5, none⟩) (.bool false) hne).set_ne (a := ⟨g, m * 5 + 1, none⟩) (.float .f64 0) hne).set_ne (a := ⟨g, m * 5 + 2, none⟩) (.int .u64 0) hne).set_ne (a := ⟨g, m * 5 + 3, none⟩) (.int .u64 0) hne).set_ne (a := ⟨g, m * 5 + 4, none⟩) (.pointer none) hne
    exact (h1.set 2 (.slice (some ⟨g, 0, none⟩) m cap)).alloc _
  · have h1 := (((((hG.set (m * 5) (.bool false)).set (m * 5 + 1) (.float .f64 0)).set (m * 5 + 2) (.int .u64 0)).set (m * 5 + 3) (.int .u64 0)).set (m * 5 + 4) (.pointer none))
    exact (h1.set_ne (a := ⟨bl, 2, none⟩) (.slice (some ⟨g, 0, none⟩) m cap) (fun e => hne e.symm)).alloc _
  · have e := Blk.new ((((((w.setCell ⟨g, m * 5, none⟩ (.bool false)).setCell ⟨g, m * 5 + 1, none⟩ (.float .f64 0)).setCell ⟨g, m * 5 + 2, none⟩ (.int .u64 0)).setCell ⟨g, m * 5 + 3, none⟩ (.int .u64 0)).setCell ⟨g, m * 5 + 4, none⟩ (.pointer none)).setCell ⟨bl, 2, none⟩ (.slice (some ⟨g, 0, none⟩) m cap)) #[.bool false, .float .f64 0, .int .u64 0, .int .u64 sm, .pointer cm] 135
    simpa [World.setCell] using e

set_option maxRecDepth 100000 in
set_option maxHeartbeats 1000000 in
theorem remove_c (w : World) (g bl m cap p : Nat) (cur : Array Value) (pg hs fd : Value) (C : Nat → Option Addr)
    (hL : Blk w bl #[pg, hs, .slice (some ⟨g, 0, none⟩) (m + 1) cap, .nilFunc, fd] 120) (hG : Blk w g cur 135) (hp : p < m + 1) (hcap : m + 1 ≤ cap) (hn : (m + 1) * 5 ≤ cur.size) (hN : NodesIn cur C (fun j => j) (m + 1)) (hm : m ≤ 4095) :
    Calls Try.prog 48 #[.pointer (some ⟨bl, 2, none⟩), .int .i64 p] w
      fun e w' => e = .returned (.pointer (C p)) ∧ Ex (fun k => k = g ∨ k = bl) w w' ∧ Blk w' bl #[pg, hs, .slice (some ⟨g, 0, none⟩) m cap, .nilFunc, fd] 120 ∧ ∃ cur' a', Blk w' g cur' 135 ∧ cur'.size = cur.size ∧ NodesIn cur' C a' m ∧ Sifted p m a' := by
  have hg := hG.lt
  have hbl := hL.lt
  have hne : bl ≠ g := hL.ne_type hG (by decide)
  have c1 : w.cell? ⟨bl, 2, none⟩ = some (.slice (some ⟨g, 0, none⟩) (m + 1) cap) := hL.cellv rfl
  have f1 : w.frozen? ⟨bl, 2, none⟩ = false := hL.frozen 2
  have np := hN p hp
  have nm := hN m (by omega)
  have p4 : w.cell? ⟨g, p * 5 + 4, none⟩ = some (.pointer (C p)) := hG.cellv np.2.2.2.2
  obtain ⟨sm, hsm⟩ : ∃ s : Int, s = ((m : Nat) : Int) := ⟨_, rfl⟩
  rw [← hsm] at nm
  have z0 : w.cell? ⟨g, m * 5, none⟩ = some (.bool false) := hG.cellv nm.1
  have z1 : w.cell? ⟨g, m * 5 + 1, none⟩ = some (.float .f64 0) := hG.cellv nm.2.1
  have z2 : w.cell? ⟨g, m * 5 + 2, none⟩ = some (.int .u64 0) := hG.cellv nm.2.2.1
  have z3 : w.cell? ⟨g, m * 5 + 3, none⟩ = some (.int .u64 sm) := hG.cellv nm.2.2.2.1
  have z4 : w.cell? ⟨g, m * 5 + 4, none⟩ = some (.pointer (C m)) := hG.cellv nm.2.2.2.2
  have hf : ∀ o, w.frozen? ⟨g, o, none⟩ = false := hG.frozen
  have HS := hide hsm
  clear np nm hsm
  have hp' : (p : Int) < (m : Int) + 1 := by omega
  go_enter Try.func48, Try.ntmps48
  go_upto_region 6 with fail
  obtain ⟨W1, hW, hex1, hL1, hG1, hB1⟩ := rm_world w g bl m cap cur pg hs fd sm (C m) hL hG hne
  rw [hW]
  have hN1 : NodesIn (put5 cur m 0 none) C (fun j => j) m := (hN.le (by omega)).putBeyond m (Nat.le_refl _) _ _
  have hsz1 := put5_size cur m 0 none
  generalize put5 cur m 0 none = cu at *
  clear hW c1 f1 p4 z0 z1 z2 z3 z4 hf hL hG hN
  have c1 : W1.cell? ⟨bl, 2, none⟩ = some (.slice (some ⟨g, 0, none⟩) m cap) := hL1.cellv rfl
  have c2 : W1.cell? ⟨bl, 3, none⟩ = some .nilFunc := hL1.cellv rfl
  have hnn := neq_nilFunc
  by_cases hlt : p < m
  · have hlt' : (p : Int) < m := by omega
    have x0 : W1.cell? ⟨w.heap.size, 0, none⟩ = some (.bool false) := hB1.cellv rfl
    have x1 : W1.cell? ⟨w.heap.size, 1, none⟩ = some (.float .f64 0) := hB1.cellv rfl
    have x2 : W1.cell? ⟨w.heap.size, 2, none⟩ = some (.int .u64 0) := hB1.cellv rfl
    have x3 : W1.cell? ⟨w.heap.size, 3, none⟩ = some (.int .u64 sm) := hB1.cellv rfl
    have hgr := hG1.lt
    have hblr := hL1.lt
    have hbx := hB1.lt
    go_upto_region 7 with fail
    go_cut [64] (fun x w' => x = .bool false ∧ NewOnly W1 w')
    case first =>
      by_cases h0 : 0 < p
      · obtain ⟨k, rfl⟩ : ∃ k, p = k + 1 := ⟨p - 1, by omega⟩
        have h0' : decide ((0 : Int) < (k : Int) + 1) = true := decide_eq_true (by omega)
        obtain ⟨q, hq⟩ : ∃ q : Nat, q = k / 2 := ⟨_, rfl⟩
        have nq := hN1 q (by omega)
        obtain ⟨sq, hsq⟩ : ∃ s : Int, s = (q : Int) := ⟨_, rfl⟩
        rw [← hsq] at nq
        have bb1 : (q : Int) < m := by omega
        have q0 : W1.cell? ⟨g, q * 5, none⟩ = some (.bool false) := hG1.cellv nq.1
        have q1 : W1.cell? ⟨g, q * 5 + 1, none⟩ = some (.float .f64 0) := hG1.cellv nq.2.1
        have q2 : W1.cell? ⟨g, q * 5 + 2, none⟩ = some (.int .u64 0) := hG1.cellv nq.2.2.1
        have q3 : W1.cell? ⟨g, q * 5 + 3, none⟩ = some (.int .u64 sq) := hG1.cellv nq.2.2.2.1
        have hd : decide (sm < sq) = false := decide_eq_false (by have := HS.out; omega)
        have ew1 := wrap_nat (k : Int) (by omega) (by omega)
        have ew2 : IntKind.i64.wrap (Int.tdiv (k : Int) 2) = (q : Int) := by rw [half_nat k (by omega)]; omega
        have ew3 : Int.tdiv (k : Int) 2 = (q : Int) := by rw [Int.tdiv_eq_ediv_of_nonneg (by omega)]; omega
        have ew4 : (k : Int) / 2 = (q : Int) := by omega
        have ew5 := wrap_nat (q : Int) (by omega) (by omega)
        clear nq hsq hq
        go_region_held3 (fun w' => w'.cell? ⟨bl, 2, none⟩ = some (.slice (some ⟨g, 0, none⟩) m cap) ∧ w'.cell? ⟨g, q * 5, none⟩ = some (.bool false) ∧ w'.cell? ⟨g, q * 5 + 1, none⟩ = some (.float .f64 0) ∧ w'.cell? ⟨g, q * 5 + 2, none⟩ = some (.int .u64 0) ∧ w'.cell? ⟨g, q * 5 + 3, none⟩ = some (.int .u64 sq)
            ∧ w'.cell? ⟨w.heap.size, 0, none⟩ = some (.bool false) ∧ w'.cell? ⟨w.heap.size, 1, none⟩ = some (.float .f64 0) ∧ w'.cell? ⟨w.heap.size, 2, none⟩ = some (.int .u64 0) ∧ w'.cell? ⟨w.heap.size, 3, none⟩ = some (.int .u64 sm))
            (first | exact keep_seven hgr hblr hbx c1 q0 q1 q2 q3 x0 x1 x2 x3 (Ex.drew (Ex.refl _ _)) | exact keep_seven hgr hblr hbx c1 q0 q1 q2 q3 x0 x1 x2 x3 (Ex.trans (Ex.drew (Ex.refl _ _)) hnew))
            ((go_at_call 50; refine (before_c _ _ _).mono ?_; rintro e w' ⟨rfl, hnew⟩))
        go_wp2_with fail
        go_meet
        case rel => exact ⟨by simp, Ex.trans (Ex.drew (Ex.refl _ _)) hnew⟩
      · obtain rfl : p = 0 := by omega
        go_quiet (fail)
        go_wp2_with fail
        go_meet
        case rel => exact ⟨rfl, below_new (below_drewN (Below.refl _ _) _)⟩
    case rest =>
      obtain ⟨rfl, hnew⟩ := hcut
      have hGd := hG1.ex hnew (fun f => f)
      have hLd := hL1.ex hnew (fun f => f)
      have hBd := hB1.ex hnew (fun f => f)
      have hexd : Ex (fun k => k = g ∨ k = bl) w wc := hex1.trans (hnew.mono (fun k f => f.elim))
      have y0 : wc.cell? ⟨w.heap.size, 0, none⟩ = some (.bool false) := hBd.cellv rfl
      have y1 : wc.cell? ⟨w.heap.size, 1, none⟩ = some (.float .f64 0) := hBd.cellv rfl
      have y2 : wc.cell? ⟨w.heap.size, 2, none⟩ = some (.int .u64 0) := hBd.cellv rfl
      have y3 : wc.cell? ⟨w.heap.size, 3, none⟩ = some (.int .u64 sm) := hBd.cellv rfl
      have y4 : wc.cell? ⟨w.heap.size, 4, none⟩ = some (.pointer (C m)) := hBd.cellv rfl
      clear x0 x1 x2 x3 c1 c2 hgr hblr hbx hnew
      go_wp2_with fail
      have hsm := HS.out
      subst hsm
      refine (down_c _ g bl m cap p cu pg hs fd C hLd hGd hlt (by omega) hN1 (by omega)).mono ?_
      rintro e w' ⟨rfl, hex2, cur', a', hG2, hsz2, hN2, hS2⟩
      have hL2 := hLd.ex hex2 hne
      have c2 : w'.cell? ⟨bl, 3, none⟩ = some .nilFunc := hL2.cellv rfl
      go_wp2_with fail
      go_ret
      exact ⟨rfl, hexd.trans (hex2.mono (fun k e => Or.inl e)), hL2, cur', a', hG2, by omega, hN2, hS2⟩
  · have hlt' : decide ((p : Int) < m) = false := decide_eq_false (by omega)
    go_wp2_with fail
    go_ret
    have e : p = m := by omega
    subst e
    exact ⟨rfl, hex1, hL1, cu, _, hG1, hsz1, hN1, Sifted.none _⟩
end Go.Proofs.Qxb6613305a
