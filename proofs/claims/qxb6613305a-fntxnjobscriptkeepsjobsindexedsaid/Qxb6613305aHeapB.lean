/-
  heap.down (52), walked: over the numbers in their order the last node sifts down the left children.
-/
import Derived.Test.Qxb6613305aHeapA
import Derived.Deep.LoopGhost
import Derived.Deep.QuietTactic
import Derived.BigQuiet
namespace Go.Proofs.Qxb6613305a
open Go.RowKit
attribute [local go_sem] run_store_float

theorem NewOnly.cell {w w' : World} (h : NewOnly w w') : ∀ b o, b < w.heap.size → w'.cell? ⟨b, o, none⟩ = w.cell? ⟨b, o, none⟩ := fun b _ hb => World.cell?_of_block (h.block b hb (fun f => f))

theorem keep_down {wr w' : World} {g bl : Nat} {sv x0 x1 x2 x3 y0 y1 y2 y3 : Value} {A B : Nat} (hg : g < wr.heap.size) (hb : bl < wr.heap.size) (c1 : wr.cell? ⟨bl, 2, none⟩ = some sv)
    (r0 : wr.cell? ⟨g, A, none⟩ = some x0) (r1 : wr.cell? ⟨g, A + 1, none⟩ = some x1) (r2 : wr.cell? ⟨g, A + 2, none⟩ = some x2) (r3 : wr.cell? ⟨g, A + 3, none⟩ = some x3)
    (q0 : wr.cell? ⟨g, B, none⟩ = some y0) (q1 : wr.cell? ⟨g, B + 1, none⟩ = some y1) (q2 : wr.cell? ⟨g, B + 2, none⟩ = some y2) (q3 : wr.cell? ⟨g, B + 3, none⟩ = some y3) (h : NewOnly wr w') :
    w'.cell? ⟨bl, 2, none⟩ = some sv ∧ w'.cell? ⟨g, A, none⟩ = some x0 ∧ w'.cell? ⟨g, A + 1, none⟩ = some x1 ∧ w'.cell? ⟨g, A + 2, none⟩ = some x2 ∧ w'.cell? ⟨g, A + 3, none⟩ = some x3
      ∧ w'.cell? ⟨g, B, none⟩ = some y0 ∧ w'.cell? ⟨g, B + 1, none⟩ = some y1 ∧ w'.cell? ⟨g, B + 2, none⟩ = some y2 ∧ w'.cell? ⟨g, B + 3, none⟩ = some y3 := by
  have k := h.cell
  refine ⟨?_, ?_, ?_, ?_, ?_, ?_, ?_, ?_, ?_⟩
  · rw [k _ _ hb]; exact c1
  all_goals (rw [k _ _ hg]; assumption)

theorem keep_seven {wr w' : World} {g bl bx : Nat} {sv x0 x1 x2 x3 y0 y1 y2 y3 : Value} {A : Nat} (hg : g < wr.heap.size) (hb : bl < wr.heap.size) (hx : bx < wr.heap.size) (c1 : wr.cell? ⟨bl, 2, none⟩ = some sv)
    (r0 : wr.cell? ⟨g, A, none⟩ = some x0) (r1 : wr.cell? ⟨g, A + 1, none⟩ = some x1) (r2 : wr.cell? ⟨g, A + 2, none⟩ = some x2) (r3 : wr.cell? ⟨g, A + 3, none⟩ = some x3)
    (q0 : wr.cell? ⟨bx, 0, none⟩ = some y0) (q1 : wr.cell? ⟨bx, 1, none⟩ = some y1) (q2 : wr.cell? ⟨bx, 2, none⟩ = some y2) (q3 : wr.cell? ⟨bx, 3, none⟩ = some y3) (h : NewOnly wr w') :
    w'.cell? ⟨bl, 2, none⟩ = some sv ∧ w'.cell? ⟨g, A, none⟩ = some x0 ∧ w'.cell? ⟨g, A + 1, none⟩ = some x1 ∧ w'.cell? ⟨g, A + 2, none⟩ = some x2 ∧ w'.cell? ⟨g, A + 3, none⟩ = some x3
      ∧ w'.cell? ⟨bx, 0, none⟩ = some y0 ∧ w'.cell? ⟨bx, 1, none⟩ = some y1 ∧ w'.cell? ⟨bx, 2, none⟩ = some y2 ∧ w'.cell? ⟨bx, 3, none⟩ = some y3 := by
  have k := h.cell
  refine ⟨?_, ?_, ?_, ?_, ?_, ?_, ?_, ?_, ?_⟩
  · rw [k _ _ hb]; exact c1
  iterate 4 (rw [k _ _ hg]; assumption)
  all_goals (rw [k _ _ hx]; assumption)

theorem hide {p : Prop} (h : p) : Hid p := h
theorem unhide {p : Prop} (h : Hid p) : p := h
theorem below_new {w w' : World} (h : Below w.heap.size w w') : NewOnly w w' := ⟨h.os, h.tape, h.output, h.size, fun k hk _ => h.block k hk⟩

/-- What holds at each round's head: the hole stands at h. -/
def Inv (w : World) (g bl bx m cap : Nat) (pg hs fd : Value) (C : Nat → Option Addr) (p sz : Nat) (h : Nat) (wr : World) : Prop :=
  h < m ∧ Ex (fun k => k = g) w wr ∧ (∃ cur a, Blk wr g cur 135 ∧ cur.size = sz ∧ NodesIn cur C a m ∧ Hole p h a) ∧ Blk wr bl #[pg, hs, .slice (some ⟨g, 0, none⟩) m cap, .nilFunc, fd] 120
   ∧ Blk wr bx #[.bool false, .float .f64 0, .int .u64 0, .int .u64 (m : Nat), .pointer (C m)] 135

set_option maxHeartbeats 1000000 in
theorem down_c (w : World) (g bl m cap p : Nat) (cur : Array Value) (pg hs fd : Value) (C : Nat → Option Addr)
    (hL : Blk w bl #[pg, hs, .slice (some ⟨g, 0, none⟩) m cap, .nilFunc, fd] 120) (hG : Blk w g cur 135) (hp : p < m) (hn : m * 5 ≤ cur.size) (hN : NodesIn cur C (fun j => j) m) (hm : m ≤ 4096) :
    Calls Try.prog 52 #[.pointer (some ⟨bl, 2, none⟩), .int .i64 p, .agg #[.bool false, .float .f64 0, .int .u64 0, .int .u64 (m : Nat), .pointer (C m)]] w
      fun e w' => e = .returned (.tuple #[]) ∧ Ex (fun k => k = g) w w' ∧ ∃ cur' a', Blk w' g cur' 135 ∧ cur'.size = cur.size ∧ NodesIn cur' C a' m ∧ Sifted p m a' := by
  have hg := hG.lt
  have hbl := hL.lt
  have hne : bl ≠ g := hL.ne_type hG (by decide)
  have c1 : w.cell? ⟨bl, 2, none⟩ = some (.slice (some ⟨g, 0, none⟩) m cap) := hL.cellv rfl
  go_enter Try.func52, Try.ntmps52
  go_wp2_with fail
  go_loopg [1] (m - p) (fun k i wr => ∃ h : Nat, i = .int .i64 h ∧ k = m - h ∧ Inv w g bl w.heap.size m cap pg hs fd C p cur.size h wr)
  case atStart => exact ⟨p, rfl, rfl, hp, (Ex.refl _ _).alloc _, ⟨cur, _, hG.alloc _, rfl, hN, Hole.start p⟩, hL.alloc _, Blk.new _ _ _⟩
  case round =>
    obtain ⟨h, rfl, rfl, hlt, hex, ⟨cr, a, hGr, hsz, hNr, hH⟩, hLr, hB⟩ := hrel
    clear hL hG hN c1
    have c1 : wr.cell? ⟨bl, 2, none⟩ = some (.slice (some ⟨g, 0, none⟩) m cap) := hLr.cellv rfl
    have hgr := hGr.lt
    have hblr := hLr.lt
    have hbx := hB.lt
    have hgx : g ≠ w.heap.size := by omega
    by_cases hc : 2 * h + 1 < m
    · obtain ⟨sc, hsc⟩ : ∃ s : Int, s = ((2 * h + 1 : Nat) : Int) := ⟨_, rfl⟩
      have nc := hNr (2 * h + 1) hc
      rw [hH.hi _ (by omega), ← hsc] at nc
      have ec : (2 * (h : Int) + 1).toNat = 2 * h + 1 := by omega
      have b0 : 0 ≤ 2 * (h : Int) + 1 := by omega
      have b1 : 0 ≤ 2 * (h : Int) + 1 + 1 := by omega
      have b2 : 2 * (h : Int) + 1 < m := by omega
      have q0 : wr.cell? ⟨g, (2 * (h : Int) + 1).toNat * 5, none⟩ = some (.bool false) := by rw [ec]; exact hGr.cellv nc.1
      have q1 : wr.cell? ⟨g, (2 * (h : Int) + 1).toNat * 5 + 1, none⟩ = some (.float .f64 0) := by rw [ec]; exact hGr.cellv nc.2.1
      have q2 : wr.cell? ⟨g, (2 * (h : Int) + 1).toNat * 5 + 2, none⟩ = some (.int .u64 0) := by rw [ec]; exact hGr.cellv nc.2.2.1
      have q3 : wr.cell? ⟨g, (2 * (h : Int) + 1).toNat * 5 + 3, none⟩ = some (.int .u64 sc) := by rw [ec]; exact hGr.cellv nc.2.2.2.1
      have hlast : decide (sc < (m : Int)) = true := decide_eq_true (by omega)
      have HS : Hid (sc = ((2 * h + 1 : Nat) : Int)) := hsc
      clear hsc ec
      go_upto_region 5 with fail
      go_cut [43] (fun x w' => x = .bool false ∧ NewOnly wr w')
      case first =>
        by_cases hr : 2 * h + 2 < m
        · have nr := hNr (2 * h + 2) hr
          rw [hH.hi _ (by omega)] at nr
          obtain ⟨sr, hsr⟩ : ∃ s : Int, s = ((2 * h + 2 : Nat) : Int) := ⟨_, rfl⟩
          rw [← hsr] at nr
          have er : (2 * (h : Int) + 1 + 1).toNat = 2 * h + 2 := by omega
          have hd : decide (sr < sc) = false := decide_eq_false (by have := HS.out; omega)
          have hd' : decide (2 * (h : Int) + 1 + 1 < m) = true := decide_eq_true (by omega)
          have b3 : 2 * (h : Int) + 1 + 1 < m := by omega
          have r0 : wr.cell? ⟨g, (2 * (h : Int) + 1 + 1).toNat * 5, none⟩ = some (.bool false) := by rw [er]; exact hGr.cellv nr.1
          have r1 : wr.cell? ⟨g, (2 * (h : Int) + 1 + 1).toNat * 5 + 1, none⟩ = some (.float .f64 0) := by rw [er]; exact hGr.cellv nr.2.1
          have r2 : wr.cell? ⟨g, (2 * (h : Int) + 1 + 1).toNat * 5 + 2, none⟩ = some (.int .u64 0) := by rw [er]; exact hGr.cellv nr.2.2.1
          have r3 : wr.cell? ⟨g, (2 * (h : Int) + 1 + 1).toNat * 5 + 3, none⟩ = some (.int .u64 sr) := by rw [er]; exact hGr.cellv nr.2.2.2.1
          clear nr nc hsr er
          go_region_held3 (fun w' => w'.cell? ⟨bl, 2, none⟩ = some (.slice (some ⟨g, 0, none⟩) m cap) ∧ w'.cell? ⟨g, (2 * (h : Int) + 1 + 1).toNat * 5, none⟩ = some (.bool false) ∧ w'.cell? ⟨g, (2 * (h : Int) + 1 + 1).toNat * 5 + 1, none⟩ = some (.float .f64 0) ∧ w'.cell? ⟨g, (2 * (h : Int) + 1 + 1).toNat * 5 + 2, none⟩ = some (.int .u64 0) ∧ w'.cell? ⟨g, (2 * (h : Int) + 1 + 1).toNat * 5 + 3, none⟩ = some (.int .u64 sr)
            ∧ w'.cell? ⟨g, (2 * (h : Int) + 1).toNat * 5, none⟩ = some (.bool false) ∧ w'.cell? ⟨g, (2 * (h : Int) + 1).toNat * 5 + 1, none⟩ = some (.float .f64 0) ∧ w'.cell? ⟨g, (2 * (h : Int) + 1).toNat * 5 + 2, none⟩ = some (.int .u64 0) ∧ w'.cell? ⟨g, (2 * (h : Int) + 1).toNat * 5 + 3, none⟩ = some (.int .u64 sc))
            (first | exact keep_down hgr hblr c1 r0 r1 r2 r3 q0 q1 q2 q3 (Ex.drew (Ex.refl _ _)) | exact keep_down hgr hblr c1 r0 r1 r2 r3 q0 q1 q2 q3 (Ex.trans (Ex.drew (Ex.refl _ _)) hnew))
            ((go_at_call 50; refine (before_c _ _ _).mono ?_; rintro e w' ⟨rfl, hnew⟩))
          go_wp2_with fail
          go_meet
          case rel => exact ⟨by simp, Ex.trans (Ex.drew (Ex.refl _ _)) hnew⟩
        · have hd' : decide (2 * (h : Int) + 1 + 1 < m) = false := decide_eq_false (by omega)
          clear nc
          go_quiet (fail)
          go_wp2_with fail
          go_meet
          case rel => exact ⟨rfl, below_new (below_drewN (Below.refl _ _) _)⟩
      case rest =>
        obtain ⟨rfl, hnew⟩ := hcut
        have hGc := hGr.ex hnew (fun f => f)
        have hLc := hLr.ex hnew (fun f => f)
        have hBc := hB.ex hnew (fun f => f)
        have hexc : Ex (fun k => k = g) w wc := hex.trans (hnew.mono (fun k f => f.elim))
        have k := hnew.cell
        rw [← k _ _ hgr] at q0 q1 q2 q3
        rw [← k _ _ hblr] at c1
        have NC := hide nc
        clear k nc
        have x0 : wc.cell? ⟨w.heap.size, 0, none⟩ = some (.bool false) := hBc.cellv rfl
        have x1 : wc.cell? ⟨w.heap.size, 1, none⟩ = some (.float .f64 0) := hBc.cellv rfl
        have x2 : wc.cell? ⟨w.heap.size, 2, none⟩ = some (.int .u64 0) := hBc.cellv rfl
        have x3 : wc.cell? ⟨w.heap.size, 3, none⟩ = some (.int .u64 (m : Nat)) := hBc.cellv rfl
        clear hgr hblr hbx hGr hLr hB hnew hex
        have hgr := hGc.lt
        have hblr := hLc.lt
        have hbx := hBc.lt
        go_upto_region 7 with fail
        go_cut [56] (fun x w' => x = .bool false ∧ NewOnly wc w')
        case first =>
          go_region_held3 (fun w' => w'.cell? ⟨bl, 2, none⟩ = some (.slice (some ⟨g, 0, none⟩) m cap) ∧ w'.cell? ⟨g, (2 * (h : Int) + 1).toNat * 5, none⟩ = some (.bool false) ∧ w'.cell? ⟨g, (2 * (h : Int) + 1).toNat * 5 + 1, none⟩ = some (.float .f64 0) ∧ w'.cell? ⟨g, (2 * (h : Int) + 1).toNat * 5 + 2, none⟩ = some (.int .u64 0) ∧ w'.cell? ⟨g, (2 * (h : Int) + 1).toNat * 5 + 3, none⟩ = some (.int .u64 sc)
            ∧ w'.cell? ⟨w.heap.size, 0, none⟩ = some (.bool false) ∧ w'.cell? ⟨w.heap.size, 1, none⟩ = some (.float .f64 0) ∧ w'.cell? ⟨w.heap.size, 2, none⟩ = some (.int .u64 0) ∧ w'.cell? ⟨w.heap.size, 3, none⟩ = some (.int .u64 (m : Nat)))
            (first | exact keep_seven hgr hblr hbx c1 q0 q1 q2 q3 x0 x1 x2 x3 (Ex.drew (Ex.refl _ _)) | exact keep_seven hgr hblr hbx c1 q0 q1 q2 q3 x0 x1 x2 x3 (Ex.trans (Ex.drew (Ex.refl _ _)) hnew))
            ((go_at_call 50; refine (before_c _ _ _).mono ?_; rintro e w' ⟨rfl, hnew⟩))
          go_wp2_with fail
          go_meet
          case rel => exact ⟨by simp, Ex.trans (Ex.drew (Ex.refl _ _)) hnew⟩
        case rest =>
          obtain ⟨rfl, hnew⟩ := hcut
          have hGd := hGc.ex hnew (fun f => f)
          have hLd := hLc.ex hnew (fun f => f)
          have hBd := hBc.ex hnew (fun f => f)
          have hexd : Ex (fun k => k = g) w wc := hexc.trans (hnew.mono (fun k f => f.elim))
          have k := hnew.cell
          rw [← k _ _ hblr] at c1
          have nc := unhide NC
          have z0 : wc.cell? ⟨g, (2 * h + 1) * 5, none⟩ = some (.bool false) := hGd.cellv nc.1
          have z1 : wc.cell? ⟨g, (2 * h + 1) * 5 + 1, none⟩ = some (.float .f64 0) := hGd.cellv nc.2.1
          have z2 : wc.cell? ⟨g, (2 * h + 1) * 5 + 2, none⟩ = some (.int .u64 0) := hGd.cellv nc.2.2.1
          have z3 : wc.cell? ⟨g, (2 * h + 1) * 5 + 3, none⟩ = some (.int .u64 sc) := hGd.cellv nc.2.2.2.1
          have z4 : wc.cell? ⟨g, (2 * h + 1) * 5 + 4, none⟩ = some (.pointer (C (2 * h + 1))) := hGd.cellv nc.2.2.2.2
          clear k nc x0 x1 x2 x3 q0 q1 q2 q3 hgr hblr hbx hGc hLc hBc hnew hexc
          go_wp2_with fail
          refine (set_c _ g bl m cap h cr pg hs fd sc (C (2 * h + 1)) hLd hGd hlt (by omega)).mono ?_
          rintro e w' ⟨rfl, hex2, hG2⟩
          go_wp2_with fail
          go_roundg (m - (2 * h + 1))
          case measure => omega
          case rel =>
            have hs' := HS.out
            subst hs'
            exact ⟨2 * h + 1, by go_num, rfl, hc, hexd.trans hex2, ⟨_, _, hG2, by rw [put5_size, hsz], hNr.put h (2 * h + 1) (by omega), hH.step⟩, hLd.ex hex2 hne, hBd.ex hex2 (fun e => hgx e.symm)⟩
    · have x0 : wr.cell? ⟨w.heap.size, 0, none⟩ = some (.bool false) := hB.cellv rfl
      have x1 : wr.cell? ⟨w.heap.size, 1, none⟩ = some (.float .f64 0) := hB.cellv rfl
      have x2 : wr.cell? ⟨w.heap.size, 2, none⟩ = some (.int .u64 0) := hB.cellv rfl
      have x3 : wr.cell? ⟨w.heap.size, 3, none⟩ = some (.int .u64 (m : Nat)) := hB.cellv rfl
      have x4 : wr.cell? ⟨w.heap.size, 4, none⟩ = some (.pointer (C m)) := hB.cellv rfl
      go_wp2_with fail
      refine (set_c _ g bl m cap h cr pg hs fd (m : Nat) (C m) hLr hGr hlt (by omega)).mono ?_
      rintro e w' ⟨rfl, hex2, hG2⟩
      go_wp2_with fail
      go_end0
      exact ⟨rfl, hex.trans hex2, _, _, hG2, by rw [put5_size, hsz], hNr.put h m (by omega), hH.last hlt (by omega)⟩
end Go.Proofs.Qxb6613305a
