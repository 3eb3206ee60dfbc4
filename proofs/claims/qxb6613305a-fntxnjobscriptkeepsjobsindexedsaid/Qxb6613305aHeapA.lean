/-
  The heap's own functions, walked: rank.before (50), heap.set (54).
-/
import Derived.Test.Qxb6613305aRows
import Derived.Test.Qxb6613305aMem
import Derived.WalkKit
import Derived.WalkSpells
import Derived.WalkLawsBesides
import Derived.Deep.RegionHeld3
import Derived.Deep.DeepCutAuto
import Derived.Laws.EntriesVeiled
namespace Go.Proofs.Qxb6613305a
open Go.RowKit

theorem run_store_float {P : Program} {w : World} {a : Addr} {m : Mode} (k : FloatKind) (n : Nat) : (store a (.float k n) m).run P w = stored P w a (.float k n) m := run_store P w a _ m rfl
attribute [local go_sem] run_store_float

def NewOnly (w w' : World) : Prop := Ex (fun _ => False) w w'

theorem before_c (s t : Int) (w : World) :
    Calls Try.prog 50 #[.agg #[.bool false, .float .f64 0, .int .u64 0, .int .u64 s], .agg #[.bool false, .float .f64 0, .int .u64 0, .int .u64 t]] w fun e w' => e = .returned (.bool (decide (s < t))) ∧ NewOnly w w' := by
  have f0 : (FloatKind.f64.format.order 0 0 != some .eq) = false := by decide +kernel
  go_enter Try.func50, Try.ntmps50
  go_wp2
  go_ret
  exact ⟨rfl, ((Ex.refl _ _).alloc _).alloc _⟩

theorem neq_nilFunc (w : World) : (binOp .neq 116 .nilFunc .nilFunc).run Try.prog w = .ok (.bool false) w := by kernel_rfl

theorem set_world (w : World) (g i : Nat) (cur : Array Value) (s : Int) (p : Option Addr) (ob : Obj) (h : Blk w g cur 135) :
    Ex (fun k => k = g) w ((((((w.setCell ⟨g, i * 5, none⟩ (.bool false)).setCell ⟨g, i * 5 + 1, none⟩ (.float .f64 0)).setCell ⟨g, i * 5 + 2, none⟩ (.int .u64 0)).setCell ⟨g, i * 5 + 3, none⟩ (.int .u64 s)).setCell ⟨g, i * 5 + 4, none⟩ (.pointer p)).alloc ob).drew
    ∧ Blk ((((((w.setCell ⟨g, i * 5, none⟩ (.bool false)).setCell ⟨g, i * 5 + 1, none⟩ (.float .f64 0)).setCell ⟨g, i * 5 + 2, none⟩ (.int .u64 0)).setCell ⟨g, i * 5 + 3, none⟩ (.int .u64 s)).setCell ⟨g, i * 5 + 4, none⟩ (.pointer p)).alloc ob).drew g (put5 cur i s p) 135 :=
  ⟨((((((Ex.refl (fun k => k = g) w).set ⟨g, i * 5, none⟩ (.bool false) rfl).set ⟨g, i * 5 + 1, none⟩ (.float .f64 0) rfl).set ⟨g, i * 5 + 2, none⟩ (.int .u64 0) rfl).set ⟨g, i * 5 + 3, none⟩ (.int .u64 s) rfl).set ⟨g, i * 5 + 4, none⟩ (.pointer p) rfl |>.alloc ob).drew,
    (((((h.set (i * 5) (.bool false)).set (i * 5 + 1) (.float .f64 0)).set (i * 5 + 2) (.int .u64 0)).set (i * 5 + 3) (.int .u64 s)).set (i * 5 + 4) (.pointer p) |>.alloc ob).drew⟩

set_option maxHeartbeats 400000 in
theorem set_c (w : World) (g bl n cap i : Nat) (cur : Array Value) (pg hs fd : Value) (s : Int) (p : Option Addr)
    (hL : Blk w bl #[pg, hs, .slice (some ⟨g, 0, none⟩) n cap, .nilFunc, fd] 120) (hG : Blk w g cur 135) (hi : i < n) (hn : n * 5 ≤ cur.size) :
    Calls Try.prog 54 #[.pointer (some ⟨bl, 2, none⟩), .int .i64 i, .agg #[.bool false, .float .f64 0, .int .u64 0, .int .u64 s, .pointer p]] w
      fun e w' => e = .returned (.tuple #[]) ∧ Ex (fun k => k = g) w w' ∧ Blk w' g (put5 cur i s p) 135 := by
  have hne : bl ≠ g := hL.ne_type hG (by decide)
  have hg := hG.lt
  have hbl := hL.lt
  have c1 : w.cell? ⟨bl, 2, none⟩ = some (.slice (some ⟨g, 0, none⟩) n cap) := hL.cellv rfl
  have hi' : (i : Int) < n := by omega
  obtain ⟨y0, k0⟩ : ∃ y, w.cell? ⟨g, i * 5, none⟩ = some y := ⟨cur[i * 5]'(by omega), hG.cellv (by rw [Array.getElem?_eq_getElem])⟩
  obtain ⟨y1, k1⟩ : ∃ y, w.cell? ⟨g, i * 5 + 1, none⟩ = some y := ⟨cur[i * 5 + 1]'(by omega), hG.cellv (by rw [Array.getElem?_eq_getElem])⟩
  obtain ⟨y2, k2⟩ : ∃ y, w.cell? ⟨g, i * 5 + 2, none⟩ = some y := ⟨cur[i * 5 + 2]'(by omega), hG.cellv (by rw [Array.getElem?_eq_getElem])⟩
  obtain ⟨y3, k3⟩ : ∃ y, w.cell? ⟨g, i * 5 + 3, none⟩ = some y := ⟨cur[i * 5 + 3]'(by omega), hG.cellv (by rw [Array.getElem?_eq_getElem])⟩
  obtain ⟨y4, k4⟩ : ∃ y, w.cell? ⟨g, i * 5 + 4, none⟩ = some y := ⟨cur[i * 5 + 4]'(by omega), hG.cellv (by rw [Array.getElem?_eq_getElem])⟩
  have hf : ∀ o, w.frozen? ⟨g, o, none⟩ = false := hG.frozen
  have hnn := neq_nilFunc
  go_enter Try.func54, Try.ntmps54
  go_wp2
  go_cut [] (fun w' => (Ex (fun k => k = g) w w' ∧ Blk w' g (put5 cur i s p) 135) ∧ w'.cell? ⟨bl, 3, none⟩ = some .nilFunc)
  case first =>
    go_region
    go_wp2_with fail
    go_meet
    case rel =>
      have sw := set_world w g i cur s p (.cells #[.bool false, .float .f64 0, .int .u64 0, .int .u64 s, .pointer p] 135) hG
      exact ⟨sw, (hL.ex sw.1 hne).cellv rfl⟩
  case rest =>
    obtain ⟨hg1, hc1⟩ := hcut
    clear c1 k0 k1 k2 k3 k4 hf
    go_wp2
    go_end0
    exact ⟨rfl, hg1⟩
end Go.Proofs.Qxb6613305a
