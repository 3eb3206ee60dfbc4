/-
  newJob (49), walked.
-/
import Derived.Test.Qxb6613305aJobGet
namespace Go.Proofs.Qxb6613305a
open Go.RowKit
attribute [local go_sem] run_store_float

/-- A new job's cells as newJob lays them ahead of its steps. -/
def job0 (k sq : Int) (n : Nat) : Array Value :=
  #[.int .u8 k, .bool false, .bool false, .pointer none, .bool false, .float .f64 0, .int .u64 0, .int .u64 0, .bool false, .pointer none, .int .u8 0, .int .u8 0, .float .f64 0, .int .i64 0, .pointer none, .pointer none, .float .f64 0, .pointer none, .float .f64 0, .pointer none, .float .f64 0, .int .i64 n, .int .i64 0, .int .u64 sq, .int .i64 0, .bool false, .float .f64 0, .float .f64 0, .int .i64 (-1), .float .f64 0, .int .u64 0]

/-- The job with its first j steps laid. -/
structure JobSteps (J : Array Value) (k sq : Int) (n j : Nat) (L : Nat → Nat) : Prop where
  size : J.size = 31
  rest : ∀ o, o < 15 ∨ 21 ≤ o → J[o]? = (job0 k sq n)[o]?
  steps : ∀ i, i < j → J[15 + i * 2]? = some (.pointer none) ∧ J[15 + i * 2 + 1]? = some (.float .f64 (L i))

theorem JobSteps.start (k sq : Int) (n : Nat) (L : Nat → Nat) : JobSteps (job0 k sq n) k sq n 0 L := ⟨rfl, fun _ _ => rfl, fun i hi => by omega⟩

theorem JobSteps.step {J : Array Value} {k sq : Int} {n j : Nat} {L : Nat → Nat} (h : JobSteps J k sq n j L) (hj : j < 3) :
    JobSteps ((J.setIfInBounds (15 + j * 2) (.pointer none)).setIfInBounds (15 + j * 2 + 1) (.float .f64 (L j))) k sq n (j + 1) L := by
  have hs := h.size
  refine ⟨by simp [hs], fun o ho => ?_, fun i hi => ?_⟩
  · rw [set_ne _ _ _ _ (by omega), set_ne _ _ _ _ (by omega)]; exact h.rest o ho
  · by_cases e : i = j
    · subst e
      rw [set_ne _ _ _ _ (by omega), set_eq _ _ _ (by omega), set_eq _ _ _ (by simp; omega)]
      exact ⟨rfl, rfl⟩
    · have g := h.steps i (by omega)
      rw [set_ne _ _ _ _ (by omega), set_ne _ _ _ _ (by omega), set_ne _ _ _ _ (by omega), set_ne _ _ _ _ (by omega)]
      exact g

set_option maxRecDepth 100000 in
set_option maxHeartbeats 1000000 in
theorem newJob_c (w : World) (bs gst n cap : Nat) (S st : Array Value) (k sq sq1 : Int) (L : Nat → Nat)
    (hS : Blk w bs S 113) (h28 : S[28]? = some (.int .u64 sq)) (h40 : S[40]? = some (.slice none 0 0)) (hst : Blk w gst st 153) (hsteps : ∀ i, i < n → st[i * 2]? = some (.pointer none) ∧ st[i * 2 + 1]? = some (.float .f64 (L i))) (hn : n ≤ 3) (hsq : IntKind.u64.wrap (sq + 1) = sq1) :
    Calls Try.prog 49 #[.pointer (some ⟨bs, 0, none⟩), .int .u8 k, .slice (some ⟨gst, 0, none⟩) n cap] w fun e w' => e = .returned (.pointer (some ⟨w.heap.size, 0, none⟩)) ∧ Ex (fun k => k = bs) w w' ∧ Blk w' bs (S.setIfInBounds 28 (.int .u64 sq1)) 113 ∧ ∃ J, Blk w' w.heap.size J 162 ∧ JobSteps J k sq1 n n L := by
  have c28 : w.cell? ⟨bs, 28, none⟩ = some (.int .u64 sq) := hS.cellv h28
  have c40 : w.cell? ⟨bs, 40, none⟩ = some (.slice none 0 0) := hS.cellv h40
  have f28 : w.frozen? ⟨bs, 28, none⟩ = false := hS.frozen 28
  have lb := hS.lt
  have ls := hst.lt
  have hne : gst ≠ bs := hst.ne_type hS (by decide)
  have hn' : (n : Int) ≤ 3 := by omega
  go_enter Try.func49, Try.ntmps49
  go_wp2_with fail
  refine (takeNone_c _ _ c40).mono ?_
  rintro e w' ⟨rfl, hw'⟩
  obtain rfl := hw'.symm
  go_wp2_with fail
  have hS1 := (hS.set 28 (.int .u64 sq1)).alloc (.cells (job0 k sq1 n) 162)
  have hex1 : Ex (fun k => k = bs) w ((w.setCell ⟨bs, 28, none⟩ (.int .u64 sq1)).alloc (.cells (job0 k sq1 n) 162)) := ((Ex.refl (fun k => k = bs) w).set ⟨bs, 28, none⟩ (.int .u64 sq1) rfl).alloc _
  have hst1 := (hst.set_ne (a := ⟨bs, 28, none⟩) (.int .u64 sq1) hne).alloc (.cells (job0 k sq1 n) 162)
  have hJ1 : Blk ((w.setCell ⟨bs, 28, none⟩ (.int .u64 sq1)).alloc (.cells (job0 k sq1 n) 162)) w.heap.size (job0 k sq1 n) 162 := by
    have e := Blk.new (w.setCell ⟨bs, 28, none⟩ (.int .u64 sq1)) (job0 k sq1 n) 162
    simpa [World.setCell] using e
  go_loopg [55] n (fun kk x wr => ∃ j : Nat, x = .int .i64 j ∧ kk = n - j ∧ j ≤ n ∧ Ex (fun k => k = bs) w wr ∧ Blk wr bs (S.setIfInBounds 28 (.int .u64 sq1)) 113 ∧ Blk wr gst st 153 ∧ ∃ J, Blk wr w.heap.size J 162 ∧ JobSteps J k sq1 n j L)
  case atStart => exact ⟨0, rfl, rfl, Nat.zero_le _, hex1, hS1, hst1, _, hJ1, JobSteps.start k sq1 n L⟩
  case round =>
    obtain ⟨j, rfl, rfl, hj, hex, hSr, hstr, J, hJ, hJs⟩ := hrel
    clear hS1 hex1 hst1 hJ1 c28 c40 f28
    by_cases hlt : j < n
    · have hs := hsteps j hlt
      have s0 : wr.cell? ⟨gst, j * 2, none⟩ = some (.pointer none) := hstr.cellv hs.1
      have s1 : wr.cell? ⟨gst, j * 2 + 1, none⟩ = some (.float .f64 (L j)) := hstr.cellv hs.2
      have hjs := hJs.size
      obtain ⟨y0, k0⟩ : ∃ y, wr.cell? ⟨w.heap.size, 15 + j * 2, none⟩ = some y := ⟨J[15 + j * 2]'(by omega), hJ.cellv (by rw [Array.getElem?_eq_getElem])⟩
      obtain ⟨y1, k1⟩ : ∃ y, wr.cell? ⟨w.heap.size, 15 + j * 2 + 1, none⟩ = some y := ⟨J[15 + j * 2 + 1]'(by omega), hJ.cellv (by rw [Array.getElem?_eq_getElem])⟩
      have fz : ∀ o, wr.frozen? ⟨w.heap.size, o, none⟩ = false := hJ.frozen
      have lj := hJ.lt
      have j3 : (j : Int) < 3 := by omega
      obtain ⟨lv, hlv⟩ : ∃ lv, lv = L j := ⟨_, rfl⟩
      rw [← hlv] at s1
      have HV := hide hlv
      clear hs hlv
      go_upto_region 9 with fail
      have hexc : ∀ ob : Obj, Ex (fun k => k = w.heap.size) wr (((wr.setCell ⟨w.heap.size, 15 + j * 2, none⟩ (.pointer none)).setCell ⟨w.heap.size, 15 + j * 2 + 1, none⟩ (.float .f64 lv)).alloc ob).drew := fun ob =>
        ((Ex.refl (fun k => k = w.heap.size) wr).set ⟨w.heap.size, 15 + j * 2, none⟩ (.pointer none) rfl).set ⟨w.heap.size, 15 + j * 2 + 1, none⟩ (.float .f64 lv) rfl |>.alloc _ |>.drew
      have hJc : ∀ ob : Obj, Blk (((wr.setCell ⟨w.heap.size, 15 + j * 2, none⟩ (.pointer none)).setCell ⟨w.heap.size, 15 + j * 2 + 1, none⟩ (.float .f64 lv)).alloc ob).drew w.heap.size ((J.setIfInBounds (15 + j * 2) (.pointer none)).setIfInBounds (15 + j * 2 + 1) (.float .f64 lv)) 162 := fun ob => ((hJ.set _ _).set _ _).alloc _ |>.drew
      have HE := hide hexc
      have HJ := hide hJc
      clear hexc hJc
      go_region
      all_goals go_wp2_with fail
      all_goals
        go_roundg (n - (j + 1))
        case measure => omega
        case rel =>
          have hlv := unhide HV
          have hexc := unhide HE
          have hJc := unhide HJ
          subst hlv
          exact ⟨j + 1, by go_num, rfl, hlt, hex.transLt (hexc _) (fun i hi e => by omega), hSr.ex (hexc _) (by omega), hstr.ex (hexc _) (by omega), _, hJc _, hJs.step (by omega)⟩
    · obtain rfl : n = j := by omega
      go_wp2_with fail
      go_ret
      exact ⟨rfl, hex, hSr, J, hJ, hJs⟩
end Go.Proofs.Qxb6613305a
