/-
  The makers and the readers of zzexport.go, walked.
-/
import Derived.Test.Qxb6613305aHeapC
namespace Go.Proofs.Qxb6613305a
open Go.RowKit
attribute [local go_sem] run_store_float

/-! ### Readers: the world stands -/
theorem looksLen_c (w : World) (bs n c : Nat) (a : Option Addr) (h : w.cell? ⟨bs, 38, none⟩ = some (.slice a n c)) :
    Calls Try.prog 14 #[.pointer (some ⟨bs, 0, none⟩)] w fun e w' => e = .returned (.int .i64 n) ∧ w' = w := by
  go_enter Try.func14, Try.ntmps14
  go_wp2
  go_ret
  exact ⟨rfl, rfl⟩
theorem heapLen_c (w : World) (bl n c : Nat) (a : Option Addr) (h : w.cell? ⟨bl, 2, none⟩ = some (.slice a n c)) :
    Calls Try.prog 46 #[.pointer (some ⟨bl, 2, none⟩)] w fun e w' => e = .returned (.int .i64 n) ∧ w' = w := by
  go_enter Try.func46, Try.ntmps46
  go_wp2
  go_ret
  exact ⟨rfl, rfl⟩
theorem waitingLen_c (w : World) (bl n c : Nat) (a : Option Addr) (h : w.cell? ⟨bl, 2, none⟩ = some (.slice a n c)) :
    Calls Try.prog 15 #[.pointer (some ⟨bl, 0, none⟩)] w fun e w' => e = .returned (.int .i64 n) ∧ w' = w := by
  go_enter Try.func15, Try.ntmps15
  go_wp2
  go_ret
  exact ⟨rfl, rfl⟩
theorem cohortWaiting_c (w : World) (c : Nat) (p : Option Addr) (h : w.cell? ⟨c, 9, none⟩ = some (.pointer p)) :
    Calls Try.prog 16 #[.pointer (some ⟨c, 0, none⟩)] w fun e w' => e = .returned (.pointer p) ∧ w' = w := by
  go_enter Try.func16, Try.ntmps16
  go_wp2
  go_ret
  exact ⟨rfl, rfl⟩
theorem waitingAt_c (w : World) (bl g n c i : Nat) (p : Option Addr) (h : w.cell? ⟨bl, 2, none⟩ = some (.slice (some ⟨g, 0, none⟩) n c)) (hi : i < n) (hc : w.cell? ⟨g, i * 5 + 4, none⟩ = some (.pointer p)) :
    Calls Try.prog 17 #[.pointer (some ⟨bl, 0, none⟩), .int .i64 i] w fun e w' => e = .returned (.pointer p) ∧ w' = w := by
  go_enter Try.func17, Try.ntmps17
  go_wp2
  go_ret
  exact ⟨rfl, rfl⟩
theorem index_c (w : World) (c : Nat) (i : Int) (h : w.cell? ⟨c, 1, none⟩ = some (.int .i64 i)) :
    Calls Try.prog 18 #[.pointer (some ⟨c, 0, none⟩)] w fun e w' => e = .returned (.int .i64 i) ∧ w' = w := by
  go_enter Try.func18, Try.ntmps18
  go_wp2
  go_ret
  exact ⟨rfl, rfl⟩
theorem waitingSeq_c (w : World) (bl g n c i : Nat) (s : Int) (h : w.cell? ⟨bl, 2, none⟩ = some (.slice (some ⟨g, 0, none⟩) n c)) (hi : i < n) (hc : w.cell? ⟨g, i * 5 + 3, none⟩ = some (.int .u64 s)) :
    Calls Try.prog 19 #[.pointer (some ⟨bl, 0, none⟩), .int .i64 i] w fun e w' => e = .returned (.int .u64 s) ∧ w' = w := by
  go_enter Try.func19, Try.ntmps19
  go_wp2
  go_ret
  exact ⟨rfl, rfl⟩
theorem lookLock_c (w : World) (bs g n c i : Nat) (p : Option Addr) (h : w.cell? ⟨bs, 38, none⟩ = some (.slice (some ⟨g, 0, none⟩) n c)) (hi : i < n) (hc : w.cell? ⟨g, i * 4, none⟩ = some (.pointer p)) :
    Calls Try.prog 20 #[.pointer (some ⟨bs, 0, none⟩), .int .i64 i] w fun e w' => e = .returned (.pointer p) ∧ w' = w := by
  go_enter Try.func20, Try.ntmps20
  go_wp2
  go_ret
  exact ⟨rfl, rfl⟩
theorem lookFreed_c (w : World) (bs g n c i : Nat) (f : Int) (h : w.cell? ⟨bs, 38, none⟩ = some (.slice (some ⟨g, 0, none⟩) n c)) (hi : i < n) (hc : w.cell? ⟨g, i * 4 + 1, none⟩ = some (.int .u32 f)) :
    Calls Try.prog 21 #[.pointer (some ⟨bs, 0, none⟩), .int .i64 i] w fun e w' => e = .returned (.int .u32 f) ∧ w' = w := by
  go_enter Try.func21, Try.ntmps21
  go_wp2
  go_ret
  exact ⟨rfl, rfl⟩
theorem lookCohort_c (w : World) (bs g n c i : Nat) (p : Option Addr) (h : w.cell? ⟨bs, 38, none⟩ = some (.slice (some ⟨g, 0, none⟩) n c)) (hi : i < n) (hc : w.cell? ⟨g, i * 4 + 2, none⟩ = some (.pointer p)) :
    Calls Try.prog 22 #[.pointer (some ⟨bs, 0, none⟩), .int .i64 i] w fun e w' => e = .returned (.pointer p) ∧ w' = w := by
  go_enter Try.func22, Try.ntmps22
  go_wp2
  go_ret
  exact ⟨rfl, rfl⟩
theorem lookSeq_c (w : World) (bs g n c i : Nat) (s : Int) (h : w.cell? ⟨bs, 38, none⟩ = some (.slice (some ⟨g, 0, none⟩) n c)) (hi : i < n) (hc : w.cell? ⟨g, i * 4 + 3, none⟩ = some (.int .u64 s)) :
    Calls Try.prog 23 #[.pointer (some ⟨bs, 0, none⟩), .int .i64 i] w fun e w' => e = .returned (.int .u64 s) ∧ w' = w := by
  go_enter Try.func23, Try.ntmps23
  go_wp2
  go_ret
  exact ⟨rfl, rfl⟩

/-! ### Makers -/
theorem newLock_c (w : World) (pg f : Int) :
    Calls Try.prog 9 #[.int .i64 pg, .int .u32 f] w fun e w' => e = .returned (.pointer (some ⟨w.heap.size, 0, none⟩)) ∧ w.alloc (.cells #[.int .i64 pg, .slice none 0 0, .slice none 0 0, .nilFunc, .int .u32 f] 120) = w' := by
  go_enter Try.func9, Try.ntmps9
  go_wp2
  go_ret
  exact ⟨rfl, rfl⟩

/-- A new cohort's cells that matter: index at 1, waiting at 9, slot at 10. -/
theorem newCohort_c (w : World) (i : Int) :
    Calls Try.prog 12 #[.int .i64 i] w fun e w' => e = .returned (.pointer (some ⟨w.heap.size, 0, none⟩)) ∧ ∃ cs : Array Value, w.alloc (.cells cs 133) = w' ∧ cs[1]? = some (.int .i64 i) ∧ cs[9]? = some (.pointer none) ∧ cs[10]? = some (.int .i64 0) := by
  go_enter Try.func12, Try.ntmps12
  go_wp2
  go_ret
  exact ⟨rfl, _, rfl, rfl, rfl, rfl⟩

theorem newSim_c (w : World) (s : Int) (r : Bool) :
    Calls Try.prog 8 #[.int .u64 s, .bool r] w fun e w' => e = .returned (.pointer (some ⟨w.heap.size, 0, none⟩)) ∧ ∃ cs : Array Value, w.alloc (.cells cs 113) = w' ∧ cs[38]? = some (.slice none 0 0) ∧ cs[28]? = some (.int .u64 s) ∧ cs[11]? = some (.bool r) ∧ cs[40]? = some (.slice none 0 0) := by
  go_enter Try.func8, Try.ntmps8
  go_wp2
  go_ret
  exact ⟨rfl, _, rfl, rfl, rfl, rfl, rfl⟩
end Go.Proofs.Qxb6613305a
