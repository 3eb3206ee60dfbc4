/-
  The readers of jobs and transactions of zzexport.go, and their makers, walked.
-/
import Derived.Test.Qxb6613305aGet
import Derived.Test.Qxb6613305aFill
import Derived.Deep.RegionLaw
namespace Go.Proofs.Qxb6613305a
open Go.RowKit
attribute [local go_sem] run_store_float

theorem jobKind_c (w : World) (b : Nat) (v : Int) (h : w.cell? ⟨b, 0, none⟩ = some (.int .u8 v)) :
    Calls Try.prog 28 #[.pointer (some ⟨b, 0, none⟩)] w fun e w' => e = .returned (.int .u8 v) ∧ w' = w := by
  go_enter Try.func28, Try.ntmps28
  go_wp2
  go_ret
  exact ⟨rfl, rfl⟩
theorem jobTxn_c (w : World) (b : Nat) (v : Option Addr) (h : w.cell? ⟨b, 3, none⟩ = some (.pointer v)) :
    Calls Try.prog 29 #[.pointer (some ⟨b, 0, none⟩)] w fun e w' => e = .returned (.pointer v) ∧ w' = w := by
  go_enter Try.func29, Try.ntmps29
  go_wp2
  go_ret
  exact ⟨rfl, rfl⟩
theorem jobCohort_c (w : World) (b : Nat) (v : Option Addr) (h : w.cell? ⟨b, 9, none⟩ = some (.pointer v)) :
    Calls Try.prog 30 #[.pointer (some ⟨b, 0, none⟩)] w fun e w' => e = .returned (.pointer v) ∧ w' = w := by
  go_enter Try.func30, Try.ntmps30
  go_wp2
  go_ret
  exact ⟨rfl, rfl⟩
theorem jobCleanUp_c (w : World) (b : Nat) (v : Bool) (h : w.cell? ⟨b, 1, none⟩ = some (.bool v)) :
    Calls Try.prog 31 #[.pointer (some ⟨b, 0, none⟩)] w fun e w' => e = .returned (.bool v) ∧ w' = w := by
  go_enter Try.func31, Try.ntmps31
  go_wp2
  go_ret
  exact ⟨rfl, rfl⟩
theorem jobAhead_c (w : World) (b : Nat) (v : Bool) (h : w.cell? ⟨b, 2, none⟩ = some (.bool v)) :
    Calls Try.prog 32 #[.pointer (some ⟨b, 0, none⟩)] w fun e w' => e = .returned (.bool v) ∧ w' = w := by
  go_enter Try.func32, Try.ntmps32
  go_wp2
  go_ret
  exact ⟨rfl, rfl⟩
theorem jobLive_c (w : World) (b : Nat) (v : Int) (h : w.cell? ⟨b, 24, none⟩ = some (.int .i64 v)) :
    Calls Try.prog 33 #[.pointer (some ⟨b, 0, none⟩)] w fun e w' => e = .returned (.int .i64 v) ∧ w' = w := by
  go_enter Try.func33, Try.ntmps33
  go_wp2
  go_ret
  exact ⟨rfl, rfl⟩
theorem jobSeq_c (w : World) (b : Nat) (v : Int) (h : w.cell? ⟨b, 23, none⟩ = some (.int .u64 v)) :
    Calls Try.prog 34 #[.pointer (some ⟨b, 0, none⟩)] w fun e w' => e = .returned (.int .u64 v) ∧ w' = w := by
  go_enter Try.func34, Try.ntmps34
  go_wp2
  go_ret
  exact ⟨rfl, rfl⟩
theorem jobN_c (w : World) (b : Nat) (v : Int) (h : w.cell? ⟨b, 21, none⟩ = some (.int .i64 v)) :
    Calls Try.prog 36 #[.pointer (some ⟨b, 0, none⟩)] w fun e w' => e = .returned (.int .i64 v) ∧ w' = w := by
  go_enter Try.func36, Try.ntmps36
  go_wp2
  go_ret
  exact ⟨rfl, rfl⟩
theorem jobAt_c (w : World) (b : Nat) (v : Int) (h : w.cell? ⟨b, 22, none⟩ = some (.int .i64 v)) :
    Calls Try.prog 37 #[.pointer (some ⟨b, 0, none⟩)] w fun e w' => e = .returned (.int .i64 v) ∧ w' = w := by
  go_enter Try.func37, Try.ntmps37
  go_wp2
  go_ret
  exact ⟨rfl, rfl⟩
theorem jobSlot_c (w : World) (b : Nat) (v : Int) (h : w.cell? ⟨b, 28, none⟩ = some (.int .i64 v)) :
    Calls Try.prog 38 #[.pointer (some ⟨b, 0, none⟩)] w fun e w' => e = .returned (.int .i64 v) ∧ w' = w := by
  go_enter Try.func38, Try.ntmps38
  go_wp2
  go_ret
  exact ⟨rfl, rfl⟩
theorem simSeq_c (w : World) (b : Nat) (v : Int) (h : w.cell? ⟨b, 28, none⟩ = some (.int .u64 v)) :
    Calls Try.prog 35 #[.pointer (some ⟨b, 0, none⟩)] w fun e w' => e = .returned (.int .u64 v) ∧ w' = w := by
  go_enter Try.func35, Try.ntmps35
  go_wp2
  go_ret
  exact ⟨rfl, rfl⟩
theorem stepLength_c (w : World) (b i : Nat) (v : Nat) (hi : i < 3) (h : w.cell? ⟨b, 15 + i * 2 + 1, none⟩ = some (.float .f64 v)) :
    Calls Try.prog 40 #[.pointer (some ⟨b, 0, none⟩), .int .i64 i] w fun e w' => e = .returned (.float .f64 v) ∧ w' = w := by
  have hi' : (i : Int) < 3 := by omega
  go_enter Try.func40, Try.ntmps40
  go_wp2
  go_ret
  exact ⟨rfl, rfl⟩
theorem stepStation_c (w : World) (b i : Nat) (v : Option Addr) (hi : i < 3) (h : w.cell? ⟨b, 15 + i * 2, none⟩ = some (.pointer v)) :
    Calls Try.prog 41 #[.pointer (some ⟨b, 0, none⟩), .int .i64 i] w fun e w' => e = .returned (.pointer v) ∧ w' = w := by
  have hi' : (i : Int) < 3 := by omega
  go_enter Try.func41, Try.ntmps41
  go_wp2
  go_ret
  exact ⟨rfl, rfl⟩
theorem jobsLen_c (w : World) (b n c : Nat) (a : Option Addr) (h : w.cell? ⟨b, 9, none⟩ = some (.slice a n c)) :
    Calls Try.prog 42 #[.pointer (some ⟨b, 0, none⟩)] w fun e w' => e = .returned (.int .i64 n) ∧ w' = w := by
  go_enter Try.func42, Try.ntmps42
  go_wp2
  go_ret
  exact ⟨rfl, rfl⟩
theorem jobAt_k_c (w : World) (b g n c i : Nat) (p : Option Addr) (h : w.cell? ⟨b, 9, none⟩ = some (.slice (some ⟨g, 0, none⟩) n c)) (hi : i < n) (hc : w.cell? ⟨g, i, none⟩ = some (.pointer p)) :
    Calls Try.prog 43 #[.pointer (some ⟨b, 0, none⟩), .int .i64 i] w fun e w' => e = .returned (.pointer p) ∧ w' = w := by
  go_enter Try.func43, Try.ntmps43
  go_wp2
  go_ret
  exact ⟨rfl, rfl⟩

/-- The same float, every NaN taken as one. -/
theorem sameFloat_c (w : World) (x : Nat) : Calls Try.prog 39 #[.float .f64 x, .float .f64 x] w fun e w' => e = .returned (.bool true) ∧ w' = w := by
  by_cases h : (FloatKind.f64.format.order x x == some .eq) = true
  · go_enter Try.func39, Try.ntmps39
    go_wp2
    go_ret
    exact ⟨rfl, rfl⟩
  · have h1 : (FloatKind.f64.format.order x x == some .eq) = false := by simpa using h
    have h2 : (FloatKind.f64.format.order x x != some .eq) = true := by rw [bne, h1]; rfl
    clear h
    go_enter Try.func39, Try.ntmps39
    go_wp2
    go_ret
    exact ⟨rfl, rfl⟩

theorem newTxn_c (w : World) (r : Bool) :
    Calls Try.prog 26 #[.bool r] w fun e w' => e = .returned (.pointer (some ⟨w.heap.size, 0, none⟩)) ∧ ∃ cs : Array Value, w.alloc (.cells cs 148) = w' ∧ cs[9]? = some (.slice none 0 0) ∧ cs[26]? = some (.bool r) := by
  go_enter Try.func26, Try.ntmps26
  go_wp2
  go_ret
  exact ⟨rfl, _, rfl, rfl, rfl⟩

theorem takeNone_c (w : World) (bs : Nat) (h : w.cell? ⟨bs, 40, none⟩ = some (.slice none 0 0)) :
    Calls Try.prog 53 #[.pointer (some ⟨bs, 40, none⟩)] w fun e w' => e = .returned (.pointer none) ∧ w' = w := by
  go_enter Try.func53, Try.ntmps53
  go_wp2
  go_ret
  exact ⟨rfl, rfl⟩
end Go.Proofs.Qxb6613305a
