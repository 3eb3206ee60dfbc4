/-
  'Rows.FnTxnJobScriptKeepsJobsIndexedSaid', proved: the frame by the guide's program (turned by hand for slices of bools and of floats), the walk over Qxb6613305aFnTxnJobScriptKeepsJobsIndexedWalk.
-/
import Derived.Test.Qxb6613305aRows
import Derived.Test.Qxb6613305aFnTxnJobScriptKeepsJobsIndexedWalk
import Derived.Deep.Slices
import Derived.WalkKit
import Derived.ProofKit
import Derived.OpenShut
import Derived.ShutString
import Derived.ChangeOld
import Derived.Below
namespace Go.Proofs.Qxb6613305a.fnTxnJobScriptKeepsJobsIndexed
open Go.ChangeShapes Go.WideShapes Go.ChangeAt Go.RowKit
open Go.ChangeMaps (open_string shut_string)
set_option linter.unusedVariables false

theorem own : ownKnob Try.prog.godebug = none := by kernel_rfl
theorem laidOut : laidOutB Try.prog = true := by kernel_rfl

/-- What the walk is told of a slice that came in: its cells, as far as its length. -/
def RowOf (w : World) (a : Option Addr) (len : Nat) (V : Nat → Value) : Prop :=
  0 < len → ∃ b o, a = some ⟨b, o, none⟩ ∧ b < w.heap.size ∧ ∀ i, i < len → w.cell? ⟨b, o + i, none⟩ = some (V i)

theorem rowOf_cells {w : World} {x : Addr} {len : Nat} {V : Nat → Value} (h : ∀ i, i < len → w.cell? (x.add i) = some (V i)) : RowOf w (some x) len V := by
  intro h0
  have c0 := h 0 h0
  obtain ⟨b, o, sp⟩ := x
  have hsp : sp = none := by
    cases sp with
    | none => rfl
    | some q => exfalso; simp [World.cell?, Addr.add] at c0; split at c0 <;> simp_all
  subst hsp
  have hadd : ∀ i, (⟨b, o, none⟩ : Addr).add i = ⟨b, o + i, none⟩ := fun i => by unfold Addr.add; split <;> simp_all
  refine ⟨b, o, rfl, ?_, fun i hi => by rw [← hadd]; exact h i hi⟩
  have := World.block_lt_of_cell? w _ c0
  rwa [hadd] at this

def BytesPost (w : World) (kn tn ln : Nat) (e : Ending) (w' : World) : Prop := ∃ b : Bool, e = .returned (.bool b) ∧ w' = w ∧ (b = true → kn ≤ 1048576 ∧ tn ≤ 1048576 ∧ ln ≤ 1048576)

theorem zzBytes_any (w : World) (s : Int) (r ca cb : Bool) (ka ta la : Option Addr) (kn kc tn tc ln lc : Nat) :
    Calls Try.prog 25 #[.int .u64 s, .bool r, .bool ca, .bool cb, .slice ka kn kc, .slice ta tn tc, .slice la ln lc] w fun e w' => BytesPost w kn tn ln e w' := by
  by_cases c1 : (kn : Int) ≤ 1048576
  case neg =>
    go_enter Try.func25, Try.ntmps25
    go_wp2
    go_ret
    exact ⟨false, rfl, rfl, fun h => by cases h⟩
  by_cases c2 : (tn : Int) ≤ 1048576
  case neg =>
    go_enter Try.func25, Try.ntmps25
    go_wp2
    go_ret
    exact ⟨false, rfl, rfl, fun h => by cases h⟩
  by_cases c3 : (ln : Int) ≤ 1048576
  case neg =>
    by_cases c4 : (kn : Int) + tn ≤ 1048576
    all_goals
      go_enter Try.func25, Try.ntmps25
      go_wp2
      go_ret
      exact ⟨false, rfl, rfl, fun h => by cases h⟩
  by_cases c4 : (kn : Int) + tn ≤ 1048576
  case neg =>
    go_enter Try.func25, Try.ntmps25
    go_wp2
    go_ret
    exact ⟨false, rfl, rfl, fun h => by cases h⟩
  by_cases c5 : (kn : Int) + tn + ln ≤ 1048576
  case neg =>
    go_enter Try.func25, Try.ntmps25
    go_wp2
    go_ret
    exact ⟨false, rfl, rfl, fun h => by cases h⟩
  go_enter Try.func25, Try.ntmps25
  go_wp2
  go_ret
  exact ⟨true, rfl, rfl, fun _ => ⟨by omega, by omega, by omega⟩⟩

set_option maxRecDepth 100000 in
set_option maxHeartbeats 1000000 in
theorem no_way (a0 : Int) (a1 a2 a3 : Bool) (ka ta la : Option Addr) (kn kc tn tc ln lc : Nat) (w : World) (h : (4096 : Int) < kn ∨ (4096 : Int) < tn ∨ (3 : Int) < ln) :
    Calls Try.prog 7 #[.int .u64 a0, .bool a1, .bool a2, .bool a3, .slice ka kn kc, .slice ta tn tc, .slice la ln lc] w fun e w' => e = .returned (.bool true) ∧ Below w.heap.size w w' := by
  rcases h with h | h | h
  all_goals
    go_enter Try.func7, Try.ntmps7
    go_wp2_with fail
    refine (zzBytes_any w a0 a1 a2 a3 ka ta la kn kc tn tc ln lc).mono ?_
    rintro e w' ⟨b, rfl, hw', hb⟩
    obtain rfl := hw'.symm
    cases b
    · go_wp2_with fail
      go_ret
      exact ⟨rfl, Below.refl _ _⟩
    · obtain ⟨q1, q2, q3⟩ := hb rfl
      have i1 : (kn : Int) ≤ 1048576 := by omega
      have i2 : (tn : Int) ≤ 1048576 := by omega
      have i3 : (ln : Int) ≤ 1048576 := by omega
      by_cases c : (1048576 : Int) < (kn : Int) + tn + 8 * ln
      all_goals go_wp2_with fail
      all_goals go_ret
      all_goals exact ⟨rfl, Below.refl _ _⟩

theorem walk (a0 : Int) (a1 : Bool) (a2 : Bool) (a3 : Bool) (a4 : Option Addr) (len4 cap4 : Nat) (z4 : Nat → Int) (a5 : Option Addr) (len5 cap5 : Nat) (z5 : Nat → Bool) (a6 : Option Addr) (len6 cap6 : Nat) (z6 : Nat → Nat) (w : World) (w0 : (Lit.int .u64 a0).wf = true) (w4 : RowOf w a4 len4 fun i => .int .u8 (z4 i)) (w5 : RowOf w a5 len5 fun i => .bool (z5 i)) (w6 : RowOf w a6 len6 fun i => .float .f64 (z6 i)) :
    Calls Try.prog 7 #[.int .u64 a0, .bool a1, .bool a2, .bool a3, .slice a4 len4 cap4, .slice a5 len5 cap5, .slice a6 len6 cap6] w fun e w' => e = .returned (.bool true) ∧ Below w.heap.size w w' := by
  have wb : 0 ≤ a0 ∧ a0 < 18446744073709551616 := by
    have := bounds_u64 w0
    omega
  by_cases c1 : len4 ≤ 4096
  case neg => exact no_way a0 a1 a2 a3 a4 a5 a6 len4 cap4 len5 cap5 len6 cap6 w (Or.inl (by omega))
  by_cases c2 : len5 ≤ 4096
  case neg => exact no_way a0 a1 a2 a3 a4 a5 a6 len4 cap4 len5 cap5 len6 cap6 w (Or.inr (Or.inl (by omega)))
  by_cases c3 : len6 ≤ 3
  case neg => exact no_way a0 a1 a2 a3 a4 a5 a6 len4 cap4 len5 cap5 len6 cap6 w (Or.inr (Or.inr (by omega)))
  exact main_way w a0 wb.1 wb.2 a1 a2 a3 a4 a5 a6 len4 cap4 len5 cap5 len6 cap6 z4 z5 z6 c1 c2 c3 w4 w5 w6

theorem elem4 {H : Type} {enc : TypeId × Value → H} {w : World} {base : Nat} {spare : Nat → Bool} {held : Bool} {n : Nat} {v : Value} {x : DataW H × List MemPlace} (h : DataW.trod enc Try.prog w base spare held n 5 [v] = some x) : ∃ y : Int, v = .int .u8 y := by
  cases n with
  | zero => simp [DataW.trod] at h
  | succ n => cases v <;> simp_all [DataW.trod, Try.underlying5]
theorem elem5 {H : Type} {enc : TypeId × Value → H} {w : World} {base : Nat} {spare : Nat → Bool} {held : Bool} {n : Nat} {v : Value} {x : DataW H × List MemPlace} (h : DataW.trod enc Try.prog w base spare held n 4 [v] = some x) : ∃ y : Bool, v = .bool y := by
  cases n with
  | zero => simp [DataW.trod] at h
  | succ n => cases v <;> simp_all [DataW.trod, Try.underlying4]
theorem elem6 {H : Type} {enc : TypeId × Value → H} {w : World} {base : Nat} {spare : Nat → Bool} {held : Bool} {n : Nat} {v : Value} {x : DataW H × List MemPlace} (h : DataW.trod enc Try.prog w base spare held n 46 [v] = some x) : ∃ y : Nat, v = .float .f64 y := by
  cases n with
  | zero => simp [DataW.trod] at h
  | succ n => cases v <;> simp_all [DataW.trod, Try.underlying46]

/-! ### THE ROW's STEP: WRITTEN OUT: LEAVE IT -/
set_option maxRecDepth 100000 in
theorem lifted (os : Os) (started : os.Started) (H : Type) (enc : TypeId × Value → H) :
    ReturnsInHanded {} Try.checked os 7 .any (Rows.fnTxnJobScriptKeepsJobsIndexedSpec.pre6 enc Try.prog Try.f7 Rows.fnTxnJobScriptKeepsJobsIndexedRow.domain false) (Rows.fnTxnJobScriptKeepsJobsIndexedSpec.post enc Try.prog Try.f7 false true false false) := by
  refine returnsInHanded_of_change (C := Try.checked) own started (by kernel_rfl) Try.func7
    (ChangeSpec.witness6 (enc := enc) (C := Try.checked) false ⟨#[], #[.int .u64 0, .bool false, .bool false, .bool false, .slice none 0 0, .slice none 0 0, .slice none 0 0], []⟩ 8 (by kernel_rfl) (by kernel_rfl) (by kernel_rfl) (by kernel_rfl)) ?_
  intro W base args ds gs before hval0 hW hcnd _
  have hval : ∀ (j : Nat) t v, Try.f7.params[j]? = some t → args[j]? = some v → Value.okWide Try.prog W .any base t v := hval0
  have hW' := hW
  obtain ⟨p, q, hA0, hV, rfl, hfz, hnd⟩ := hW
  have hA : DataW.TrodAll enc Try.prog W 0 (fun _ => true) true Try.f7.params.toList args.toList ds p := hA0
  rw [Try.params7] at hA hval
  obtain ⟨v0, vs0, d0, ds0, p0, q0, hargs, rfl, rfl, h0, r0⟩ := trodAll_cons hA
  obtain ⟨v1, vs1, d1, ds1, p1, q1, rfl, rfl, rfl, h1, r1⟩ := trodAll_cons r0
  obtain ⟨v2, vs2, d2, ds2, p2, q2, rfl, rfl, rfl, h2, r2⟩ := trodAll_cons r1
  obtain ⟨v3, vs3, d3, ds3, p3, q3, rfl, rfl, rfl, h3, r3⟩ := trodAll_cons r2
  obtain ⟨v4, vs4, d4, ds4, p4, q4, rfl, rfl, rfl, h4, r4⟩ := trodAll_cons r3
  obtain ⟨v5, vs5, d5, ds5, p5, q5, rfl, rfl, rfl, h5, r5⟩ := trodAll_cons r4
  obtain ⟨v6, vs6, d6, ds6, p6, q6, rfl, rfl, rfl, h6, r6⟩ := trodAll_cons r5
  obtain ⟨rfl, rfl, rfl⟩ := trodAll_nil r6
  obtain rfl : args = #[v0, v1, v2, v3, v4, v5, v6] := by cases args; simp_all
  obtain ⟨rfl, rfl⟩ := trodVars_none hV
  obtain ⟨a0, rfl, rfl, rfl, w0⟩ := open_int Try.underlying25 (hval 0 25 v0 rfl rfl) h0
  obtain ⟨a1, rfl, rfl, rfl⟩ := open_bool Try.underlying4 (hval 1 4 v1 rfl rfl) h1
  obtain ⟨a2, rfl, rfl, rfl⟩ := open_bool Try.underlying4 (hval 2 4 v2 rfl rfl) h2
  obtain ⟨a3, rfl, rfl, rfl⟩ := open_bool Try.underlying4 (hval 3 4 v3 rfl rfl) h3
  obtain ⟨a4, len4, cap4, rfl⟩ := okWide_slice Try.underlying56 (hval 4 56 v4 rfl rfl)
  have k4 := h4
  have lt4 : ∀ x ∈ p4, x.block < W.heap.size := by obtain ⟨m, hm⟩ := k4; exact DataW.trod_lt m _ _ _ hm
  obtain ⟨z4, w4⟩ : ∃ z : Nat → Int, RowOf W a4 len4 fun i => .int .u8 (z i) := by
    obtain ⟨fuel, hf⟩ := h4
    rcases Go.Deep.open_slice1 Try.underlying56 (by kernel_rfl) hf with ⟨hcs, _⟩ | ⟨x, l, c, m, n, V, D, Pl, hcs, _, hl, _, hm, _, hel⟩
    · simp [Value.cells] at hcs
      obtain ⟨rfl, rfl, rfl⟩ := hcs
      exact ⟨fun _ => 0, fun h => absurd h (by omega)⟩
    · simp [Value.cells] at hcs
      obtain ⟨rfl, rfl, rfl⟩ := hcs
      have hlm : len4 ≤ m := by rw [hm]; split <;> omega
      have hv : ∀ i, i < len4 → ∃ y : Int, V i = .int .u8 y := fun i hi => elem4 (hel i (by omega)).2
      refine ⟨fun i => if h : i < len4 then Classical.choose (hv i h) else 0, rowOf_cells (fun i hi => ?_)⟩
      dsimp only
      rw [dif_pos hi, ← Classical.choose_spec (hv i hi)]
      exact (hel i (by omega)).1
  obtain ⟨a5, len5, cap5, rfl⟩ := okWide_slice Try.underlying37 (hval 5 37 v5 rfl rfl)
  have k5 := h5
  have lt5 : ∀ x ∈ p5, x.block < W.heap.size := by obtain ⟨m, hm⟩ := k5; exact DataW.trod_lt m _ _ _ hm
  obtain ⟨z5, w5⟩ : ∃ z : Nat → Bool, RowOf W a5 len5 fun i => .bool (z i) := by
    obtain ⟨fuel, hf⟩ := h5
    rcases Go.Deep.open_slice1 Try.underlying37 (by kernel_rfl) hf with ⟨hcs, _⟩ | ⟨x, l, c, m, n, V, D, Pl, hcs, _, hl, _, hm, _, hel⟩
    · simp [Value.cells] at hcs
      obtain ⟨rfl, rfl, rfl⟩ := hcs
      exact ⟨fun _ => false, fun h => absurd h (by omega)⟩
    · simp [Value.cells] at hcs
      obtain ⟨rfl, rfl, rfl⟩ := hcs
      have hlm : len5 ≤ m := by rw [hm]; split <;> omega
      have hv : ∀ i, i < len5 → ∃ y : Bool, V i = .bool y := fun i hi => elem5 (hel i (by omega)).2
      refine ⟨fun i => if h : i < len5 then Classical.choose (hv i h) else false, rowOf_cells (fun i hi => ?_)⟩
      dsimp only
      rw [dif_pos hi, ← Classical.choose_spec (hv i hi)]
      exact (hel i (by omega)).1
  obtain ⟨a6, len6, cap6, rfl⟩ := okWide_slice Try.underlying57 (hval 6 57 v6 rfl rfl)
  have k6 := h6
  have lt6 : ∀ x ∈ p6, x.block < W.heap.size := by obtain ⟨m, hm⟩ := k6; exact DataW.trod_lt m _ _ _ hm
  obtain ⟨z6, w6⟩ : ∃ z : Nat → Nat, RowOf W a6 len6 fun i => .float .f64 (z i) := by
    obtain ⟨fuel, hf⟩ := h6
    rcases Go.Deep.open_slice1 Try.underlying57 (by kernel_rfl) hf with ⟨hcs, _⟩ | ⟨x, l, c, m, n, V, D, Pl, hcs, _, hl, _, hm, _, hel⟩
    · simp [Value.cells] at hcs
      obtain ⟨rfl, rfl, rfl⟩ := hcs
      exact ⟨fun _ => 0, fun h => absurd h (by omega)⟩
    · simp [Value.cells] at hcs
      obtain ⟨rfl, rfl, rfl⟩ := hcs
      have hlm : len6 ≤ m := by rw [hm]; split <;> omega
      have hv : ∀ i, i < len6 → ∃ y : Nat, V i = .float .f64 y := fun i hi => elem6 (hel i (by omega)).2
      refine ⟨fun i => if h : i < len6 then Classical.choose (hv i h) else 0, rowOf_cells (fun i hi => ?_)⟩
      dsimp only
      rw [dif_pos hi, ← Classical.choose_spec (hv i hi)]
      exact (hel i (by omega)).1
  clear hA0 hval0
  refine (walk a0 a1 a2 a3 a4 len4 cap4 z4 a5 len5 cap5 z5 a6 len6 cap6 z6 W w0 w4 w5 w6).mono fun e W' ⟨he, bel⟩ => ?_
  subst he
  exact ⟨_, rfl, _, _, _, [], _, [], hW', trodAll_mk1 (shut_bool Try.underlying4 _), (trodAll_cons_mk (shut_int Try.underlying25 w0) (trodAll_cons_mk (shut_bool Try.underlying4 _) (trodAll_cons_mk (shut_bool Try.underlying4 _) (trodAll_cons_mk (shut_bool Try.underlying4 _) (trodAll_cons_mk (Below.trod laidOut (by kernel_rfl) (of_decide_eq_true (by kernel_rfl)) k4 bel lt4) (trodAll_cons_mk (Below.trod laidOut (by kernel_rfl) (of_decide_eq_true (by kernel_rfl)) k5 bel lt5) (trodAll_cons_mk (Below.trod laidOut (by kernel_rfl) (of_decide_eq_true (by kernel_rfl)) k6 bel lt6) trodAll_mk0))))))), rfl, bel.frame _, fun h => by cases h⟩

theorem over : Rows.fnTxnJobScriptKeepsJobsIndexedRow.holds Try.pinned (OpenSpec.ofChange Rows.fnTxnJobScriptKeepsJobsIndexedSpec) :=
  OpenClaim.holds_of_wide 7 Try.f7 rfl rfl rfl rfl rfl rfl rfl ⟨rfl, rfl, rfl, rfl, rfl⟩ rfl rfl rfl rfl rfl (by kernel_rfl) Try.func7 (by kernel_rfl)
    (of_decide_eq_true (by kernel_rfl)) (by unfold Func.isWrapper; first | (rw [if_pos (by decide +kernel)]; kernel_rfl) | (rw [if_neg (by decide +kernel)]; exact ⟨rfl, rfl⟩))
    (fun os started H enc _ => lifted os started H enc)

/-- ████ THE STATEMENT ████ -/
theorem proved : Rows.FnTxnJobScriptKeepsJobsIndexedSaid := over
end Go.Proofs.Qxb6613305a.fnTxnJobScriptKeepsJobsIndexed
