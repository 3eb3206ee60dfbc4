/-
  addLook (44, 10), ZZlockEnqueue (11), leaveQueue (45, 13), walked.
-/
import Derived.Test.Qxb6613305aGet
import Derived.Deep.RegionLaw
import Derived.Deep.DrawnRows
namespace Go.Proofs.Qxb6613305a
open Go.RowKit
attribute [local go_sem] run_store_float
attribute [local go_sem ↓] Go.wp_at_zero Go.wp_at_succ

theorem info138 : (Try.prog.info? 138).map (fun i => (i.zero, i.size, i.bytes)) = some (some (.agg #[.pointer none, .int .u32 0, .pointer none, .int .u64 0]), 4, 32) := by kernel_rfl
theorem info135 : (Try.prog.info? 135).map (fun i => (i.zero, i.size, i.bytes)) = some (some (.agg #[.bool false, .float .f64 0, .int .u64 0, .int .u64 0, .pointer none]), 5, 40) := by kernel_rfl

/-- The block of a row that is owned bears the row's type. -/
theorem owns_ne {w : World} {base : Nat} {e : TypeId} {size : Nat} {v : Value} {n : Nat} {xs : List Value} (h : w.ownsRow base e size v n xs) {b : Nat} {cs : Array Value} {t : TypeId} (hb : Blk w b cs t) (ht : t ≠ e) : v.ownBlock ≠ some b := by
  rcases h.2 with ⟨hv, _⟩ | ⟨g, cap, cur, hv, _, hh, _⟩
  · rw [hv]; intro e; cases e
  · rw [hv]; intro e
    have e : g = b := by simpa [Value.ownBlock] using e
    subst e
    exact ht (Blk.inj hb (show Blk w g cur _ from hh)).2

def lookV (bl : Nat) (f : Int) : List Value := [.pointer (some ⟨bl, 0, none⟩), .int .u32 f, .pointer none, .int .u64 0]

theorem look_owns {w : World} {base n : Nat} {g cap : Nat} {xs : List Value} {e : TypeId} {size : Nat} (h : w.ownsRow base e size (.slice (some ⟨g, 0, none⟩) n cap) n xs) {b : Nat} {cs : Array Value} {t : TypeId} (hb : Blk w b cs t) (hne : t ≠ e) (o : Nat) (v : Value) :
    (w.setCell ⟨b, o, none⟩ v).ownsRow base e size (.slice (some ⟨g, 0, none⟩) n cap) n xs := by
  refine owns_ex (S := fun k => k = b) h ((Ex.refl _ _).set _ _ rfl) (fun g' hg' e' => ?_)
  exact owns_ne h hb hne (by rw [← e']; exact hg')
theorem look_ex {w w1 : World} {ob : Obj} {b : Nat} {row : Option Nat} (hg : (w.alloc ob).drew.grownBy w1 row) (o : Nat) (v : Value) : Ex (fun k => k = b ∨ some k = row) w (w1.setCell ⟨b, o, none⟩ v) :=
  ((((Ex.refl (fun k => k = b ∨ some k = row) w).alloc ob).drew).grown hg (fun _ e => Or.inl (Or.inr e.symm))).set ⟨b, o, none⟩ v (Or.inl rfl)

set_option maxRecDepth 100000 in
set_option maxHeartbeats 1000000 in
theorem addLook_c (w : World) (bs bl base n : Nat) (S : Array Value) (a : Option Addr) (c : Nat) (xs : List Value) (pg hs nv mv : Value) (f : Int)
    (hS : Blk w bs S 113) (hS38 : S[38]? = some (.slice a n c)) (hL : Blk w bl #[pg, hs, nv, mv, .int .u32 f] 120) (hown : w.ownsRow base 138 4 (.slice a n c) n xs) (hbase : base ≤ w.heap.size) (hn : n ≤ 1000000) :
    Calls Try.prog 44 #[.pointer (some ⟨bs, 0, none⟩), .pointer (some ⟨bl, 0, none⟩)] w fun e w' => e = .returned (.tuple #[]) ∧ ∃ g cap, Blk w' bs (S.setIfInBounds 38 (.slice (some ⟨g, 0, none⟩) (n + 1) cap)) 113
      ∧ w'.ownsRow base 138 4 (.slice (some ⟨g, 0, none⟩) (n + 1) cap) (n + 1) (xs ++ lookV bl f) ∧ Ex (fun k => k = bs ∨ some k = (Value.slice a n c).ownBlock) w w' := by
  obtain ⟨i0, hi0, hz0, hz1, hz2⟩ := info_parts info138
  have c1 : w.cell? ⟨bs, 38, none⟩ = some (.slice a n c) := hS.cellv hS38
  have c2 : w.cell? ⟨bl, 4, none⟩ = some (.int .u32 f) := hL.cellv rfl
  have f1 : w.frozen? ⟨bs, 38, none⟩ = false := hS.frozen 38
  have lg := hS.lt
  have lk := hL.lt
  have ag := owns_ne hown hS (by decide)
  have ak := owns_ne hown hL (by decide)
  go_enter Try.func44, Try.ntmps44
  go_wp2_with fail
  go_region_law
    ((refine step_append_lies _ (by rfl) _ _ _ (by rfl) base 138 i0 _ 4 32 Try.underlying98 hi0 hz0 hz1 hz2 rfl (by omega) (.slice a n c) n xs (by rfl) ((hown.alloc _).drew)
        ⟨w.heap.size, 0, none⟩ 1 1 (lookV bl f) (by rfl) (by rfl) (World.news_of_block (cs := #[.pointer (some ⟨bl, 0, none⟩), .int .u32 f, .pointer none, .int .u64 0]) (t := 138) (fr := (0, 0)) (heap_alloc_new w _)) (by simp [lookV, Value.oneCell'])
        (by omega) (by unfold maxLen; omega) (by omega) (by simp; omega) (w.heap.size + 1) (by simp) ?_; intro gg cap w1 hown1 hgrow hat hlt; have hS1 := ((hS.alloc _).drew).grown hgrow (Ne.symm ag); have fz := hS1.frozen 38; have cz := hS1.cellv hS38))
  all_goals go_wp2_with fail
  all_goals go_end0
  all_goals exact ⟨rfl, gg, cap, hS1.set 38 _, look_owns hown1 hS1 (by decide) _ _, look_ex hgrow _ _⟩

theorem zzAddLook_c (w : World) (bs bl base n : Nat) (S : Array Value) (a : Option Addr) (c : Nat) (xs : List Value) (pg hs nv mv : Value) (f : Int)
    (hS : Blk w bs S 113) (hS38 : S[38]? = some (.slice a n c)) (hL : Blk w bl #[pg, hs, nv, mv, .int .u32 f] 120) (hown : w.ownsRow base 138 4 (.slice a n c) n xs) (hbase : base ≤ w.heap.size) (hn : n ≤ 1000000) :
    Calls Try.prog 10 #[.pointer (some ⟨bs, 0, none⟩), .pointer (some ⟨bl, 0, none⟩)] w fun e w' => e = .returned (.tuple #[]) ∧ ∃ g cap, Blk w' bs (S.setIfInBounds 38 (.slice (some ⟨g, 0, none⟩) (n + 1) cap)) 113
      ∧ w'.ownsRow base 138 4 (.slice (some ⟨g, 0, none⟩) (n + 1) cap) (n + 1) (xs ++ lookV bl f) ∧ Ex (fun k => k = bs ∨ some k = (Value.slice a n c).ownBlock) w w' := by
  go_enter Try.func10, Try.ntmps10
  go_wp2_with fail
  refine (addLook_c w bs bl base n S a c xs pg hs nv mv f hS hS38 hL hown hbase hn).mono ?_
  rintro e w' ⟨rfl, h⟩
  go_wp2_with fail
  go_end0
  exact ⟨rfl, h⟩

def nodeV (s : Int) (p : Option Addr) : List Value := [.bool false, .float .f64 0, .int .u64 0, .int .u64 s, .pointer p]

set_option maxRecDepth 100000 in
set_option maxHeartbeats 1000000 in
theorem enqueue_c (w : World) (bl cb base n : Nat) (cc : Array Value) (a : Option Addr) (c : Nat) (xs : List Value) (pg hs fd : Value) (s : Int) (x9 x10 : Value)
    (hL : Blk w bl #[pg, hs, .slice a n c, .nilFunc, fd] 120) (hC : Blk w cb cc 133) (h9 : cc[9]? = some x9) (h10 : cc[10]? = some x10) (hown : w.ownsRow base 135 5 (.slice a n c) n xs) (hbase : base ≤ w.heap.size) (hn : n ≤ 1000000) :
    Calls Try.prog 11 #[.pointer (some ⟨bl, 0, none⟩), .pointer (some ⟨cb, 0, none⟩), .int .u64 s] w fun e w' => e = .returned (.tuple #[]) ∧ ∃ g cap, Blk w' bl #[pg, hs, .slice (some ⟨g, 0, none⟩) (n + 1) cap, .nilFunc, fd] 120
      ∧ w'.ownsRow base 135 5 (.slice (some ⟨g, 0, none⟩) (n + 1) cap) (n + 1) (xs ++ nodeV s (some ⟨cb, 0, none⟩)) ∧ Blk w' cb ((cc.setIfInBounds 9 (.pointer (some ⟨bl, 0, none⟩))).setIfInBounds 10 (.int .i64 n)) 133
      ∧ Ex (fun k => k = bl ∨ k = cb ∨ some k = (Value.slice a n c).ownBlock) w w' := by
  obtain ⟨i0, hi0, hz0, hz1, hz2⟩ := info_parts info135
  have c1 : w.cell? ⟨bl, 2, none⟩ = some (.slice a n c) := hL.cellv rfl
  have f1 : w.frozen? ⟨bl, 2, none⟩ = false := hL.frozen 2
  have d1 : w.cell? ⟨cb, 9, none⟩ = some x9 := hC.cellv h9
  have d2 : w.cell? ⟨cb, 10, none⟩ = some x10 := hC.cellv h10
  have fz : ∀ o, w.frozen? ⟨cb, o, none⟩ = false := hC.frozen
  have hne : bl ≠ cb := hL.ne_type hC (by decide)
  have lg := hL.lt
  have lk := hC.lt
  go_enter Try.func11, Try.ntmps11
  go_upto_region 2 with fail
  obtain ⟨W1, hW, hex1, hL1, hC1⟩ : ∃ W1, (w.setCell ⟨cb, 9, none⟩ (.pointer (some ⟨bl, 0, none⟩))).setCell ⟨cb, 10, none⟩ (.int .i64 n) = W1 ∧ Ex (fun k => k = cb) w W1 ∧ Blk W1 bl #[pg, hs, .slice a n c, .nilFunc, fd] 120
      ∧ Blk W1 cb ((cc.setIfInBounds 9 (.pointer (some ⟨bl, 0, none⟩))).setIfInBounds 10 (.int .i64 n)) 133 :=
    ⟨_, rfl, ((Ex.refl (fun k => k = cb) w).set ⟨cb, 9, none⟩ (.pointer (some ⟨bl, 0, none⟩)) rfl).set ⟨cb, 10, none⟩ (.int .i64 n) rfl, (hL.set_ne (a := ⟨cb, 9, none⟩) (.pointer (some ⟨bl, 0, none⟩)) hne).set_ne (a := ⟨cb, 10, none⟩) (.int .i64 n) hne, (hC.set 9 _).set 10 _⟩
  rw [hW]
  have hown1 : W1.ownsRow base 135 5 (.slice a n c) n xs := owns_ex hown hex1 (fun g hg e => owns_ne hown hC (by decide) (by rw [← e]; exact hg))
  have hb1 : base ≤ W1.heap.size := Nat.le_trans hbase hex1.size
  clear hW c1 f1 d1 d2 fz lg lk
  have c1 : W1.cell? ⟨bl, 2, none⟩ = some (.slice a n c) := hL1.cellv rfl
  have ag := owns_ne hown1 hL1 (by decide)
  have ak := owns_ne hown1 hC1 (by decide)
  have lg := hL1.lt
  have lk := hC1.lt
  go_wp2_with ((at_builtin; refine wpList_append_lies _ rfl _ _ _ rfl base 135 i0 _ 5 40 Try.underlying115 hi0 hz0 hz1 hz2 rfl (by omega) (.slice a n c) n xs (by rfl) (hown1.alloc _) ⟨W1.heap.size, 0, none⟩ 1 1 (nodeV s (some ⟨cb, 0, none⟩)) (by rfl) (by rfl) (World.news_of_block (cs := #[.bool false, .float .f64 0, .int .u64 0, .int .u64 s, .pointer (some ⟨cb, 0, none⟩)]) (t := 135) (fr := (0, 0)) (heap_alloc_new W1 _)) (by simp [nodeV, Value.oneCell']) (by omega) (by unfold maxLen; omega) (by omega) (by simp; omega) (W1.heap.size + 1) (by simp) ?_; intro gg cap w1 hown2 hgrow hat hlt; have hL2 := (hL1.alloc _).grown hgrow (Ne.symm ag); have hC2 := (hC1.alloc _).grown hgrow (Ne.symm ak); have fz := hL2.frozen 2; have cz : w1.cell? ⟨bl, 2, none⟩ = some (.slice a n c) := hL2.cellv rfl))
  go_end0
  refine ⟨rfl, gg, cap, hL2.set 2 _, look_owns hown2 hL2 (by decide) 2 _, hC2.set_ne (a := ⟨bl, 2, none⟩) _ (Ne.symm hne), ?_⟩
  exact (((hex1.mono (fun k e => Or.inr (Or.inl e))).alloc _).grown hgrow (fun k e => Or.inl (Or.inr (Or.inr e.symm)))).set ⟨bl, 2, none⟩ _ (Or.inl rfl)

/-- A cohort that waits for nothing. -/
theorem leaveNone_c (w : World) (bs cb : Nat) (h : w.cell? ⟨cb, 9, none⟩ = some (.pointer none)) :
    Calls Try.prog 45 #[.pointer (some ⟨bs, 0, none⟩), .pointer (some ⟨cb, 0, none⟩)] w fun e w' => e = .returned (.tuple #[]) ∧ w' = w := by
  go_enter Try.func45, Try.ntmps45
  go_wp2_with fail
  exact bodyPost_ret (v := .tuple #[]) (results_none rfl _ _ _) rfl ⟨rfl, rfl⟩
theorem zzLeaveNone_c (w : World) (bs cb : Nat) (h : w.cell? ⟨cb, 9, none⟩ = some (.pointer none)) :
    Calls Try.prog 13 #[.pointer (some ⟨bs, 0, none⟩), .pointer (some ⟨cb, 0, none⟩)] w fun e w' => e = .returned (.tuple #[]) ∧ w' = w := by
  go_enter Try.func13, Try.ntmps13
  go_wp2_with fail
  refine (leaveNone_c w bs cb h).mono ?_
  rintro e w' ⟨rfl, rfl⟩
  go_wp2_with fail
  go_end0
  exact ⟨rfl, rfl⟩
end Go.Proofs.Qxb6613305a
