/-
  txnJob (47), ZZtxnJob (27), walked.
-/
import Derived.Test.Qxb6613305aJobNew
namespace Go.Proofs.Qxb6613305a
open Go.RowKit
attribute [local go_sem] run_store_float

theorem info62 : (Try.prog.info? 62).map (fun i => (i.zero, i.size, i.bytes)) = some (some (.pointer none), 1, 8) := by kernel_rfl

/-- A job as txnJob hands it out. -/
structure JobDone (J : Array Value) (k sq : Int) (n live : Nat) (clean ahead : Bool) (bt : Nat) (co : Option Addr) (L : Nat → Nat) : Prop where
  kind : J[0]? = some (.int .u8 k)
  cleanUp : J[1]? = some (.bool clean)
  isAhead : J[2]? = some (.bool ahead)
  txn : J[3]? = some (.pointer (some ⟨bt, 0, none⟩))
  cohort : J[9]? = some (.pointer co)
  len : J[21]? = some (.int .i64 n)
  place : J[22]? = some (.int .i64 0)
  seq : J[23]? = some (.int .u64 sq)
  index : J[24]? = some (.int .i64 live)
  slot : J[28]? = some (.int .i64 (-1))
  steps : ∀ i, i < n → J[15 + i * 2]? = some (.pointer none) ∧ J[15 + i * 2 + 1]? = some (.float .f64 (L i))

def fill5 (J : Array Value) (live : Nat) (clean ahead : Bool) (bt : Nat) (co : Option Addr) : Array Value :=
  ((((J.setIfInBounds 3 (.pointer (some ⟨bt, 0, none⟩))).setIfInBounds 9 (.pointer co)).setIfInBounds 1 (.bool clean)).setIfInBounds 2 (.bool ahead)).setIfInBounds 24 (.int .i64 live)

theorem JobSteps.done {J : Array Value} {k sq : Int} {n : Nat} {L : Nat → Nat} (h : JobSteps J k sq n n L) (hn : n ≤ 3) (live : Nat) (clean ahead : Bool) (bt : Nat) (co : Option Addr) :
    JobDone (fill5 J live clean ahead bt co) k sq n live clean ahead bt co L := by
  have hs := h.size
  have far : ∀ o, o ≠ 3 → o ≠ 9 → o ≠ 1 → o ≠ 2 → o ≠ 24 → (fill5 J live clean ahead bt co)[o]? = J[o]? := fun o a b c d e => by
    unfold fill5
    rw [set_ne _ _ _ _ (Ne.symm e), set_ne _ _ _ _ (Ne.symm d), set_ne _ _ _ _ (Ne.symm c), set_ne _ _ _ _ (Ne.symm b), set_ne _ _ _ _ (Ne.symm a)]
  refine ⟨?_, ?_, ?_, ?_, ?_, ?_, ?_, ?_, ?_, ?_, ?_⟩
  · rw [far 0 (by omega) (by omega) (by omega) (by omega) (by omega), h.rest 0 (by omega)]; rfl
  · unfold fill5; rw [set_ne _ _ _ _ (by omega), set_ne _ _ _ _ (by omega)]; exact set_eq _ _ _ (by simp; omega)
  · unfold fill5; rw [set_ne _ _ _ _ (by omega)]; exact set_eq _ _ _ (by simp; omega)
  · unfold fill5; rw [set_ne _ _ _ _ (by omega), set_ne _ _ _ _ (by omega), set_ne _ _ _ _ (by omega), set_ne _ _ _ _ (by omega)]; exact set_eq _ _ _ (by omega)
  · unfold fill5; rw [set_ne _ _ _ _ (by omega), set_ne _ _ _ _ (by omega), set_ne _ _ _ _ (by omega)]; exact set_eq _ _ _ (by simp; omega)
  · rw [far 21 (by omega) (by omega) (by omega) (by omega) (by omega), h.rest 21 (by omega)]; rfl
  · rw [far 22 (by omega) (by omega) (by omega) (by omega) (by omega), h.rest 22 (by omega)]; rfl
  · rw [far 23 (by omega) (by omega) (by omega) (by omega) (by omega), h.rest 23 (by omega)]; rfl
  · unfold fill5; exact set_eq _ _ _ (by simp; omega)
  · rw [far 28 (by omega) (by omega) (by omega) (by omega) (by omega), h.rest 28 (by omega)]; rfl
  · intro i hi
    rw [far (15 + i * 2) (by omega) (by omega) (by omega) (by omega) (by omega), far (15 + i * 2 + 1) (by omega) (by omega) (by omega) (by omega) (by omega)]
    exact h.steps i hi

/-- What the world is behind txnJob. -/
structure JobMade (w w' : World) (bs bt n m c base : Nat) (co a : Option Addr) (S T : Array Value) (k sq1 : Int) (clean ahead : Bool) (L : Nat → Nat) (xs : List Value) : Prop where
  ex : Ex (fun k => k = bs ∨ k = bt ∨ some k = (Value.slice a m c).ownBlock) w w'
  sim : Blk w' bs (S.setIfInBounds 28 (.int .u64 sq1)) 113
  txn : ∃ g cap, Blk w' bt (T.setIfInBounds 9 (.slice (some ⟨g, 0, none⟩) (m + 1) cap)) 148 ∧ w'.ownsRow base 62 1 (.slice (some ⟨g, 0, none⟩) (m + 1) cap) (m + 1) (xs ++ [.pointer (some ⟨w.heap.size, 0, none⟩)])
  job : ∃ J, Blk w' w.heap.size J 162 ∧ JobDone J k sq1 n m clean ahead bt co L

set_option maxRecDepth 100000 in
set_option maxHeartbeats 1000000 in
theorem txnJobMsg_c (w : World) (bs bt gst n cap m c base : Nat) (co a : Option Addr) (S st T : Array Value) (k sq sq1 : Int) (rep clean : Bool) (L : Nat → Nat) (xs : List Value)
    (hS : Blk w bs S 113) (h28 : S[28]? = some (.int .u64 sq)) (h40 : S[40]? = some (.slice none 0 0)) (h11 : S[11]? = some (.bool rep)) (hst : Blk w gst st 153) (hsteps : ∀ i, i < n → st[i * 2]? = some (.pointer none) ∧ st[i * 2 + 1]? = some (.float .f64 (L i))) (hn : n ≤ 3) (hsq : IntKind.u64.wrap (sq + 1) = sq1)
    (hT : Blk w bt T 148) (h26 : T[26]? = some (.bool clean)) (h9 : T[9]? = some (.slice a m c)) (hown : w.ownsRow base 62 1 (.slice a m c) m xs) (hbase : base ≤ w.heap.size) (hm : m ≤ 1000000) (hk : (k == 1) = true) :
    Calls Try.prog 47 #[.pointer (some ⟨bs, 0, none⟩), .int .u8 k, .pointer (some ⟨bt, 0, none⟩), .pointer co, .slice (some ⟨gst, 0, none⟩) n cap] w fun e w' => e = .returned (.pointer (some ⟨w.heap.size, 0, none⟩)) ∧ JobMade w w' bs bt n m c base co a S T k sq1 clean rep L xs := by
  obtain ⟨i0, hi0, hz0, hz1, hz2⟩ := info_parts info62
  have HQ := hide hsq
  clear hsq
  go_enter Try.func47, Try.ntmps47
  go_wp2_with fail
  refine (newJob_c w bs gst n cap S st k sq sq1 L hS h28 h40 hst hsteps hn (unhide HQ)).mono ?_
  rintro e w1 ⟨rfl, ex1, hS1, J, hJ1, hJs⟩
  have hne : bt ≠ bs := hT.ne_type hS (by decide)
  have hT1 := hT.ex ex1 hne
  have hown1 := owns_ex hown ex1 (fun g hg e => owns_ne hown hS (by decide) (by rw [← e]; exact hg))
  have hs := hJs.size
  have jc : ∀ o, o < 31 → ∃ y, w1.cell? ⟨w.heap.size, o, none⟩ = some y := fun o ho => ⟨J[o]'(by omega), hJ1.cellv (by rw [Array.getElem?_eq_getElem])⟩
  obtain ⟨y1, j1⟩ := jc 1 (by omega)
  obtain ⟨y2, j2⟩ := jc 2 (by omega)
  obtain ⟨y3, j3⟩ := jc 3 (by omega)
  obtain ⟨y9, j9⟩ := jc 9 (by omega)
  obtain ⟨y24, j24⟩ := jc 24 (by omega)
  have jf : ∀ o, w1.frozen? ⟨w.heap.size, o, none⟩ = false := hJ1.frozen
  have t26 : w1.cell? ⟨bt, 26, none⟩ = some (.bool clean) := hT1.cellv h26
  have t9 : w1.cell? ⟨bt, 9, none⟩ = some (.slice a m c) := hT1.cellv h9
  have s11 : w1.cell? ⟨bs, 11, none⟩ = some (.bool rep) := hS1.cellv (by rw [set_ne _ _ _ _ (by omega)]; exact h11)
  have lT := hT.lt
  have lS := hS.lt
  have zt : bt ≠ w.heap.size := by omega
  have zs : bs ≠ w.heap.size := by omega
  clear jc
  go_upto_region 5 with fail
  obtain ⟨W2, hW, ex2, hJ2, hS2, hT2, hown2⟩ : ∃ W2, ((((w1.setCell ⟨w.heap.size, 3, none⟩ (.pointer (some ⟨bt, 0, none⟩))).setCell ⟨w.heap.size, 9, none⟩ (.pointer co)).setCell ⟨w.heap.size, 1, none⟩ (.bool clean)).setCell ⟨w.heap.size, 2, none⟩ (.bool rep)).setCell ⟨w.heap.size, 24, none⟩ (.int .i64 m) = W2
      ∧ Ex (fun k => k = w.heap.size) w1 W2 ∧ Blk W2 w.heap.size (fill5 J m clean rep bt co) 162 ∧ Blk W2 bs (S.setIfInBounds 28 (.int .u64 sq1)) 113 ∧ Blk W2 bt T 148 ∧ W2.ownsRow base 62 1 (.slice a m c) m xs := by
    have e : Ex (fun k => k = w.heap.size) w1 (((((w1.setCell ⟨w.heap.size, 3, none⟩ (.pointer (some ⟨bt, 0, none⟩))).setCell ⟨w.heap.size, 9, none⟩ (.pointer co)).setCell ⟨w.heap.size, 1, none⟩ (.bool clean)).setCell ⟨w.heap.size, 2, none⟩ (.bool rep)).setCell ⟨w.heap.size, 24, none⟩ (.int .i64 m)) :=
      (((((Ex.refl (fun k => k = w.heap.size) w1).set ⟨w.heap.size, 3, none⟩ (.pointer (some ⟨bt, 0, none⟩)) rfl).set ⟨w.heap.size, 9, none⟩ (.pointer co) rfl).set ⟨w.heap.size, 1, none⟩ (.bool clean) rfl).set ⟨w.heap.size, 2, none⟩ (.bool rep) rfl).set ⟨w.heap.size, 24, none⟩ (.int .i64 m) rfl
    exact ⟨_, rfl, e, ((((hJ1.set 3 _).set 9 _).set 1 _).set 2 _).set 24 _, hS1.ex e zs, hT1.ex e zt, owns_ex hown1 e (fun g hg x => owns_ne hown1 hJ1 (by decide) (by rw [← x]; exact hg))⟩
  rw [hW]
  clear hW j1 j2 j3 j9 j24 jf t26 t9 s11
  have hb2 : base ≤ W2.heap.size := Nat.le_trans hbase (Nat.le_trans ex1.size ex2.size)
  have t9 : W2.cell? ⟨bt, 9, none⟩ = some (.slice a m c) := hT2.cellv h9
  have ag := owns_ne hown2 hT2 (by decide)
  have ak := owns_ne hown2 hJ2 (by decide)
  have asm := owns_ne hown2 hS2 (by decide)
  have lg := hT2.lt
  go_wp2_with ((at_builtin; refine wpList_append_lies _ rfl _ _ _ rfl base 62 i0 _ 1 8 Try.underlying101 hi0 hz0 hz1 hz2 rfl (by omega) (.slice a m c) m xs (by rfl) (hown2.alloc _) ⟨W2.heap.size, 0, none⟩ 1 1 [.pointer (some ⟨w.heap.size, 0, none⟩)] (by rfl) (by rfl) (World.news_of_block (cs := #[.pointer (some ⟨w.heap.size, 0, none⟩)]) (t := 62) (fr := (0, 0)) (heap_alloc_new W2 _)) (by simp [Value.oneCell']) (by omega) (by unfold maxLen; omega) (by omega) (by simp; omega) (W2.heap.size + 1) (by simp) ?_; intro gg cap2 w3 hown3 hgrow hat hlt3; have hT3 := (hT2.alloc _).grown hgrow (Ne.symm ag); have hJ3 := (hJ2.alloc _).grown hgrow (Ne.symm ak); have hS3 := (hS2.alloc _).grown hgrow (Ne.symm asm); have fz := hT3.frozen 9; have cz : w3.cell? ⟨bt, 9, none⟩ = some (.slice a m c) := hT3.cellv h9))
  go_ret
  refine ⟨rfl, ?_, hS3.set_ne (a := ⟨bt, 9, none⟩) _ (Ne.symm hne), ⟨gg, cap2, hT3.set 9 _, look_owns hown3 hT3 (by decide) 9 _⟩, _, hJ3.set_ne (a := ⟨bt, 9, none⟩) _ (Ne.symm zt), hJs.done hn m clean rep bt co⟩
  have e12 : Ex (fun k => k = bs ∨ k = bt ∨ some k = (Value.slice a m c).ownBlock) w W2 := (ex1.mono (fun k e => Or.inl e)).transLt ex2 (fun i hi e => by omega)
  exact ((e12.alloc _).grown hgrow (fun k e => Or.inl (Or.inr (Or.inr e.symm)))).set ⟨bt, 9, none⟩ _ (Or.inr (Or.inl rfl))

set_option maxRecDepth 100000 in
set_option maxHeartbeats 1000000 in
theorem txnJobOther_c (w : World) (bs bt gst n cap m c base : Nat) (co a : Option Addr) (S st T : Array Value) (k sq sq1 : Int) (rep clean : Bool) (L : Nat → Nat) (xs : List Value)
    (hS : Blk w bs S 113) (h28 : S[28]? = some (.int .u64 sq)) (h40 : S[40]? = some (.slice none 0 0)) (h11 : S[11]? = some (.bool rep)) (hst : Blk w gst st 153) (hsteps : ∀ i, i < n → st[i * 2]? = some (.pointer none) ∧ st[i * 2 + 1]? = some (.float .f64 (L i))) (hn : n ≤ 3) (hsq : IntKind.u64.wrap (sq + 1) = sq1)
    (hT : Blk w bt T 148) (h26 : T[26]? = some (.bool clean)) (h9 : T[9]? = some (.slice a m c)) (hown : w.ownsRow base 62 1 (.slice a m c) m xs) (hbase : base ≤ w.heap.size) (hm : m ≤ 1000000) (hk : (k == 1) = false) :
    Calls Try.prog 47 #[.pointer (some ⟨bs, 0, none⟩), .int .u8 k, .pointer (some ⟨bt, 0, none⟩), .pointer co, .slice (some ⟨gst, 0, none⟩) n cap] w fun e w' => e = .returned (.pointer (some ⟨w.heap.size, 0, none⟩)) ∧ JobMade w w' bs bt n m c base co a S T k sq1 clean false L xs := by
  obtain ⟨i0, hi0, hz0, hz1, hz2⟩ := info_parts info62
  have HQ := hide hsq
  clear hsq
  go_enter Try.func47, Try.ntmps47
  go_wp2_with fail
  refine (newJob_c w bs gst n cap S st k sq sq1 L hS h28 h40 hst hsteps hn (unhide HQ)).mono ?_
  rintro e w1 ⟨rfl, ex1, hS1, J, hJ1, hJs⟩
  have hne : bt ≠ bs := hT.ne_type hS (by decide)
  have hT1 := hT.ex ex1 hne
  have hown1 := owns_ex hown ex1 (fun g hg e => owns_ne hown hS (by decide) (by rw [← e]; exact hg))
  have hs := hJs.size
  have jc : ∀ o, o < 31 → ∃ y, w1.cell? ⟨w.heap.size, o, none⟩ = some y := fun o ho => ⟨J[o]'(by omega), hJ1.cellv (by rw [Array.getElem?_eq_getElem])⟩
  obtain ⟨y1, j1⟩ := jc 1 (by omega)
  obtain ⟨y2, j2⟩ := jc 2 (by omega)
  obtain ⟨y3, j3⟩ := jc 3 (by omega)
  obtain ⟨y9, j9⟩ := jc 9 (by omega)
  obtain ⟨y24, j24⟩ := jc 24 (by omega)
  have jf : ∀ o, w1.frozen? ⟨w.heap.size, o, none⟩ = false := hJ1.frozen
  have t26 : w1.cell? ⟨bt, 26, none⟩ = some (.bool clean) := hT1.cellv h26
  have t9 : w1.cell? ⟨bt, 9, none⟩ = some (.slice a m c) := hT1.cellv h9
  have s11 : w1.cell? ⟨bs, 11, none⟩ = some (.bool rep) := hS1.cellv (by rw [set_ne _ _ _ _ (by omega)]; exact h11)
  have lT := hT.lt
  have lS := hS.lt
  have zt : bt ≠ w.heap.size := by omega
  have zs : bs ≠ w.heap.size := by omega
  clear jc
  go_upto_region 5 with fail
  obtain ⟨W2, hW, ex2, hJ2, hS2, hT2, hown2⟩ : ∃ W2, ((((w1.setCell ⟨w.heap.size, 3, none⟩ (.pointer (some ⟨bt, 0, none⟩))).setCell ⟨w.heap.size, 9, none⟩ (.pointer co)).setCell ⟨w.heap.size, 1, none⟩ (.bool clean)).setCell ⟨w.heap.size, 2, none⟩ (.bool false)).setCell ⟨w.heap.size, 24, none⟩ (.int .i64 m) = W2
      ∧ Ex (fun k => k = w.heap.size) w1 W2 ∧ Blk W2 w.heap.size (fill5 J m clean false bt co) 162 ∧ Blk W2 bs (S.setIfInBounds 28 (.int .u64 sq1)) 113 ∧ Blk W2 bt T 148 ∧ W2.ownsRow base 62 1 (.slice a m c) m xs := by
    have e : Ex (fun k => k = w.heap.size) w1 (((((w1.setCell ⟨w.heap.size, 3, none⟩ (.pointer (some ⟨bt, 0, none⟩))).setCell ⟨w.heap.size, 9, none⟩ (.pointer co)).setCell ⟨w.heap.size, 1, none⟩ (.bool clean)).setCell ⟨w.heap.size, 2, none⟩ (.bool false)).setCell ⟨w.heap.size, 24, none⟩ (.int .i64 m)) :=
      (((((Ex.refl (fun k => k = w.heap.size) w1).set ⟨w.heap.size, 3, none⟩ (.pointer (some ⟨bt, 0, none⟩)) rfl).set ⟨w.heap.size, 9, none⟩ (.pointer co) rfl).set ⟨w.heap.size, 1, none⟩ (.bool clean) rfl).set ⟨w.heap.size, 2, none⟩ (.bool false) rfl).set ⟨w.heap.size, 24, none⟩ (.int .i64 m) rfl
    exact ⟨_, rfl, e, ((((hJ1.set 3 _).set 9 _).set 1 _).set 2 _).set 24 _, hS1.ex e zs, hT1.ex e zt, owns_ex hown1 e (fun g hg x => owns_ne hown1 hJ1 (by decide) (by rw [← x]; exact hg))⟩
  rw [hW]
  clear hW j1 j2 j3 j9 j24 jf t26 t9 s11
  have hb2 : base ≤ W2.heap.size := Nat.le_trans hbase (Nat.le_trans ex1.size ex2.size)
  have t9 : W2.cell? ⟨bt, 9, none⟩ = some (.slice a m c) := hT2.cellv h9
  have ag := owns_ne hown2 hT2 (by decide)
  have ak := owns_ne hown2 hJ2 (by decide)
  have asm := owns_ne hown2 hS2 (by decide)
  have lg := hT2.lt
  go_wp2_with ((at_builtin; refine wpList_append_lies _ rfl _ _ _ rfl base 62 i0 _ 1 8 Try.underlying101 hi0 hz0 hz1 hz2 rfl (by omega) (.slice a m c) m xs (by rfl) (hown2.alloc _) ⟨W2.heap.size, 0, none⟩ 1 1 [.pointer (some ⟨w.heap.size, 0, none⟩)] (by rfl) (by rfl) (World.news_of_block (cs := #[.pointer (some ⟨w.heap.size, 0, none⟩)]) (t := 62) (fr := (0, 0)) (heap_alloc_new W2 _)) (by simp [Value.oneCell']) (by omega) (by unfold maxLen; omega) (by omega) (by simp; omega) (W2.heap.size + 1) (by simp) ?_; intro gg cap2 w3 hown3 hgrow hat hlt3; have hT3 := (hT2.alloc _).grown hgrow (Ne.symm ag); have hJ3 := (hJ2.alloc _).grown hgrow (Ne.symm ak); have hS3 := (hS2.alloc _).grown hgrow (Ne.symm asm); have fz := hT3.frozen 9; have cz : w3.cell? ⟨bt, 9, none⟩ = some (.slice a m c) := hT3.cellv h9))
  go_ret
  refine ⟨rfl, ?_, hS3.set_ne (a := ⟨bt, 9, none⟩) _ (Ne.symm hne), ⟨gg, cap2, hT3.set 9 _, look_owns hown3 hT3 (by decide) 9 _⟩, _, hJ3.set_ne (a := ⟨bt, 9, none⟩) _ (Ne.symm zt), hJs.done hn m clean false bt co⟩
  have e12 : Ex (fun k => k = bs ∨ k = bt ∨ some k = (Value.slice a m c).ownBlock) w W2 := (ex1.mono (fun k e => Or.inl e)).transLt ex2 (fun i hi e => by omega)
  exact ((e12.alloc _).grown hgrow (fun k e => Or.inl (Or.inr (Or.inr e.symm)))).set ⟨bt, 9, none⟩ _ (Or.inr (Or.inl rfl))

theorem txnJob_c (w : World) (bs bt gst n cap m c base : Nat) (co a : Option Addr) (S st T : Array Value) (k sq sq1 : Int) (rep clean : Bool) (L : Nat → Nat) (xs : List Value)
    (hS : Blk w bs S 113) (h28 : S[28]? = some (.int .u64 sq)) (h40 : S[40]? = some (.slice none 0 0)) (h11 : S[11]? = some (.bool rep)) (hst : Blk w gst st 153) (hsteps : ∀ i, i < n → st[i * 2]? = some (.pointer none) ∧ st[i * 2 + 1]? = some (.float .f64 (L i))) (hn : n ≤ 3) (hsq : IntKind.u64.wrap (sq + 1) = sq1)
    (hT : Blk w bt T 148) (h26 : T[26]? = some (.bool clean)) (h9 : T[9]? = some (.slice a m c)) (hown : w.ownsRow base 62 1 (.slice a m c) m xs) (hbase : base ≤ w.heap.size) (hm : m ≤ 1000000) :
    Calls Try.prog 47 #[.pointer (some ⟨bs, 0, none⟩), .int .u8 k, .pointer (some ⟨bt, 0, none⟩), .pointer co, .slice (some ⟨gst, 0, none⟩) n cap] w fun e w' => e = .returned (.pointer (some ⟨w.heap.size, 0, none⟩)) ∧ JobMade w w' bs bt n m c base co a S T k sq1 clean ((k == 1) && rep) L xs := by
  cases hk : (k == 1)
  · exact txnJobOther_c w bs bt gst n cap m c base co a S st T k sq sq1 rep clean L xs hS h28 h40 h11 hst hsteps hn hsq hT h26 h9 hown hbase hm hk
  · exact txnJobMsg_c w bs bt gst n cap m c base co a S st T k sq sq1 rep clean L xs hS h28 h40 h11 hst hsteps hn hsq hT h26 h9 hown hbase hm hk
end Go.Proofs.Qxb6613305a
