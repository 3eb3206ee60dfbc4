/-
  tombstones.holds (25).
-/
import Derived.Test.Qxb6605926aChL
import Derived.Test.Qxb6605926aChJ
import Derived.Test.Qxb6605926aChO
import Derived.LaidEqlPtr
namespace Go.Proofs.Qxb6605926a
open Go.RowKit

/-- The changes as a list. -/
def LL (n : Nat) (f : Nat → Ch) : List Ch := (List.range n).map f
theorem mem_LL {n : Nat} {f : Nat → Ch} {c : Ch} : c ∈ LL n f ↔ InL n f c := by
  unfold LL InL
  simp only [List.mem_map, List.mem_range]
theorem LL_length (n : Nat) (f : Nat → Ch) : (LL n f).length = n := by unfold LL; simp
theorem LL_sorted {n : Nat} {f : Nat → Ch} (h : Asc f n) : Pl.Sorted Ch.lt (LL n f) := by
  unfold Pl.Sorted LL
  rw [List.pairwise_map]
  have : ∀ m, m ≤ n → (List.range m).Pairwise fun a b => (f a).lt (f b) := by
    intro m
    induction m with
    | zero => intro _; simp
    | succ m ih =>
      intro hm
      rw [List.range_succ, List.pairwise_append]
      refine ⟨ih (by omega), by simp, fun a ha b hb => ?_⟩
      obtain rfl : b = m := by simpa using hb
      exact h.lt b a (by simpa using ha) (by omega)
  exact this n (Nat.le_refl _)
theorem LL_same {n : Nat} {f : Nat → Ch} {n' : Nat} {f' : Nat → Ch} : LL n f = LL n' f' ↔ SameL n f n' f' := by
  constructor
  · intro h
    have hl := congrArg List.length h
    rw [LL_length, LL_length] at hl
    subst hl
    refine ⟨rfl, fun i hi => ?_⟩
    have := congrArg (fun l => l[i]?) h
    simpa [LL, hi] using this
  · rintro ⟨rfl, h⟩
    unfold LL
    exact List.map_congr_left fun i hi => h i (by simpa using hi)

def decCh : DecidableEq Ch := fun a b => if h : a.same b = true then .isTrue ((Ch.same_iff a b).1 h) else .isFalse fun e => h ((Ch.same_iff a b).2 e)

/-- More changes do not lie among fewer. -/
theorem Sub.le {n : Nat} {f : Nat → Ch} {n' : Nat} {f' : Nat → Ch} (h : Sub n f n' f') (hs : Asc f n) : n ≤ n' := by
  have := @Pl.length_le_of_subset Ch decCh (LL n f) (LL n' f') (Pl.Sorted.nodup ordCh (LL_sorted hs)) fun x hx => by
    obtain ⟨i, hi, rfl⟩ := mem_LL.1 hx
    exact mem_LL.2 (h i hi)
  rwa [LL_length, LL_length] at this

theorem SameL.sub {n : Nat} {f : Nat → Ch} {n' : Nat} {f' : Nat → Ch} (h : SameL n f n' f') : Sub n' f' n f := by
  obtain ⟨rfl, h⟩ := h
  exact fun i hi => ⟨i, hi, h i hi⟩

theorem sz59 : ∃ i, Try.prog.info? 59 = some i ∧ i.size ≠ 0 := by
  have h : (Try.prog.info? 59).map (·.size) = some 17 := by kernel_rfl
  obtain ⟨i, hi, hz⟩ := Option.map_eq_some_iff.1 h
  exact ⟨i, hi, by rw [hz]; decide⟩
theorem sz65 : ∃ i, Try.prog.info? 65 = some i ∧ i.size ≠ 0 := by
  have h : (Try.prog.info? 65).map (·.size) = some 4 := by kernel_rfl
  obtain ⟨i, hi, hz⟩ := Option.map_eq_some_iff.1 h
  exact ⟨i, hi, by rw [hz]; decide⟩
theorem ptr49 {w : World} {b b' : Nat} {cs cs' : Array Value} {t t' : TypeId} (h : Blk w b cs t) (h' : Blk w b' cs' t') (hne : b ≠ b') :
    (binOp .eql 49 (.pointer (some ⟨b, 0, none⟩)) (.pointer (some ⟨b', 0, none⟩))).run Try.prog w = .ok (.bool false) w := by
  obtain ⟨i, hi, hz⟩ := sz59
  exact run_eql_ptr_other w Try.underlying49 hi hz (fun e => hne (by injection e)) h h'
theorem ptr29 {w : World} {b b' : Nat} {cs cs' : Array Value} {t t' : TypeId} (h : Blk w b cs t) (h' : Blk w b' cs' t') (hne : b ≠ b') :
    (binOp .eql 29 (.pointer (some ⟨b, 0, none⟩)) (.pointer (some ⟨b', 0, none⟩))).run Try.prog w = .ok (.bool false) w := by
  obtain ⟨i, hi, hz⟩ := sz65
  exact run_eql_ptr_other w Try.underlying29 hi hz (fun e => hne (by injection e)) h h'
theorem nil49 (w : World) (a : Addr) : (binOp .eql 49 (.pointer none) (.pointer (some a))).run Try.prog w = .ok (.bool false) w := by
  have h : ∀ d : Nat, (Op.equalIn (d + 1) 49 (.pointer none) (.pointer (some a))).run Try.prog w = .ok false w := fun d => by
    simp [Op.equalIn, run_underlying Try.underlying49]
  simp only [binOp]
  simp [Op.equal, Op.maxDepth, h 9999]
theorem nil29 (w : World) (a : Addr) : (binOp .eql 29 (.pointer none) (.pointer (some a))).run Try.prog w = .ok (.bool false) w := by
  have h : ∀ d : Nat, (Op.equalIn (d + 1) 29 (.pointer none) (.pointer (some a))).run Try.prog w = .ok false w := fun d => by
    simp [Op.equalIn, run_underlying Try.underlying29]
  simp only [binOp]
  simp [Op.equal, Op.maxDepth, h 9999]

theorem drange {w : World} {b : Nat} {s : Value} {d : Nat → Int} (h : Blk w b (tcells s d) 59) : w.rangeAt b 1 (dval d).toList := by
  intro j v hv
  have : (tcells s d)[1 + j]? = some v := by
    match j with
    | 0 => exact hv
    | 1 => exact hv
    | 2 => exact hv
    | 3 => exact hv
    | 4 => exact hv
    | 5 => exact hv
    | 6 => exact hv
    | 7 => exact hv
    | 8 => exact hv
    | 9 => exact hv
    | 10 => exact hv
    | 11 => exact hv
    | 12 => exact hv
    | 13 => exact hv
    | 14 => exact hv
    | 15 => exact hv
    | j + 16 => cases hv
  exact h.cellv this
theorem range_drew {w : World} {b o : Nat} {cs : List Value} (h : w.rangeAt b o cs) : w.drew.rangeAt b o cs := h

theorem holds_c (t : Option Addr) (n : Nat) (f : Nat → Ch) (d : Nat → Int) (t' : Option Addr) (n' : Nat) (f' : Nat → Ch) (d' : Nat → Int) (w : World)
    (h : TombAt w t n f d) (h' : TombAt w t' n' f' d') (hne : ∀ x, t = some x → t' ≠ some x) (hs : Asc f n) (hs' : Asc f' n') (hc : ¬ Clash n f d n' f' d') (hn : n ≤ 1048576) (hn' : n' ≤ 1048576) :
    Calls Try.prog 25 #[.pointer t, .pointer t'] w fun e w' => BPost (Sub n' f' n f) w e w' := by
  rcases h' with ⟨rfl, rfl⟩ | ⟨h0', tb', a', cap', rfl, hb', hr'⟩
  case inl =>
    clear h hne hc
    go_enter Try.func25, Try.ntmps25
    go_wp2_with fail
    go_ret
    exact ⟨true, rfl, ⟨fun _ j hj => absurd hj (by omega), fun _ => rfl⟩, Below.refl _ _⟩
  case inr =>
  rcases h with ⟨rfl, rfl⟩ | ⟨h0, tb, a, cap, rfl, hb, hr⟩
  case inl =>
    clear hne hc hs hs' hb' hr'
    have N := nil49
    go_enter Try.func25, Try.ntmps25
    go_wp2_with fail
    go_quiet (fail)
    go_wp2_with fail
    go_ret
    exact ⟨false, rfl, ⟨(fun h => by cases h), fun h => by obtain ⟨j, hj, _⟩ := h 0 h0'; exact absurd hj (by omega)⟩, gr_drewN (Below.refl _ _)⟩
  case inr =>
  have hbne : tb ≠ tb' := fun e => hne ⟨tb, 0, none⟩ rfl (by rw [e])
  have hbl := hb.lt
  have hbl' := hb'.lt
  have c0 : w.cell? ⟨tb, 0, none⟩ = some (.slice a n cap) := hb.cellv rfl
  have c0' : w.cell? ⟨tb', 0, none⟩ = some (.slice a' n' cap') := hb'.cellv rfl
  have PE := ptr49 hb hb' hbne
  have HE : Hid (Clash n f d n' f' d' → False) := hide hc
  have HS := hide hs
  have HS' := hide hs'
  have HN := hide h0
  have HN' := hide h0'
  by_cases hlt : n < n'
  case pos =>
    have hlt' : (n : Int) < n' := by omega
    clear hne hc hs hs' hb hr hb' hr' h0 h0'
    go_enter Try.func25, Try.ntmps25
    go_wp2_with fail
    go_quiet (fail)
    go_wp2_with fail
    go_ret
    exact ⟨false, rfl, ⟨(fun h => by cases h), fun h => by have := Sub.le h HS'.out; omega⟩, gr_drewN (Below.refl _ _)⟩
  have hlt' : ¬ (n : Int) < n' := by omega
  have SB : ∀ W, Below w.heap.size w W → Calls Try.prog 28 #[.slice a' n' cap', .slice a n cap] W fun e w' => BPost (Sub n' f' n f) W e w' := fun W hW => subset_c a' n' cap' f' a n cap f W (hr'.below hW) (hr.below hW) hs' hs hn' hn
  have E := run_eqlD 36 un36 d d'
  have G : ∀ W : World, (eqGuard .eql 36 (.tmp 33) (.tmp 37) (.agg (dval d)) (.agg (dval d'))).run Try.prog W = .ok () W := fun W => run_eqGuard_agg W _ _ _ _ _ _ eg36
  unfold dval at E G
  have x0 : w.cell? ⟨tb, 1, none⟩ = some (.int .u8 (d 0)) := hb.cellv rfl
  have x1 : w.cell? ⟨tb, 2, none⟩ = some (.int .u8 (d 1)) := hb.cellv rfl
  have x2 : w.cell? ⟨tb, 3, none⟩ = some (.int .u8 (d 2)) := hb.cellv rfl
  have x3 : w.cell? ⟨tb, 4, none⟩ = some (.int .u8 (d 3)) := hb.cellv rfl
  have x4 : w.cell? ⟨tb, 5, none⟩ = some (.int .u8 (d 4)) := hb.cellv rfl
  have x5 : w.cell? ⟨tb, 6, none⟩ = some (.int .u8 (d 5)) := hb.cellv rfl
  have x6 : w.cell? ⟨tb, 7, none⟩ = some (.int .u8 (d 6)) := hb.cellv rfl
  have x7 : w.cell? ⟨tb, 8, none⟩ = some (.int .u8 (d 7)) := hb.cellv rfl
  have x8 : w.cell? ⟨tb, 9, none⟩ = some (.int .u8 (d 8)) := hb.cellv rfl
  have x9 : w.cell? ⟨tb, 10, none⟩ = some (.int .u8 (d 9)) := hb.cellv rfl
  have x10 : w.cell? ⟨tb, 11, none⟩ = some (.int .u8 (d 10)) := hb.cellv rfl
  have x11 : w.cell? ⟨tb, 12, none⟩ = some (.int .u8 (d 11)) := hb.cellv rfl
  have x12 : w.cell? ⟨tb, 13, none⟩ = some (.int .u8 (d 12)) := hb.cellv rfl
  have x13 : w.cell? ⟨tb, 14, none⟩ = some (.int .u8 (d 13)) := hb.cellv rfl
  have x14 : w.cell? ⟨tb, 15, none⟩ = some (.int .u8 (d 14)) := hb.cellv rfl
  have x15 : w.cell? ⟨tb, 16, none⟩ = some (.int .u8 (d 15)) := hb.cellv rfl
  have y0 : w.cell? ⟨tb', 1, none⟩ = some (.int .u8 (d' 0)) := hb'.cellv rfl
  have y1 : w.cell? ⟨tb', 2, none⟩ = some (.int .u8 (d' 1)) := hb'.cellv rfl
  have y2 : w.cell? ⟨tb', 3, none⟩ = some (.int .u8 (d' 2)) := hb'.cellv rfl
  have y3 : w.cell? ⟨tb', 4, none⟩ = some (.int .u8 (d' 3)) := hb'.cellv rfl
  have y4 : w.cell? ⟨tb', 5, none⟩ = some (.int .u8 (d' 4)) := hb'.cellv rfl
  have y5 : w.cell? ⟨tb', 6, none⟩ = some (.int .u8 (d' 5)) := hb'.cellv rfl
  have y6 : w.cell? ⟨tb', 7, none⟩ = some (.int .u8 (d' 6)) := hb'.cellv rfl
  have y7 : w.cell? ⟨tb', 8, none⟩ = some (.int .u8 (d' 7)) := hb'.cellv rfl
  have y8 : w.cell? ⟨tb', 9, none⟩ = some (.int .u8 (d' 8)) := hb'.cellv rfl
  have y9 : w.cell? ⟨tb', 10, none⟩ = some (.int .u8 (d' 9)) := hb'.cellv rfl
  have y10 : w.cell? ⟨tb', 11, none⟩ = some (.int .u8 (d' 10)) := hb'.cellv rfl
  have y11 : w.cell? ⟨tb', 12, none⟩ = some (.int .u8 (d' 11)) := hb'.cellv rfl
  have y12 : w.cell? ⟨tb', 13, none⟩ = some (.int .u8 (d' 12)) := hb'.cellv rfl
  have y13 : w.cell? ⟨tb', 14, none⟩ = some (.int .u8 (d' 13)) := hb'.cellv rfl
  have y14 : w.cell? ⟨tb', 15, none⟩ = some (.int .u8 (d' 14)) := hb'.cellv rfl
  have y15 : w.cell? ⟨tb', 16, none⟩ = some (.int .u8 (d' 15)) := hb'.cellv rfl
  clear hne hc hs hs' hb hr hb' hr' h0 h0'
  cases hq : deq d d'
  case true =>
    have HQ := hide hq
    rw [hq] at E
    clear hq
    go_enter Try.func25, Try.ntmps25
    go_wp2_with fail
    go_quiet (fail)
    go_wp2_with fail
    go_quiet (fail)
    clear x0 y0 x1 y1 x2 y2 x3 y3 x4 y4 x5 y5 x6 y6 x7 y7 x8 y8 x9 y9 x10 y10 x11 y11 x12 y12 x13 y13 x14 y14 x15 y15 E G
    go_wp2_with fail
    go_ret
    refine ⟨true, rfl, ⟨(fun _ => SameL.sub (Classical.byContradiction fun hh => HE.out ⟨HN.out, HN'.out, HQ.out, hh⟩)), fun _ => rfl⟩, gr_drewN (gr_drewN (Below.refl _ _))⟩
  case false =>
    rw [hq] at E
    go_enter Try.func25, Try.ntmps25
    go_wp2_with fail
    go_quiet (fail)
    go_wp2_with fail
    go_quiet (fail)
    clear x0 y0 x1 y1 x2 y2 x3 y3 x4 y4 x5 y5 x6 y6 x7 y7 x8 y8 x9 y9 x10 y10 x11 y11 x12 y12 x13 y13 x14 y14 x15 y15 E G
    go_wp2_with fail
    generalize hW : (w.drewN _).drewN _ = W1
    have hB1 : Below w.heap.size w W1 := by rw [← hW]; exact gr_drewN (gr_drewN (Below.refl _ _))
    have c1 : W1.cell? ⟨tb, 0, none⟩ = some (.slice a n cap) := by rw [← hW]; exact c0
    have c1' : W1.cell? ⟨tb', 0, none⟩ = some (.slice a' n' cap') := by rw [← hW]; exact c0'
    have hl1 : tb < W1.heap.size := Nat.lt_of_lt_of_le hbl hB1.size
    have hl1' : tb' < W1.heap.size := Nat.lt_of_lt_of_le hbl' hB1.size
    clear hW c0 c0' PE hbl hbl'
    have KP : ∀ W', Below W1.heap.size W1 W' → W'.cell? ⟨tb, 0, none⟩ = some (.slice a n cap) ∧ W'.cell? ⟨tb', 0, none⟩ = some (.slice a' n' cap') := fun W' g => by rw [cell_below g hl1, cell_below g hl1']; exact ⟨c1, c1'⟩
    have HKP := hide KP
    have HB1 := hide hB1
    clear KP hB1
    go_region_held3 (fun W' => W'.cell? ⟨tb, 0, none⟩ = some (.slice a n cap) ∧ W'.cell? ⟨tb', 0, none⟩ = some (.slice a' n' cap'))
      (first | exact HKP.out _ (gr_drew hnew) | exact HKP.out _ (gr_drew (Below.refl _ _)))
      ((go_at_call 28; refine (SB _ (gr_trans HB1.out (gr_drew (Below.refl _ _)))).mono ?_; rintro e w' ⟨r, rfl, hr, hnew⟩))
    have hB2 : Below w.heap.size w w' := gr_trans HB1.out (gr_drew (w := W1) hnew)
    go_wp2_with fail
    go_ret
    exact ⟨r, rfl, hr, hB2⟩
end Go.Proofs.Qxb6605926a
