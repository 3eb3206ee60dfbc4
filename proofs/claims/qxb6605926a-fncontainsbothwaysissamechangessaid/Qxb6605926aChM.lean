/-
  build (11).
-/
import Derived.Test.Qxb6605926aChL
namespace Go.Proofs.Qxb6605926a
open Go.RowKit

/-- A digest's cells in a block of its own. -/
def DBox (w : World) (b : Nat) (d : Nat → Int) : Prop :=
  w.cell? ⟨b, 0, none⟩ = some (.int .u8 (d 0)) ∧ w.cell? ⟨b, 1, none⟩ = some (.int .u8 (d 1)) ∧ w.cell? ⟨b, 2, none⟩ = some (.int .u8 (d 2)) ∧ w.cell? ⟨b, 3, none⟩ = some (.int .u8 (d 3)) ∧
  w.cell? ⟨b, 4, none⟩ = some (.int .u8 (d 4)) ∧ w.cell? ⟨b, 5, none⟩ = some (.int .u8 (d 5)) ∧ w.cell? ⟨b, 6, none⟩ = some (.int .u8 (d 6)) ∧ w.cell? ⟨b, 7, none⟩ = some (.int .u8 (d 7)) ∧
  w.cell? ⟨b, 8, none⟩ = some (.int .u8 (d 8)) ∧ w.cell? ⟨b, 9, none⟩ = some (.int .u8 (d 9)) ∧ w.cell? ⟨b, 10, none⟩ = some (.int .u8 (d 10)) ∧ w.cell? ⟨b, 11, none⟩ = some (.int .u8 (d 11)) ∧
  w.cell? ⟨b, 12, none⟩ = some (.int .u8 (d 12)) ∧ w.cell? ⟨b, 13, none⟩ = some (.int .u8 (d 13)) ∧ w.cell? ⟨b, 14, none⟩ = some (.int .u8 (d 14)) ∧ w.cell? ⟨b, 15, none⟩ = some (.int .u8 (d 15))

def RBox (w : World) (b : Nat) (v : Value) : Prop := w.cell? ⟨b, 0, none⟩ = some v ∧ w.frozen? ⟨b, 0, none⟩ = false

theorem DBox.below {w w' : World} {b B : Nat} {d : Nat → Int} (h : DBox w b d) (g : Below B w w') (hb : b < B) : DBox w' b d := by
  unfold DBox at *
  simp only [cell_below g hb]
  exact h
theorem RBox.below {w w' : World} {b B : Nat} {v : Value} (h : RBox w b v) (g : Below B w w') (hb : b < B) : RBox w' b v := by
  unfold RBox at *
  rw [cell_below g hb, Below.frozen g hb]; exact h

theorem start_world (w : World) (d : Nat → Int) (t t' : TypeId) (v : Value) :
    DBox ((w.alloc (.cells (dval d) t)).alloc (.cells #[v] t')) w.heap.size d ∧ RBox ((w.alloc (.cells (dval d) t)).alloc (.cells #[v] t')) (w.heap.size + 1) v
    ∧ Below w.heap.size w ((w.alloc (.cells (dval d) t)).alloc (.cells #[v] t')) ∧ ((w.alloc (.cells (dval d) t)).alloc (.cells #[v] t')).heap.size = w.heap.size + 1 + 1 := by
  have b1 := Blk.new w (dval d) t
  have g2 := below_alloc (w.alloc (.cells (dval d) t)) (.cells #[v] t')
  have b1' := b1.below g2 b1.lt
  have b2 := Blk.new (w.alloc (.cells (dval d) t)) #[v] t'
  rw [show (w.alloc (.cells (dval d) t)).heap.size = w.heap.size + 1 by simp] at b2
  refine ⟨?_, ⟨b2.cellv rfl, b2.frozen 0⟩, gr_trans (below_alloc _ _) g2, by simp⟩
  exact ⟨b1'.cellv rfl, b1'.cellv rfl, b1'.cellv rfl, b1'.cellv rfl, b1'.cellv rfl, b1'.cellv rfl, b1'.cellv rfl, b1'.cellv rfl, b1'.cellv rfl, b1'.cellv rfl, b1'.cellv rfl, b1'.cellv rfl, b1'.cellv rfl, b1'.cellv rfl, b1'.cellv rfl, b1'.cellv rfl⟩

theorem Row.upd {w : World} {a : Option Addr} {n : Nat} {f : Nat → Ch} (h : Row w a n f) {x : Addr} {q : Option Addr} (hx : w.cell? x = some (.pointer q)) (v : Value) : Row (w.setCell x v) a n f := by
  intro h0
  obtain ⟨b, o, e, hl, hc⟩ := h h0
  refine ⟨b, o, e, by simpa [World.setCell] using hl, fun i hi => ?_⟩
  obtain ⟨c0, c1, c2, c3⟩ := hc i hi
  have K : ∀ (y : Addr) (u : Value), w.cell? y = some u → (∀ q, u ≠ .pointer q) → (w.setCell x v).cell? y = some u := fun y u hy hu => by
    rw [World.cell?_setCell_other]
    · exact hy
    · intro e; subst e; rw [hx] at hy; injection hy with hy; exact hu _ hy.symm
  exact ⟨K _ _ c0 (fun q e => by cases e), K _ _ c1 (fun q e => by cases e), K _ _ c2 (fun q e => by cases e), K _ _ c3 (fun q e => by cases e)⟩

theorem Conf.upd {w : World} {p t : Option Addr} {n : Nat} {f : Nat → Ch} {n' : Nat} {f' : Nat → Ch} {d : Nat → Int} {B : Nat} (h : Conf w p t n f n' f' d) (hp : New B p) (ht : New B t)
    {x : Addr} {q : Option Addr} (hx : w.cell? x = some (.pointer q)) (hxB : x.block < B) (v : Value) : Conf (w.setCell x v) p t n f n' f' d := by
  have K : ∀ {b : Nat} {cs : Array Value} {t : TypeId}, Blk w b cs t → B ≤ b → Blk (w.setCell x v) b cs t := fun {b cs t} hb hB => by
    unfold Blk at *
    rw [Below.heap_setCell w x v b (by omega)]; exact hb
  rcases h with h | ⟨b, a, cap, e, hb, hr, hT⟩
  · exact Or.inl h
  · refine Or.inr ⟨b, a, cap, e, K hb (hp _ e), hr.upd hx v, ?_⟩
    rcases hT with hT | ⟨h0, tb, a', cap', e', hb', hr'⟩
    · exact Or.inl hT
    · exact Or.inr ⟨h0, tb, a', cap', e', K hb' (ht _ e'), hr'.upd hx v⟩

/-- The end of 'build': the result stored in its cell. -/
theorem end_world {w W w' : World} {p t : Option Addr} {n : Nat} {f : Nat → Ch} {n' : Nat} {f' : Nat → Ch} {d : Nat → Int} {q : Option Addr} {z : Nat} (h : Conf w' p t n f n' f' d) (hp : New W.heap.size p) (ht : New W.heap.size t)
    (hB : Below w.heap.size w w') (hz : w.heap.size ≤ z) (hzW : z < W.heap.size) (hW : w.heap.size ≤ W.heap.size) (hx : w'.cell? ⟨z, 0, none⟩ = some (.pointer q)) :
    CfPost n f n' f' d w (.returned (.agg #[.pointer p])) (w'.setCell ⟨z, 0, none⟩ (.pointer p)) :=
  ⟨p, t, rfl, h.upd hp ht hx hzW _, fun x e => Nat.le_trans hW (hp x e), fun x e => Nat.le_trans hW (ht x e), below_set hB _ _ hz⟩

/-- What lies there, if anything does. -/
def got (W : World) (b : Nat) : Value := (W.cell? ⟨b, 0, none⟩).getD undef
theorem got_of {W : World} {b : Nat} {v : Value} (h : W.cell? ⟨b, 0, none⟩ = some v) : W.cell? ⟨b, 0, none⟩ = some (got W b) := by
  unfold got; rw [h]; rfl

theorem build_c (a : Option Addr) (n cap : Nat) (f : Nat → Ch) (a' : Option Addr) (n' cap' : Nat) (f' : Nat → Ch) (d : Nat → Int) (w : World) (h : Row w a n f) (h' : Row w a' n' f') (hn : n ≤ 1048576) (hn' : n' ≤ 1048576) :
    Calls Try.prog 11 #[.slice a n cap, .slice a' n' cap', .agg (dval d)] w fun e w' => CfPost n f n' f' d w e w' := by
  have T1 : ∀ (W : World), Below w.heap.size w W → Calls Try.prog 22 #[.slice a n cap] W fun e w' => SlPost n f W e w' := fun W hW => toChanges_c a n cap f W (h.below hW) hn
  have T2 : ∀ (W : World), Below w.heap.size w W → Calls Try.prog 22 #[.slice a' n' cap'] W fun e w' => SlPost n' f' W e w' := fun W hW => toChanges_c a' n' cap' f' W (h'.below hW) hn'
  clear h h'
  unfold dval
  by_cases h0 : n' = 0
  case pos =>
    subst h0
    by_cases h1 : n = 0
    case pos =>
      subst h1
      go_enter Try.func11, Try.ntmps11
      go_wp2
      go_returns
      exact ⟨none, none, rfl, Or.inl ⟨rfl, rfl, rfl, rfl⟩, (fun x e => by cases e), (fun x e => by cases e), gr_trans (below_alloc _ _) (below_alloc _ _)⟩
    case neg =>
      have h1' : ¬ (n : Int) = 0 := by omega
      obtain ⟨hD, hR, hB, hz⟩ := start_world w d 23 31 (.pointer none)
      unfold dval at *
      go_enter Try.func11, Try.ntmps11
      go_wp2_with fail
      generalize hW0 : (w.alloc _).alloc _ = W0 at *
      refine (T1 W0 hB).mono ?_
      rintro e w1 ⟨a2, cap2, rfl, hr1, hn1⟩
      go_wp2_with fail
      refine (newLive_c a2 n cap2 f f' d w1 hr1).mono ?_
      rintro e w2 ⟨p, t, rfl, hcf, hnp, hnt, hn2⟩
      have hB2 := gr_trans hB (gr_trans hn1 hn2)
      have hR2 := hR.below (gr_trans hn1 hn2) (by omega)
      obtain ⟨c0, c1⟩ := hR2
      have hs1 := hn1.size
      have E := end_world (W := w1) (z := w.heap.size + 1) hcf hnp hnt hB2 (by omega) (by omega) (by omega) c0
      have c2 : (w2.setCell ⟨w.heap.size + 1, 0, none⟩ (.pointer p)).cell? ⟨w.heap.size + 1, 0, none⟩ = some (.pointer p) := World.cell?_setCell_same _ _ _ c0
      clear hD hR hcf hnp hnt hB2 hn1 hn2 hr1 hB
      go_wp2_with fail
      refine bodyPost_ret (v := .agg #[.pointer p]) (by simp [results, Try.results11, go_sem, c2]) rfl ?_
      exact E
  case neg =>
    have h0' : ¬ (n' : Int) = 0 := by omega
    have h0p : 0 < n' := by omega
    obtain ⟨hD, hR, hB, hz⟩ := start_world w d 23 31 (.pointer none)
    have NC : ∀ (a2 : Option Addr) (cap2 : Nat) (a3 : Option Addr) (cap3 : Nat) (W : World), Row W a2 n f → Row W a3 n' f' → Calls Try.prog 23 #[.slice a2 n cap2, .slice a3 n' cap3, .agg (dval d)] W fun e w' => CfPost n f n' f' d W e w' := fun a2 cap2 a3 cap3 W k k' => newConf_c a2 n cap2 f a3 n' cap3 f' d W k k' h0p
    have hu : Try.prog.underlying 23 = some (.array 16 5) := un23
    have RA : ∀ {W : World}, DBox W w.heap.size d → W.rangeAt w.heap.size 0 (dval d).toList := by
      rintro W ⟨c0, c1, c2, c3, c4, c5, c6, c7, c8, c9, c10, c11, c12, c13, c14, c15⟩
      intro j v hv
      rw [Nat.zero_add]
      match j with
      | 0 => injection hv with hv; subst hv; exact c0
      | 1 => injection hv with hv; subst hv; exact c1
      | 2 => injection hv with hv; subst hv; exact c2
      | 3 => injection hv with hv; subst hv; exact c3
      | 4 => injection hv with hv; subst hv; exact c4
      | 5 => injection hv with hv; subst hv; exact c5
      | 6 => injection hv with hv; subst hv; exact c6
      | 7 => injection hv with hv; subst hv; exact c7
      | 8 => injection hv with hv; subst hv; exact c8
      | 9 => injection hv with hv; subst hv; exact c9
      | 10 => injection hv with hv; subst hv; exact c10
      | 11 => injection hv with hv; subst hv; exact c11
      | 12 => injection hv with hv; subst hv; exact c12
      | 13 => injection hv with hv; subst hv; exact c13
      | 14 => injection hv with hv; subst hv; exact c14
      | 15 => injection hv with hv; subst hv; exact c15
      | j + 16 => cases hv
    have hi : (Try.prog.info? 23).map (·.size) = some (dval d).toList.length := (by kernel_rfl : (Try.prog.info? 23).map (·.size) = some 16)
    have NC2 : ∀ (a2 : Option Addr) (cap2 : Nat) (a3 : Option Addr) (cap3 : Nat) (W : World), Row W a2 n f → Row W a3 n' f' → Calls Try.prog 23 #[.slice a2 n cap2, .slice a3 n' cap3, .agg (dval d).toList.toArray] W fun e w' => CfPost n f n' f' d W e w' := NC
    clear NC
    generalize (dval d).toList = cs at *
    unfold dval at *
    go_enter Try.func11, Try.ntmps11
    go_wp2_with fail
    generalize hW0 : (w.alloc _).alloc _ = W0 at *
    clear hW0
    have KP : ∀ W' : World, Below W0.heap.size W0 W' → W'.rangeAt w.heap.size 0 cs ∧ W'.cell? ⟨w.heap.size + 1, 0, none⟩ = some (got W' (w.heap.size + 1)) ∧ W'.frozen? ⟨w.heap.size + 1, 0, none⟩ = false := fun W' g => ⟨RA (hD.below g (by omega)), got_of (hR.below g (by omega)).1, (hR.below g (by omega)).2⟩
    have KS : ∀ (W' : World) (v : Value), Below W0.heap.size W0 W' → (W'.setCell ⟨w.heap.size + 1, 0, none⟩ v).rangeAt w.heap.size 0 cs ∧ (W'.setCell ⟨w.heap.size + 1, 0, none⟩ v).cell? ⟨w.heap.size + 1, 0, none⟩ = some (got (W'.setCell ⟨w.heap.size + 1, 0, none⟩ v) (w.heap.size + 1)) ∧ (W'.setCell ⟨w.heap.size + 1, 0, none⟩ v).frozen? ⟨w.heap.size + 1, 0, none⟩ = false := fun W' v g =>
      ⟨(fun j v' hv => by rw [World.cell?_setCell_far _ _ _ _ (by simp)]; exact (KP W' g).1 j v' hv), got_of (World.cell?_setCell_same _ _ _ (hR.below g (by omega)).1), by simp [go_sem, (hR.below g (by omega)).2]⟩
    have HKS := hide KS
    have HKP := hide KP
    have HR := hide hR
    have HB := hide hB
    have HZ := hide hz
    clear KP KS hB hD hR RA hz
    go_region_held3 (fun W' => W'.rangeAt w.heap.size 0 cs ∧ W'.cell? ⟨w.heap.size + 1, 0, none⟩ = some (got W' (w.heap.size + 1)) ∧ W'.frozen? ⟨w.heap.size + 1, 0, none⟩ = false)
      (first | exact HKS.out _ _ (gr_trans (gr_drew hn1) (gr_trans hn2 hn3)) | exact HKP.out _ (gr_trans (gr_drew hn1) (gr_trans hn2 hn3)) | exact HKP.out _ (gr_trans (gr_drew hn1) hn2) | exact HKP.out _ (gr_drew hn1) | exact HKP.out _ (gr_drew (Below.refl _ _)))
      (first
        | (go_at_call_of 22 (Value.slice a n cap); refine (T1 _ (gr_trans HB.out (gr_drew (Below.refl _ _)))).mono ?_; rintro e w1 ⟨a2, cap2, rfl, hr1, hn1⟩)
        | (go_at_call_of 22 (Value.slice a' n' cap'); refine (T2 _ (gr_trans HB.out (gr_drew hn1))).mono ?_; rintro e w2 ⟨a3, cap3, rfl, hr2, hn2⟩)
        | (go_at_call 23; refine (NC2 _ _ _ _ _ (hr1.below hn2) hr2).mono ?_; rintro e w3 ⟨p, t, rfl, hcf, hnp, hnt, hn3⟩))
    have hg : Below W0.heap.size W0 w3 := gr_trans (gr_drew (w := W0) hn1) (gr_trans hn2 hn3)
    have hB3 := gr_trans HB.out hg
    have hz := HZ.out
    have hR3 := HR.out.below hg (by omega)
    have hs1 : W0.heap.size ≤ w1.heap.size := hn1.size
    have hs2 := hn2.size
    have E := end_world (W := w2) (z := w.heap.size + 1) hcf hnp hnt hB3 (by omega) (by omega) (by omega) hR3.1
    have c2 : (w3.setCell ⟨w.heap.size + 1, 0, none⟩ (.pointer p)).cell? ⟨w.heap.size + 1, 0, none⟩ = some (.pointer p) := World.cell?_setCell_same _ _ _ hR3.1
    go_wp2_with fail
    refine bodyPost_ret (v := .agg #[.pointer p]) (by simp [results, Try.results11, go_sem, c2]) rfl ?_
    exact E
end Go.Proofs.Qxb6605926a
