/-
  toChanges (22).
-/
import Derived.Test.Qxb6605926aChC
import Derived.Deep.AppendLies
import Derived.BigRegion
namespace Go.Proofs.Qxb6605926a
open Go.RowKit

/-- Block b holds the cells cs, of element type t, none of them frozen. -/
def Blk (w : World) (b : Nat) (cs : Array Value) (t : TypeId) : Prop := w.heap[b]? = some (.cells cs t (0, 0))

theorem Blk.cell {w : World} {b : Nat} {cs : Array Value} {t : TypeId} (h : Blk w b cs t) (o : Nat) : w.cell? ⟨b, o, none⟩ = cs[o]? := by
  unfold Blk at h
  simp [World.cell?, h]
theorem Blk.cellv {w : World} {b : Nat} {cs : Array Value} {t : TypeId} (h : Blk w b cs t) {o : Nat} {v : Value} (hv : cs[o]? = some v) : w.cell? ⟨b, o, none⟩ = some v := (h.cell o).trans hv
theorem Blk.frozen {w : World} {b : Nat} {cs : Array Value} {t : TypeId} (h : Blk w b cs t) (o : Nat) : w.frozen? ⟨b, o, none⟩ = false := by
  unfold Blk at h
  simp [World.frozen?, h]
theorem Blk.lt {w : World} {b : Nat} {cs : Array Value} {t : TypeId} (h : Blk w b cs t) : b < w.heap.size := by
  rcases Nat.lt_or_ge b w.heap.size with hl | hl
  · exact hl
  · unfold Blk at h; rw [Array.getElem?_eq_none hl] at h; cases h
theorem Blk.upd {w : World} {b : Nat} {cs : Array Value} {t : TypeId} (h : Blk w b cs t) (o : Nat) (v : Value) : Blk (w.setCell ⟨b, o, none⟩ v) b (cs.setIfInBounds o v) t := by
  unfold Blk at *
  simp [World.setCell, Array.getElem?_modify, h]
theorem Blk.below {w w' : World} {b B : Nat} {cs : Array Value} {t : TypeId} (h : Blk w b cs t) (g : Below B w w') (hb : b < B) : Blk w' b cs t := by
  unfold Blk at *
  rw [g.block b hb]; exact h
theorem Blk.new (w : World) (cs : Array Value) (t : TypeId) : Blk (w.alloc (.cells cs t)) w.heap.size cs t := by
  unfold Blk
  show (w.heap.push _)[w.heap.size]? = _
  simp
/-- A store into a block that was not there. -/
theorem below_set {B : Nat} {a w : World} (h : Below B a w) (p : Addr) (v : Value) (hp : B ≤ p.block) : Below B a (w.setCell p v) :=
  ⟨h.os, h.tape, h.output, by simpa [World.setCell] using h.size, fun k hk => (Below.heap_setCell _ _ _ _ (by omega)).trans (h.block k hk)⟩
theorem below_grown {B : Nat} {a w w' : World} {row : Option Nat} (h : Below B a w) (hg : w.grownBy w' row) (hB : B ≤ w.heap.size) (hr : ∀ k, row = some k → B ≤ k) : Below B a w' :=
  ⟨hg.os.trans h.os, hg.tape.trans h.tape, hg.output.trans h.output, Nat.le_trans h.size hg.size, fun k hk => (hg.block k (by omega) (fun e => by have := hr k e.symm; omega)).trans (h.block k hk)⟩

theorem owns_blk {w : World} {base : Nat} {e : TypeId} {size : Nat} {g n cap : Nat} {xs : List Value} (h : w.ownsRow base e size (.slice (some ⟨g, 0, none⟩) n cap) n xs) :
    ∃ cur : Array Value, Blk w g cur e ∧ n ≤ cap ∧ cap ≤ maxLen ∧ cur.size = cap * size ∧ cur.toList.take (n * size) = xs ∧ base ≤ g := by
  rcases h.2 with ⟨hv, _⟩ | ⟨g', cap', cur, hv, hb, hh, h1, h2, h3, h4⟩
  · cases hv
  · injection hv with e1 e2 e3
    injection e1 with e1
    injection e1 with e1 _ _
    subst e1 e3
    exact ⟨cur, hh, h1, h2, h3, h4, hb⟩

/-- The first m changes of a block. -/
def ChIn (cur : Array Value) (f : Nat → Ch) (m : Nat) : Prop :=
  ∀ i, i < m → cur[i * 4]? = some (.string (f i).op) ∧ cur[i * 4 + 1]? = some (.string (f i).id) ∧ cur[i * 4 + 2]? = some (.string (f i).addr) ∧ cur[i * 4 + 3]? = some (.int .u64 (f i).inc)

def put4 (cur : Array Value) (i : Nat) (c : Ch) : Array Value :=
  (((cur.setIfInBounds (i * 4) (.string c.op)).setIfInBounds (i * 4 + 1) (.string c.id)).setIfInBounds (i * 4 + 2) (.string c.addr)).setIfInBounds (i * 4 + 3) (.int .u64 c.inc)
theorem put4_size (cur : Array Value) (i : Nat) (c : Ch) : (put4 cur i c).size = cur.size := by unfold put4; simp
theorem set_ne (cur : Array Value) (i j : Nat) (v : Value) (h : i ≠ j) : (cur.setIfInBounds i v)[j]? = cur[j]? := by
  rw [Array.getElem?_setIfInBounds]; simp [h]
theorem set_eq (cur : Array Value) (i : Nat) (v : Value) (h : i < cur.size) : (cur.setIfInBounds i v)[i]? = some v := by
  rw [Array.getElem?_setIfInBounds]; simp [h]
theorem ChIn.put {cur : Array Value} {f : Nat → Ch} {i : Nat} (h : ChIn cur f i) (hs : i * 4 + 3 < cur.size) : ChIn (put4 cur i (f i)) f (i + 1) := by
  intro j hj
  unfold put4
  rcases Nat.lt_or_ge j i with c | c
  · obtain ⟨h0, h1, h2, h3⟩ := h j c
    refine ⟨?_, ?_, ?_, ?_⟩
    · rw [set_ne _ _ _ _ (by omega), set_ne _ _ _ _ (by omega), set_ne _ _ _ _ (by omega), set_ne _ _ _ _ (by omega)]; exact h0
    · rw [set_ne _ _ _ _ (by omega), set_ne _ _ _ _ (by omega), set_ne _ _ _ _ (by omega), set_ne _ _ _ _ (by omega)]; exact h1
    · rw [set_ne _ _ _ _ (by omega), set_ne _ _ _ _ (by omega), set_ne _ _ _ _ (by omega), set_ne _ _ _ _ (by omega)]; exact h2
    · rw [set_ne _ _ _ _ (by omega), set_ne _ _ _ _ (by omega), set_ne _ _ _ _ (by omega), set_ne _ _ _ _ (by omega)]; exact h3
  · obtain rfl : j = i := by omega
    refine ⟨?_, ?_, ?_, ?_⟩
    · rw [set_ne _ _ _ _ (by omega), set_ne _ _ _ _ (by omega), set_ne _ _ _ _ (by omega), set_eq _ _ _ (by omega)]
    · rw [set_ne _ _ _ _ (by omega), set_ne _ _ _ _ (by omega), set_eq _ _ _ (by simp; omega)]
    · rw [set_ne _ _ _ _ (by omega), set_eq _ _ _ (by simp; omega)]
    · rw [set_eq _ _ _ (by simp; omega)]

theorem ChIn.row {w : World} {b : Nat} {cur : Array Value} {t : TypeId} {f : Nat → Ch} {n : Nat} (h : ChIn cur f n) (hb : Blk w b cur t) : Row w (some ⟨b, 0, none⟩) n f := by
  intro _
  refine ⟨b, 0, rfl, hb.lt, fun i hi => ?_⟩
  obtain ⟨h0, h1, h2, h3⟩ := h i hi
  rw [Nat.zero_add]
  exact ⟨hb.cellv h0, hb.cellv h1, hb.cellv h2, hb.cellv h3⟩

theorem info56 : (Try.prog.info? 56).map (fun i => (i.zero, i.size, i.bytes)) = some (some (.agg #[.string ⟨#[]⟩, .string ⟨#[]⟩, .string ⟨#[]⟩, .int .u64 0]), 4, 56) := by kernel_rfl

def SlPost (n : Nat) (f : Nat → Ch) (w : World) (e : Ending) (w' : World) : Prop := ∃ (a : Option Addr) (cap : Nat), e = .returned (.slice a n cap) ∧ Row w' a n f ∧ Below w.heap.size w w'

theorem put_world {w0 w : World} {g i : Nat} {cur : Array Value} {t : TypeId} (c : Ch) (h : Blk w g cur t) (hB : Below w0.heap.size w0 w) (hg : w0.heap.size ≤ g) :
    Blk ((((w.setCell ⟨g, i * 4, none⟩ (.string c.op)).setCell ⟨g, i * 4 + 1, none⟩ (.string c.id)).setCell ⟨g, i * 4 + 2, none⟩ (.string c.addr)).setCell ⟨g, i * 4 + 3, none⟩ (.int .u64 c.inc)) g (put4 cur i c) t
    ∧ Below w0.heap.size w0 ((((w.setCell ⟨g, i * 4, none⟩ (.string c.op)).setCell ⟨g, i * 4 + 1, none⟩ (.string c.id)).setCell ⟨g, i * 4 + 2, none⟩ (.string c.addr)).setCell ⟨g, i * 4 + 3, none⟩ (.int .u64 c.inc)) :=
  ⟨(((h.upd _ _).upd _ _).upd _ _).upd _ _, below_set (below_set (below_set (below_set hB _ _ hg) _ _ hg) _ _ hg) _ _ hg⟩

theorem eql_nil (p : Addr) (n c : Nat) (w : World) : (binOp .eql 22 (.slice (some p) n c) (.slice none 0 0)).run Try.prog w = .ok (.bool false) w := by
  have := Lib.run_eql_slice_nil (P := Try.prog) w 22 42 (some p) n c 0 0 Try.underlying22
  simpa using this
theorem eql_nil2 (w : World) (n c : Nat) : (binOp .eql 22 (.slice none n c) (.slice none 0 0)).run Try.prog w = .ok (.bool true) w := by
  have := Lib.run_eql_slice_nil (P := Try.prog) w 22 42 none n c 0 0 Try.underlying22
  simpa using this

theorem toChanges_c (a : Option Addr) (n cap : Nat) (f : Nat → Ch) (w : World) (h : Row w a n f) (hn : n ≤ 1048576) :
    Calls Try.prog 22 #[.slice a n cap] w fun e w' => SlPost n f w e w' := by
  cases ha : a with
  | none =>
    obtain rfl : n = 0 := by
      rcases Nat.eq_zero_or_pos n with c | c
      · exact c
      · obtain ⟨b, o, e, _⟩ := h c; rw [ha] at e; cases e
    subst ha
    have E := eql_nil2
    go_enter Try.func22, Try.ntmps22
    go_wp2
    go_ret
    exact ⟨none, 0, rfl, fun h => absurd h (by omega), Below.refl _ _⟩
  | some p =>
    subst ha
    have E := eql_nil p n cap
    obtain ⟨i0, hi0, hz0, hz1, hz2⟩ := info_parts info56
    go_enter Try.func22, Try.ntmps22
    go_wp2_with ((at_make; refine wpList_make_full _ rfl _ _ 46 rfl w.heap.size 56 i0 _ 4 Try.underlying46 hi0 hz0 hz1 _ _ _ _ n rfl rfl rfl rfl (by rw [hz2]; omega) (by unfold maxLen; omega) (Nat.le_refl _) ?_; intro w5 hown hgr))
    obtain ⟨cur0, hb0, _, _, hsz0, _, _⟩ := owns_blk hown
    have hB0 := below_grown (Below.refl w.heap.size w) hgr (Nat.le_refl _) (fun k e => by cases e)
    clear hown hgr E
    go_loopg [4] n (fun k y wr => ∃ (i : Nat) (cur : Array Value), y = .int .i64 i ∧ i + k = n ∧ cur.size = n * 4 ∧ ChIn cur f i ∧ Blk wr w.heap.size cur 56 ∧ Below w.heap.size w wr)
    case atStart => exact ⟨0, cur0, rfl, by omega, hsz0, fun i hi => absurd hi (by omega), hb0, hB0⟩
    case round =>
      clear hsz0 hb0 hB0
      obtain ⟨i, cur, rfl, hk, hsz, hC, hBk, hB⟩ := hrel
      have HC := hide hC
      clear hC
      by_cases hi : i < n
      case neg =>
        have hi' : ¬ (i : Int) < n := by omega
        go_wp2
        go_ret
        obtain rfl : i = n := by omega
        exact ⟨some ⟨w.heap.size, 0, none⟩, i, rfl, ChIn.row HC.out hBk, hB⟩
      case pos =>
        have hi' : (i : Int) < n := by omega
        have hi0 : (0 : Int) ≤ i := by omega
        obtain ⟨b, o, ep, hb, hc⟩ := h.below hB (by omega)
        obtain rfl : p = ⟨b, o, none⟩ := by injection ep
        obtain ⟨p0, p1, p2, p3⟩ := hc i hi
        have HB := hide hB
        have HBK := hide hBk
        have HZ := hide hsz
        obtain ⟨y0, k0⟩ : ∃ y, wr.cell? ⟨w.heap.size, i * 4, none⟩ = some y := ⟨cur[i * 4]'(by omega), hBk.cellv (by rw [Array.getElem?_eq_getElem])⟩
        obtain ⟨y1, k1⟩ : ∃ y, wr.cell? ⟨w.heap.size, i * 4 + 1, none⟩ = some y := ⟨cur[i * 4 + 1]'(by omega), hBk.cellv (by rw [Array.getElem?_eq_getElem])⟩
        obtain ⟨y2, k2⟩ : ∃ y, wr.cell? ⟨w.heap.size, i * 4 + 2, none⟩ = some y := ⟨cur[i * 4 + 2]'(by omega), hBk.cellv (by rw [Array.getElem?_eq_getElem])⟩
        obtain ⟨y3, k3⟩ : ∃ y, wr.cell? ⟨w.heap.size, i * 4 + 3, none⟩ = some y := ⟨cur[i * 4 + 3]'(by omega), hBk.cellv (by rw [Array.getElem?_eq_getElem])⟩
        have hf : ∀ o, wr.frozen? ⟨w.heap.size, o, none⟩ = false := hBk.frozen
        have hbl : b < w.heap.size := by
          obtain ⟨b', o', e', hb', _⟩ := h (by omega)
          injection e' with e'; injection e' with e1; omega
        have hbne : b ≠ w.heap.size := by omega
        clear hc h hB hBk hsz ep
        go_wp2_with fail
        go_region
        go_wp2_with fail
        have PW := put_world (i := i) (f i) HBK.out HB.out (Nat.le_refl _)
        go_roundg (n - (i + 1))
        case measure => omega
        case rel =>
          have := HZ.out
          exact ⟨i + 1, put4 cur i (f i), by simp, by omega, by rw [put4_size]; exact HZ.out, ChIn.put HC.out (by omega), PW.1, ⟨PW.2.os, PW.2.tape, PW.2.output, PW.2.size, PW.2.block⟩⟩
end Go.Proofs.Qxb6605926a
