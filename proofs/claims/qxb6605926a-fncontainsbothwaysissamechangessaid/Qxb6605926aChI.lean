/-
  sort.Search (31) over its closure find$1 (32); find (27).
-/
import Derived.Test.Qxb6605926aChO
namespace Go.Proofs.Qxb6605926a
open Go.RowKit

/-- r parts the places: no before it, yes from it on. -/
def Cut (p : Nat → Bool) (n r : Nat) : Prop := r ≤ n ∧ (∀ t, t < r → p t = false) ∧ ∀ t, r ≤ t → t < n → p t = true
def Mono (p : Nat → Bool) (n : Nat) : Prop := ∀ a b, a ≤ b → b < n → p a = true → p b = true
def Parts (p : Nat → Bool) (n lo hi : Nat) : Prop := (∀ t, t < lo → p t = false) ∧ ∀ t, hi ≤ t → t < n → p t = true

theorem search_c (u v : Value) (n : Nat) (p : Nat → Bool) (w : World) (hn : n ≤ 1048576)
    (hf : ∀ (W : World) (i : Nat), Below w.heap.size w W → i < n → Calls Try.prog 32 #[.int .i64 i, u, v] W fun e w' => e = .returned (.bool (p i)) ∧ Below W.heap.size W w')
    (hm : Mono p n) :
    Calls Try.prog 31 #[.int .i64 n, .func (.func 32) #[] #[u, v]] w fun e w' => ∃ r : Nat, e = .returned (.int .i64 r) ∧ Cut p n r ∧ Below w.heap.size w w' := by
  have HM := hide hm
  clear hm
  go_enter Try.func31, Try.ntmps31
  go_wp2
  go_loopg [5, 6] n (fun k s5 s6 wr => ∃ lo hi : Nat, s5 = .int .i64 lo ∧ s6 = .int .i64 hi ∧ lo ≤ hi ∧ hi ≤ n ∧ hi - lo ≤ k ∧ Parts p n lo hi ∧ Below w.heap.size w wr)
  case atStart => exact ⟨0, n, rfl, rfl, by omega, by omega, by omega, ⟨fun t ht => absurd ht (by omega), fun t h1 h2 => absurd h2 (by omega)⟩, Below.refl _ _⟩
  case round =>
    obtain ⟨lo, hi, rfl, rfl, hlh, hin, hk, hP, hB⟩ := hrel
    have HP := hide hP
    clear hP
    by_cases hlt : lo < hi
    case neg =>
      have hlt' : ¬ (lo : Int) < hi := by omega
      go_wp2
      go_ret
      exact ⟨lo, rfl, ⟨by omega, HP.out.1, fun t ht => HP.out.2 t (by omega)⟩, hB⟩
    case pos =>
      have hlt' : (lo : Int) < hi := by omega
      have hc := hf wr ((lo + hi) / 2) hB (by omega)
      rw [show (((lo + hi) / 2 : Nat) : Int) = ((lo : Int) + (hi : Int)) / 2 by omega] at hc
      cases hp : p ((lo + hi) / 2) <;> rw [hp] at hc
      case false =>
        have HQ := hide hp
        clear hp
        go_wp2_with fail
        refine hc.mono ?_
        rintro e w' ⟨rfl, hB2⟩
        go_wp2_with fail
        go_roundg (hi - ((lo + hi) / 2 + 1))
        case measure => omega
        case rel =>
          refine ⟨(lo + hi) / 2 + 1, hi, by rw [show ((lo : Int) + (hi : Int)) / 2 + 1 = (((lo + hi) / 2 + 1 : Nat) : Int) by omega], rfl, by omega, hin, Nat.le_refl _, ⟨fun t ht => ?_, HP.out.2⟩, gr_trans hB hB2⟩
          cases h : p t with
          | false => rfl
          | true => have := HM.out t ((lo + hi) / 2) (by omega) (by omega) h; rw [HQ.out] at this; cases this
      case true =>
        have HQ := hide hp
        clear hp
        go_wp2_with fail
        refine hc.mono ?_
        rintro e w' ⟨rfl, hB2⟩
        go_wp2_with fail
        go_roundg ((lo + hi) / 2 - lo)
        case measure => omega
        case rel =>
          exact ⟨lo, (lo + hi) / 2, rfl, by rw [show ((lo : Int) + (hi : Int)) / 2 = (((lo + hi) / 2 : Nat) : Int) by omega], by omega, by omega, Nat.le_refl _, ⟨HP.out.1, fun t ht htn => HM.out ((lo + hi) / 2) t ht htn HQ.out⟩, gr_trans hB hB2⟩

/-- A slice in a block of its own. -/
def SBox (w : World) (b : Nat) (a : Option Addr) (n cap : Nat) : Prop := w.cell? ⟨b, 0, none⟩ = some (.slice a n cap)

theorem keepF {w w' : World} {b0 b o c0 : Nat} {x0 x1 x2 x3 x4 y1 y2 y3 y4 : Value} (hb0 : b0 < w.heap.size) (hb : b < w.heap.size) (hc : c0 < w.heap.size)
    (h0 : w.cell? ⟨b0, 0, none⟩ = some x0)
    (h1 : w.cell? ⟨b, o, none⟩ = some x1) (h2 : w.cell? ⟨b, o + 1, none⟩ = some x2) (h3 : w.cell? ⟨b, o + 2, none⟩ = some x3) (h4 : w.cell? ⟨b, o + 3, none⟩ = some x4)
    (k1 : w.cell? ⟨c0, 0, none⟩ = some y1) (k2 : w.cell? ⟨c0, 1, none⟩ = some y2) (k3 : w.cell? ⟨c0, 2, none⟩ = some y3) (k4 : w.cell? ⟨c0, 3, none⟩ = some y4) (g : Below w.heap.size w w') :
    w'.cell? ⟨b0, 0, none⟩ = some x0 ∧ w'.cell? ⟨b, o, none⟩ = some x1 ∧ w'.cell? ⟨b, o + 1, none⟩ = some x2 ∧ w'.cell? ⟨b, o + 2, none⟩ = some x3 ∧ w'.cell? ⟨b, o + 3, none⟩ = some x4 ∧
    w'.cell? ⟨c0, 0, none⟩ = some y1 ∧ w'.cell? ⟨c0, 1, none⟩ = some y2 ∧ w'.cell? ⟨c0, 2, none⟩ = some y3 ∧ w'.cell? ⟨c0, 3, none⟩ = some y4 := by
  rw [cell_below g hb0, cell_below g hb, cell_below g hb, cell_below g hb, cell_below g hb, cell_below g hc, cell_below g hc, cell_below g hc, cell_below g hc]
  exact ⟨h0, h1, h2, h3, h4, k1, k2, k3, k4⟩

theorem find1_c (b0 c0 : Nat) (a : Option Addr) (n cap : Nat) (f : Nat → Ch) (c : Ch) (i : Nat) (w : World) (hi : i < n)
    (hs : SBox w b0 a n cap) (h : Row w a n f) (hx : Box w c0 c) :
    Calls Try.prog 32 #[.int .i64 i, .pointer (some ⟨b0, 0, none⟩), .pointer (some ⟨c0, 0, none⟩)] w fun e w' => e = .returned (.bool (decide (0 ≤ (f i).cmp c))) ∧ Below w.heap.size w w' := by
  have L : ∀ W, Calls Try.prog 33 #[.agg #[.string (f i).op, .string (f i).id, .string (f i).addr, .int .u64 (f i).inc], .agg #[.string c.op, .string c.id, .string c.addr, .int .u64 c.inc]] W fun e w' => e = .returned (.int .i64 ((f i).cmp c)) ∧ Below W.heap.size W w' := fun W => compare_c (f i) c W
  obtain ⟨b, o, rfl, hb, hc⟩ := h (by omega)
  obtain ⟨p0, p1, p2, p3⟩ := hc i hi
  have hc0 := hx.lt
  obtain ⟨x0, x1, x2, x3⟩ := hx
  have hb0 : b0 < w.heap.size := World.block_lt_of_cell? w _ hs
  unfold SBox at hs
  clear hc h
  have hi' : (i : Int) < n := by omega
  have hi0 : (0 : Int) ≤ i := by omega
  generalize (f i).cmp c = z at *
  go_enter Try.func32, Try.ntmps32
  go_wp2_with fail
  go_region_held3 (fun w' => w'.cell? ⟨b0, 0, none⟩ = some (.slice (some ⟨b, o, none⟩) n cap) ∧ w'.cell? ⟨b, o + i * 4, none⟩ = some (.string (f i).op) ∧ w'.cell? ⟨b, o + i * 4 + 1, none⟩ = some (.string (f i).id) ∧ w'.cell? ⟨b, o + i * 4 + 2, none⟩ = some (.string (f i).addr) ∧ w'.cell? ⟨b, o + i * 4 + 3, none⟩ = some (.int .u64 (f i).inc) ∧ w'.cell? ⟨c0, 0, none⟩ = some (.string c.op) ∧ w'.cell? ⟨c0, 1, none⟩ = some (.string c.id) ∧ w'.cell? ⟨c0, 2, none⟩ = some (.string c.addr) ∧ w'.cell? ⟨c0, 3, none⟩ = some (.int .u64 c.inc))
    (first | exact keepF hb0 hb hc0 hs p0 p1 p2 p3 x0 x1 x2 x3 (gr_drew (Below.refl _ _)) | exact keepF hb0 hb hc0 hs p0 p1 p2 p3 x0 x1 x2 x3 (gr_drew hnew))
    ((go_at_call 33; refine (L _).mono ?_; rintro e w' ⟨rfl, hnew⟩))
  go_wp2_with fail
  go_ret
  exact ⟨rfl, gr_drew hnew⟩

theorem mono_of_asc {f : Nat → Ch} {n : Nat} (h : Asc f n) (c : Ch) : Mono (fun i => decide (0 ≤ (f i).cmp c)) n := by
  intro a b hab hb ha
  simp only [decide_eq_true_eq] at *
  rcases Nat.lt_or_ge a b with q | q
  · have := h.lt b a q hb
    rcases Int.lt_or_le ((f b).cmp c) 0 with r | r
    · have := ordCh.tr _ _ _ this r
      unfold Ch.lt at this; omega
    · exact r
  · obtain rfl : a = b := by omega
    exact ha

theorem cut_inL {f : Nat → Ch} {n r : Nat} (h : Asc f n) {c : Ch} (hc : Cut (fun i => decide (0 ≤ (f i).cmp c)) n r) : InL n f c ↔ r < n ∧ f r = c := by
  constructor
  · rintro ⟨j, hj, e⟩
    have h1 : r ≤ j := by
      rcases Nat.lt_or_ge j r with q | q
      · have := hc.2.1 j q
        simp only [e, (cpCh.eq c c).2 rfl] at this; simp at this
      · exact q
    refine ⟨by omega, ?_⟩
    rcases Nat.lt_or_ge r j with q | q
    · have := h.lt j r q hj
      rw [e] at this
      have k := hc.2.2 r (Nat.le_refl _) (by omega)
      unfold Ch.lt at this
      simp only [decide_eq_true_eq] at k; omega
    · obtain rfl : r = j := by omega
      exact e
  · rintro ⟨h1, h2⟩; exact ⟨r, h1, h2⟩

theorem sbox_new (w : World) (a : Option Addr) (n cap : Nat) (t : TypeId) : SBox (w.alloc (.cells #[.slice a n cap] t)) w.heap.size a n cap := by
  unfold SBox
  rw [World.cell?_alloc_at _ _ _ _ (by simp)]; rfl
theorem SBox.lt {w : World} {b : Nat} {a : Option Addr} {n cap : Nat} (h : SBox w b a n cap) : b < w.heap.size := World.block_lt_of_cell? w _ h
theorem SBox.below {w w' : World} {b B : Nat} {a : Option Addr} {n cap : Nat} (h : SBox w b a n cap) (g : Below B w w') (hb : b < B) : SBox w' b a n cap := by
  unfold SBox at *
  rw [cell_below g hb]; exact h

theorem find_c (a : Option Addr) (n cap : Nat) (f : Nat → Ch) (c : Ch) (w : World) (h : Row w a n f) (hs : Asc f n) (hn : n ≤ 1048576) :
    Calls Try.prog 27 #[.slice a n cap, .agg #[.string c.op, .string c.id, .string c.addr, .int .u64 c.inc]] w fun e w' => BPost (InL n f c) w e w' := by
  have g1 := below_alloc w (.cells #[.slice a n cap] 46)
  have s1 := sbox_new w a n cap 46
  have g2 := below_alloc (w.alloc (.cells #[.slice a n cap] 46)) (.cells #[.string c.op, .string c.id, .string c.addr, .int .u64 c.inc] 56)
  have s2 := s1.below g2 s1.lt
  have x2 := box_new (w.alloc (.cells #[.slice a n cap] 46)) c 56
  have g := gr_trans g1 g2
  clear s1 g1 g2
  go_enter Try.func27, Try.ntmps27
  go_wp2_with fail
  have FC : ∀ (W' : World) (i : Nat), Below (w.heap.size + 1 + 1) ((w.alloc (.cells #[.slice a n cap] 46)).alloc (.cells #[.string c.op, .string c.id, .string c.addr, .int .u64 c.inc] 56)) W' → i < n → Calls Try.prog 32 #[.int .i64 i, .pointer (some ⟨w.heap.size, 0, none⟩), .pointer (some ⟨w.heap.size + 1, 0, none⟩)] W' fun e w' => e = .returned (.bool (decide (0 ≤ (f i).cmp c))) ∧ Below W'.heap.size W' w' := by
    intro W' i hB hi
    have hB' : Below ((w.alloc (.cells #[.slice a n cap] 46)).alloc (.cells #[.string c.op, .string c.id, .string c.addr, .int .u64 c.inc] 56)).heap.size ((w.alloc (.cells #[.slice a n cap] 46)).alloc (.cells #[.string c.op, .string c.id, .string c.addr, .int .u64 c.inc] 56)) W' := by simpa using hB
    refine find1_c w.heap.size (w.heap.size + 1) a n cap f c i W' hi (s2.below hB' s2.lt) (h.below (gr_trans g hB')) ?_
    have := x2.below hB' x2.lt
    simpa using this
  refine (search_c _ _ n (fun i => decide (0 ≤ (f i).cmp c)) _ hn ?_ (mono_of_asc hs c)).mono ?_
  · simpa using FC
  rintro e w' ⟨r, rfl, hr, hB⟩
  have hR := h.below (gr_trans g hB)
  have hS := s2.below hB s2.lt
  have hX := x2.below hB x2.lt
  rw [show (w.alloc (Obj.cells #[Value.slice a n cap] 46)).heap.size = w.heap.size + 1 by simp] at hX
  have hG := hide (gr_trans g hB)
  have HR := hide (cut_inL hs hr)
  have hrn := hr.1
  clear FC hB g x2 s2 h hs hr
  by_cases hlt : r < n
  case neg =>
    have hlt' : ¬ (r : Int) < n := by omega
    unfold SBox at hS
    clear hR hX
    go_wp2_with fail
    go_quiet (fail)
    go_wp2_with fail
    go_ret
    exact ⟨false, rfl, ⟨(fun h => by cases h), fun h => absurd (HR.out.1 h).1 hlt⟩, gr_drewN hG.out⟩
  case pos =>
    have hlt' : (r : Int) < n := by omega
    have hr0 : (0 : Int) ≤ r := by omega
    obtain ⟨b, o, rfl, hb, hc⟩ := hR (by omega)
    obtain ⟨p0, p1, p2, p3⟩ := hc r hlt
    obtain ⟨x0, x1, x2, x3⟩ := hX
    unfold SBox at hS
    clear hc hR
    have G : ∀ W : World, (eqGuard .eql 56 (.tmp 18) (.tmp 19) (.agg #[.string (f r).op, .string (f r).id, .string (f r).addr, .int .u64 (f r).inc]) (.agg #[.string c.op, .string c.id, .string c.addr, .int .u64 c.inc])).run Try.prog W = .ok () W := fun W => run_eqGuard_agg W _ _ _ _ _ _ eg56
    have E := run_eql56 (f r) c
    cases hs : (f r).same c
    case false =>
      go_wp2_with fail
      go_quiet (fail)
      go_wp2_with fail
      go_ret
      refine ⟨false, rfl, ⟨(fun h => by cases h), fun h => ?_⟩, gr_drewN hG.out⟩
      have := (Ch.same_iff _ _).2 (HR.out.1 h).2
      rw [hs] at this; exact this
    case true =>
      go_wp2_with fail
      go_quiet (fail)
      go_wp2_with fail
      go_ret
      exact ⟨true, rfl, ⟨fun _ => HR.out.2 ⟨hlt, (Ch.same_iff _ _).1 hs⟩, fun _ => rfl⟩, gr_drewN hG.out⟩
end Go.Proofs.Qxb6605926a
