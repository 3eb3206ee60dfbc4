/-
  A lock's queue as it is filled by ZZlockEnqueue, and as it stands when it is full.
-/
import Derived.Test.Qxb6613305aLeave
namespace Go.Proofs.Qxb6613305a
open Go.RowKit

/-- Two steps, the second one's blocks being old ones of S or new. -/
theorem Ex.transLt {S T : Nat → Prop} {a b c : World} (h : Ex S a b) (k : Ex T b c) (hs : ∀ i, i < a.heap.size → T i → S i) : Ex S a c :=
  ⟨k.os.trans h.os, k.tape.trans h.tape, k.output.trans h.output, Nat.le_trans h.size k.size, fun i hi hn => (k.block i (Nat.lt_of_lt_of_le hi h.size) (fun t => hn (hs i hi t))).trans (h.block i hi hn)⟩

/-- The list of the nodes' cells, node i numbered i and leading to C i. -/
def NodesL (xs : List Value) (C : Nat → Option Addr) (m : Nat) : Prop :=
  ∀ i, i < m → xs[i * 5]? = some (.bool false) ∧ xs[i * 5 + 1]? = some (.float .f64 0) ∧ xs[i * 5 + 2]? = some (.int .u64 0) ∧ xs[i * 5 + 3]? = some (.int .u64 (i : Nat)) ∧ xs[i * 5 + 4]? = some (.pointer (C i))

theorem NodesL.snoc {xs : List Value} {C : Nat → Option Addr} {m : Nat} (h : NodesL xs C m) (hl : xs.length = m * 5) (p : Option Addr) :
    NodesL (xs ++ nodeV (m : Nat) p) (fun i => if i = m then p else C i) (m + 1) := by
  intro i hi
  by_cases e : i = m
  · subst e
    have r : ∀ k, (xs ++ nodeV (i : Nat) p)[i * 5 + k]? = (nodeV (i : Nat) p)[k]? := fun k => by
      rw [List.getElem?_append_right (by omega), hl, Nat.add_sub_cancel_left]
    have r0 := r 0
    rw [Nat.add_zero] at r0
    rw [r0, r 1, r 2, r 3, r 4]
    exact ⟨rfl, rfl, rfl, rfl, by simp [nodeV]⟩
  · have g := h i (by omega)
    have l : ∀ k, k < 5 → (xs ++ nodeV (m : Nat) p)[i * 5 + k]? = xs[i * 5 + k]? := fun k hk => List.getElem?_append_left (by omega)
    have l0 := l 0 (by omega)
    rw [Nat.add_zero] at l0
    rw [l0, l 1 (by omega), l 2 (by omega), l 3 (by omega), l 4 (by omega)]
    simpa [e] using g

theorem take_get {cur : Array Value} {n : Nat} {xs : List Value} (h : cur.toList.take n = xs) (j : Nat) (hj : j < n) : cur[j]? = xs[j]? := by
  rw [← h, List.getElem?_take_of_lt hj, Array.getElem?_toList]

theorem NodesL.toIn {cur : Array Value} {xs : List Value} {C : Nat → Option Addr} {m : Nat} (h : NodesL xs C m) (ht : cur.toList.take (m * 5) = xs) : NodesIn cur C (fun j => j) m := by
  intro i hi
  have g := h i hi
  rw [take_get ht _ (by omega), take_get ht _ (by omega), take_get ht _ (by omega), take_get ht _ (by omega), take_get ht _ (by omega)]
  exact g

/-- A cohort of the queue: its number, its lock, its slot. -/
def Coh (w : World) (b bl i : Nat) : Prop := ∃ cc : Array Value, Blk w b cc 133 ∧ cc[1]? = some (.int .i64 i) ∧ cc[9]? = some (.pointer (some ⟨bl, 0, none⟩)) ∧ cc[10]? = some (.int .i64 i)

theorem Coh.ex {S : Nat → Prop} {w w' : World} {b bl i : Nat} (h : Coh w b bl i) (e : Ex S w w') (hn : ¬ S b) : Coh w' b bl i := by
  obtain ⟨cc, h0, h1⟩ := h
  exact ⟨cc, h0.ex e hn, h1⟩

/-- While it is filled: n cohorts stand in it. -/
structure Filling (w : World) (lo bl n : Nat) (pg f : Int) (a : Option Addr) (c : Nat) (xs : List Value) (cb : Nat → Nat) : Prop where
  lock : Blk w bl #[.int .i64 pg, .slice none 0 0, .slice a n c, .nilFunc, .int .u32 f] 120
  own : w.ownsRow lo 135 5 (.slice a n c) n xs
  list : NodesL xs (fun i => some ⟨cb i, 0, none⟩) n
  coh : ∀ i, i < n → Coh w (cb i) bl i ∧ lo ≤ cb i

theorem Filling.start {w : World} {lo bl : Nat} {pg f : Int} (h : Blk w bl #[.int .i64 pg, .slice none 0 0, .slice none 0 0, .nilFunc, .int .u32 f] 120) : Filling w lo bl 0 pg f none 0 [] (fun _ => 0) :=
  ⟨h, ⟨rfl, Or.inl ⟨rfl, rfl⟩⟩, fun i hi => by omega, fun i hi => by omega⟩

/-- One more. -/
theorem Filling.step {w w1 w' : World} {lo bl n : Nat} {pg f : Int} {a : Option Addr} {c : Nat} {xs : List Value} {cb : Nat → Nat} {cs : Array Value} (F : Filling w lo bl n pg f a c xs cb) (hlo : lo ≤ w.heap.size)
    (hw1 : w.alloc (.cells cs 133) = w1) (h1 : cs[1]? = some (.int .i64 n)) (h9 : cs[9]? = some (.pointer none)) (h10 : cs[10]? = some (.int .i64 0)) (g cap : Nat)
    (hL : Blk w' bl #[.int .i64 pg, .slice none 0 0, .slice (some ⟨g, 0, none⟩) (n + 1) cap, .nilFunc, .int .u32 f] 120)
    (hown : w'.ownsRow lo 135 5 (.slice (some ⟨g, 0, none⟩) (n + 1) cap) (n + 1) (xs ++ nodeV (n : Nat) (some ⟨w.heap.size, 0, none⟩)))
    (hC : Blk w' w.heap.size ((cs.setIfInBounds 9 (.pointer (some ⟨bl, 0, none⟩))).setIfInBounds 10 (.int .i64 n)) 133)
    (hex : Ex (fun k => k = bl ∨ k = w.heap.size ∨ some k = (Value.slice a n c).ownBlock) w1 w') :
    Filling w' lo bl (n + 1) pg f (some ⟨g, 0, none⟩) cap (xs ++ nodeV (n : Nat) (some ⟨w.heap.size, 0, none⟩)) (fun i => if i = n then w.heap.size else cb i) := by
  refine ⟨hL, hown, ?_, ?_⟩
  · have e := F.list.snoc F.own.1 (some ⟨w.heap.size, 0, none⟩)
    intro i hi
    have := e i hi
    by_cases c : i = n
    · simpa [c] using this
    · simpa [c] using this
  · intro i hi
    by_cases e : i = n
    · subst e
      refine ⟨?_, by simpa using hlo⟩
      refine ⟨_, by simpa using hC, ?_, ?_, ?_⟩
      · rw [set_ne _ _ _ _ (by omega), set_ne _ _ _ _ (by omega)]; exact h1
      · rw [set_ne _ _ _ _ (by omega)]
        refine set_eq _ _ _ ?_
        rcases Nat.lt_or_ge 9 cs.size with c | c
        · exact c
        · rw [Array.getElem?_eq_none c] at h9; cases h9
      · refine set_eq _ _ _ ?_
        rw [Array.size_setIfInBounds]
        rcases Nat.lt_or_ge 10 cs.size with c | c
        · exact c
        · rw [Array.getElem?_eq_none c] at h10; cases h10
    · have k := F.coh i (by omega)
      simp only [if_neg e]
      refine ⟨?_, k.2⟩
      obtain ⟨cc, hb, hr⟩ := k.1
      subst hw1
      refine ⟨cc, (hb.alloc _).ex hex ?_, hr⟩
      rintro (x | x | x)
      · exact hb.ne_type F.lock (by decide) x
      · have := hb.lt; omega
      · exact owns_ne F.own hb (by decide) x.symm

/-- A lock with its n cohorts, its node array at g and its cohorts' blocks between lo and hi. -/
structure Filled (w : World) (lo hi bl n g cap : Nat) (pg f : Int) (cb : Nat → Nat) (cur : Array Value) : Prop where
  lock : Blk w bl #[.int .i64 pg, .slice none 0 0, .slice (some ⟨g, 0, none⟩) n cap, .nilFunc, .int .u32 f] 120
  node : Blk w g cur 135
  ncap : n ≤ cap
  csz : cur.size = cap * 5
  nodes : NodesIn cur (fun i => some ⟨cb i, 0, none⟩) (fun j => j) n
  coh : ∀ i, i < n → Coh w (cb i) bl i
  row : lo ≤ g ∧ g < hi
  blks : ∀ i, i < n → lo ≤ cb i ∧ cb i < hi

theorem Filling.full {w : World} {lo bl n : Nat} {pg f : Int} {a : Option Addr} {c : Nat} {xs : List Value} {cb : Nat → Nat} (F : Filling w lo bl n pg f a c xs cb) (hn : 0 < n) :
    ∃ g cap cur, Filled w lo w.heap.size bl n g cap pg f cb cur := by
  obtain ⟨g, cap, hv, hlo, hg⟩ := F.own.form hn
  injection hv with e1 e2 e3
  subst e1; subst e3
  obtain ⟨cur, hB, h1, _, h3, h4, _⟩ := owns_blk F.own
  refine ⟨g, c, cur, F.lock, hB, h1, h3, F.list.toIn h4, fun i hi => (F.coh i hi).1, ⟨hlo, hg⟩, fun i hi => ⟨(F.coh i hi).2, ?_⟩⟩
  obtain ⟨cc, hb, _⟩ := (F.coh i hi).1
  exact hb.lt

theorem Filled.ex {S : Nat → Prop} {w w' : World} {lo hi bl n g cap : Nat} {pg f : Int} {cb : Nat → Nat} {cur : Array Value} (F : Filled w lo hi bl n g cap pg f cb cur) (e : Ex S w w') (hb : ¬ S bl) (hr : ∀ k, lo ≤ k → k < hi → ¬ S k) : Filled w' lo hi bl n g cap pg f cb cur :=
  ⟨F.lock.ex e hb, F.node.ex e (hr g F.row.1 F.row.2), F.ncap, F.csz, F.nodes, fun i hi => (F.coh i hi).ex e (hr _ (F.blks i hi).1 (F.blks i hi).2), F.row, F.blks⟩

end Go.Proofs.Qxb6613305a
