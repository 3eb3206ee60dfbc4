/-
  Memory, block by block: 'Blk w b cs t': block b of the world w holds the cells cs, of element type t, none of them frozen. 'Ex S w w'': w' is w but for the blocks in S and new ones. And the array of heap nodes (five cells a node).
-/
import Derived.WalkKit
import Derived.Deep.AppendLies
namespace Go.Proofs.Qxb6613305a
open Go.RowKit

def Blk (w : World) (b : Nat) (cs : Array Value) (t : TypeId) : Prop := w.heap[b]? = some (.cells cs t (0, 0))

theorem Blk.cell {w : World} {b : Nat} {cs : Array Value} {t : TypeId} (h : Blk w b cs t) (o : Nat) : w.cell? ⟨b, o, none⟩ = cs[o]? := by
  unfold Blk at h
  simp [World.cell?, h]
theorem Blk.cellv {w : World} {b : Nat} {cs : Array Value} {t : TypeId} (h : Blk w b cs t) {o : Nat} {v : Value} (hv : cs[o]? = some v) : w.cell? ⟨b, o, none⟩ = some v := (h.cell o).trans hv
theorem Blk.frozen {w : World} {b : Nat} {cs : Array Value} {t : TypeId} (h : Blk w b cs t) (o : Nat) : w.frozen? ⟨b, o, none⟩ = false := by
  unfold Blk at h
  simp [World.frozen?, h]
theorem Blk.lt {w : World} {b : Nat} {cs : Array Value} {t : TypeId} (h : Blk w b cs t) : b < w.heap.size := by
  rcases Nat.lt_or_ge b w.heap.size with hl | hl
  · exact hl
  · unfold Blk at h; rw [Array.getElem?_eq_none hl] at h; cases h
theorem Blk.set {w : World} {b : Nat} {cs : Array Value} {t : TypeId} (h : Blk w b cs t) (o : Nat) (v : Value) : Blk (w.setCell ⟨b, o, none⟩ v) b (cs.setIfInBounds o v) t := by
  unfold Blk at *
  simp [World.setCell, Array.getElem?_modify, h]
theorem Blk.set_ne {w : World} {b : Nat} {cs : Array Value} {t : TypeId} (h : Blk w b cs t) {a : Addr} (v : Value) (hne : b ≠ a.block) : Blk (w.setCell a v) b cs t := by
  unfold Blk at *
  rw [Below.heap_setCell w a v b hne]; exact h
theorem Blk.alloc {w : World} {b : Nat} {cs : Array Value} {t : TypeId} (h : Blk w b cs t) (ob : Obj) : Blk (w.alloc ob) b cs t := by
  have hl := h.lt
  unfold Blk at *
  rw [Below.heap_alloc w ob b hl]; exact h
theorem Blk.drew {w : World} {b : Nat} {cs : Array Value} {t : TypeId} (h : Blk w b cs t) : Blk w.drew b cs t := h
theorem Blk.new (w : World) (cs : Array Value) (t : TypeId) : Blk (w.alloc (.cells cs t)) w.heap.size cs t := by
  unfold Blk
  show (w.heap.push _)[w.heap.size]? = _
  simp
theorem Blk.inj {w : World} {b : Nat} {cs cs' : Array Value} {t t' : TypeId} (h : Blk w b cs t) (h' : Blk w b cs' t') : cs = cs' ∧ t = t' := by
  unfold Blk at h h'
  rw [h] at h'
  injection h' with h'
  injection h' with h1 h2 h3
  exact ⟨h1, h2⟩
theorem Blk.ne_type {w : World} {b c : Nat} {cs cs' : Array Value} {t t' : TypeId} (h : Blk w b cs t) (h' : Blk w c cs' t') (hn : t ≠ t') : b ≠ c := by
  intro e; subst e; exact hn (h.inj h').2

structure Ex (S : Nat → Prop) (w w' : World) : Prop where
  os : w'.os = w.os
  tape : w'.tape = w.tape
  output : w'.output = w.output
  size : w.heap.size ≤ w'.heap.size
  block : ∀ k, k < w.heap.size → ¬ S k → w'.heap[k]? = w.heap[k]?

theorem Ex.refl (S : Nat → Prop) (w : World) : Ex S w w := ⟨rfl, rfl, rfl, Nat.le_refl _, fun _ _ _ => rfl⟩
theorem Ex.trans {S : Nat → Prop} {a b c : World} (h : Ex S a b) (k : Ex S b c) : Ex S a c :=
  ⟨k.os.trans h.os, k.tape.trans h.tape, k.output.trans h.output, Nat.le_trans h.size k.size, fun i hi hs => (k.block i (Nat.lt_of_lt_of_le hi h.size) hs).trans (h.block i hi hs)⟩
theorem Ex.mono {S T : Nat → Prop} {w w' : World} (h : Ex S w w') (hs : ∀ k, S k → T k) : Ex T w w' := ⟨h.os, h.tape, h.output, h.size, fun k hk hn => h.block k hk (fun s => hn (hs k s))⟩
/-- What lies behind the old heap's end counts as new. -/
theorem Ex.monoLt {S T : Nat → Prop} {w w' : World} (h : Ex S w w') (hs : ∀ k, k < w.heap.size → S k → T k) : Ex T w w' := ⟨h.os, h.tape, h.output, h.size, fun k hk hn => h.block k hk (fun s => hn (hs k hk s))⟩
theorem Ex.drew {S : Nat → Prop} {a w : World} (h : Ex S a w) : Ex S a w.drew := ⟨h.os, h.tape, h.output, h.size, h.block⟩
theorem Ex.alloc {S : Nat → Prop} {a w : World} (h : Ex S a w) (ob : Obj) : Ex S a (w.alloc ob) :=
  h.trans ⟨rfl, rfl, rfl, by simp, fun k hk _ => Below.heap_alloc _ _ _ hk⟩
theorem Ex.set {S : Nat → Prop} {a w : World} (h : Ex S a w) (p : Addr) (v : Value) (hp : S p.block) : Ex S a (w.setCell p v) :=
  h.trans ⟨rfl, rfl, rfl, by simp [World.setCell], fun k _ hn => Below.heap_setCell _ _ _ _ (fun e => hn (e ▸ hp))⟩
/-- A store into a block that was not there. -/
theorem Ex.setNew {S : Nat → Prop} {a w : World} (h : Ex S a w) (p : Addr) (v : Value) (hp : a.heap.size ≤ p.block) : Ex S a (w.setCell p v) :=
  ⟨h.os, h.tape, h.output, by simpa [World.setCell] using h.size, fun k hk hn => (Below.heap_setCell _ _ _ _ (by omega)).trans (h.block k hk hn)⟩
theorem Ex.grown {S : Nat → Prop} {a w w' : World} {row : Option Nat} (h : Ex S a w) (hg : w.grownBy w' row) (hr : ∀ k, row = some k → S k ∨ a.heap.size ≤ k) : Ex S a w' :=
  ⟨hg.os.trans h.os, hg.tape.trans h.tape, hg.output.trans h.output, Nat.le_trans h.size hg.size, fun k hk hn => (hg.block k (Nat.lt_of_lt_of_le hk h.size) (fun e => by
    rcases hr k e.symm with c | c
    · exact hn c
    · omega)).trans (h.block k hk hn)⟩
theorem Ex.below {S : Nat → Prop} {B : Nat} {w w' : World} (h : Ex S w w') (hB : B ≤ w.heap.size) (hs : ∀ k, k < B → ¬ S k) : Below B w w' :=
  ⟨h.os, h.tape, h.output, h.size, fun k hk => h.block k (by omega) (hs k hk)⟩
theorem Blk.ex {S : Nat → Prop} {w w' : World} {b : Nat} {cs : Array Value} {t : TypeId} (h : Blk w b cs t) (e : Ex S w w') (hn : ¬ S b) : Blk w' b cs t := by
  have hl := h.lt
  unfold Blk at *
  rw [e.block b hl hn]; exact h
theorem Blk.grown {w w' : World} {b : Nat} {cs : Array Value} {t : TypeId} {row : Option Nat} (h : Blk w b cs t) (g : w.grownBy w' row) (hn : some b ≠ row) : Blk w' b cs t := by
  have hl := h.lt
  unfold Blk at *
  rw [g.block b hl hn]; exact h

/-! ### Rows that the call owns -/
theorem owns_blk {w : World} {base : Nat} {e : TypeId} {size : Nat} {g n cap : Nat} {xs : List Value} (h : w.ownsRow base e size (.slice (some ⟨g, 0, none⟩) n cap) n xs) :
    ∃ cur : Array Value, Blk w g cur e ∧ n ≤ cap ∧ cap ≤ maxLen ∧ cur.size = cap * size ∧ cur.toList.take (n * size) = xs ∧ base ≤ g := by
  rcases h.2 with ⟨hv, _⟩ | ⟨g', cap', cur, hv, hb, hh, h1, h2, h3, h4⟩
  · cases hv
  · injection hv with e1 e2 e3
    injection e1 with e1
    injection e1 with e1 _ _
    subst e1 e3
    exact ⟨cur, hh, h1, h2, h3, h4, hb⟩
theorem owns_ex {S : Nat → Prop} {w w' : World} {base : Nat} {e : TypeId} {size : Nat} {v : Value} {n : Nat} {xs : List Value} (h : w.ownsRow base e size v n xs) (x : Ex S w w') (hn : ∀ g, v.ownBlock = some g → ¬ S g) : w'.ownsRow base e size v n xs := by
  refine ⟨h.1, ?_⟩
  rcases h.2 with c | ⟨g, cap, cur, hv, hb, hh, r⟩
  · exact Or.inl c
  · refine Or.inr ⟨g, cap, cur, hv, hb, ?_, r⟩
    exact Blk.ex (w := w) hh x (hn g (by rw [hv]; rfl))

/-! ### The array of heap nodes -/
/-- The first m nodes: node i bears the number a i and leads to C (a i). -/
def NodesIn (cur : Array Value) (C : Nat → Option Addr) (a : Nat → Nat) (m : Nat) : Prop :=
  ∀ i, i < m → cur[i * 5]? = some (.bool false) ∧ cur[i * 5 + 1]? = some (.float .f64 0) ∧ cur[i * 5 + 2]? = some (.int .u64 0) ∧ cur[i * 5 + 3]? = some (.int .u64 (a i : Nat)) ∧ cur[i * 5 + 4]? = some (.pointer (C (a i)))

def put5 (cur : Array Value) (i : Nat) (s : Int) (p : Option Addr) : Array Value :=
  ((((cur.setIfInBounds (i * 5) (.bool false)).setIfInBounds (i * 5 + 1) (.float .f64 0)).setIfInBounds (i * 5 + 2) (.int .u64 0)).setIfInBounds (i * 5 + 3) (.int .u64 s)).setIfInBounds (i * 5 + 4) (.pointer p)

theorem put5_size (cur : Array Value) (i : Nat) (s : Int) (p : Option Addr) : (put5 cur i s p).size = cur.size := by unfold put5; simp

theorem set_ne (cur : Array Value) (i j : Nat) (v : Value) (h : i ≠ j) : (cur.setIfInBounds i v)[j]? = cur[j]? := by
  rw [Array.getElem?_setIfInBounds, if_neg h]
theorem set_eq (cur : Array Value) (i : Nat) (v : Value) (h : i < cur.size) : (cur.setIfInBounds i v)[i]? = some v := by
  rw [Array.getElem?_setIfInBounds, if_pos rfl, if_pos h]

theorem put5_ne (cur : Array Value) (i : Nat) (s : Int) (p : Option Addr) (o : Nat) (h : o < i * 5 ∨ i * 5 + 5 ≤ o) : (put5 cur i s p)[o]? = cur[o]? := by
  unfold put5
  rw [set_ne _ _ _ _ (by omega), set_ne _ _ _ _ (by omega), set_ne _ _ _ _ (by omega), set_ne _ _ _ _ (by omega), set_ne _ _ _ _ (by omega)]

theorem put5_at (cur : Array Value) (i : Nat) (s : Int) (p : Option Addr) (h : i * 5 + 5 ≤ cur.size) :
    (put5 cur i s p)[i * 5]? = some (.bool false) ∧ (put5 cur i s p)[i * 5 + 1]? = some (.float .f64 0) ∧ (put5 cur i s p)[i * 5 + 2]? = some (.int .u64 0) ∧ (put5 cur i s p)[i * 5 + 3]? = some (.int .u64 s) ∧ (put5 cur i s p)[i * 5 + 4]? = some (.pointer p) := by
  unfold put5
  refine ⟨?_, ?_, ?_, ?_, ?_⟩
  · rw [set_ne _ _ _ _ (by omega), set_ne _ _ _ _ (by omega), set_ne _ _ _ _ (by omega), set_ne _ _ _ _ (by omega), set_eq _ _ _ (by omega)]
  · rw [set_ne _ _ _ _ (by omega), set_ne _ _ _ _ (by omega), set_ne _ _ _ _ (by omega), set_eq _ _ _ (by simp; omega)]
  · rw [set_ne _ _ _ _ (by omega), set_ne _ _ _ _ (by omega), set_eq _ _ _ (by simp; omega)]
  · rw [set_ne _ _ _ _ (by omega), set_eq _ _ _ (by simp; omega)]
  · rw [set_eq _ _ _ (by simp; omega)]

theorem NodesIn.put {cur : Array Value} {C : Nat → Option Addr} {a : Nat → Nat} {m : Nat} (h : NodesIn cur C a m) (i k : Nat) (hs : i * 5 + 5 ≤ cur.size) :
    NodesIn (put5 cur i (k : Nat) (C k)) C (fun j => if j = i then k else a j) m := by
  intro j hj
  by_cases e : j = i
  · subst e
    have := put5_at cur j (k : Nat) (C k) hs
    simpa using this
  · have g := h j hj
    rw [put5_ne _ _ _ _ _ (by omega), put5_ne _ _ _ _ _ (by omega), put5_ne _ _ _ _ _ (by omega), put5_ne _ _ _ _ _ (by omega), put5_ne _ _ _ _ _ (by omega)]
    simpa [e] using g

theorem NodesIn.le {cur : Array Value} {C : Nat → Option Addr} {a : Nat → Nat} {m n : Nat} (h : NodesIn cur C a m) (hn : n ≤ m) : NodesIn cur C a n := fun i hi => h i (by omega)

/-! ### Sifting down: the plain law -/
/-- While the hole stands at h: from h on the nodes are as they were; before it each is its own number or its left child's. -/
structure Hole (p h : Nat) (a : Nat → Nat) : Prop where
  le : p ≤ h
  hi : ∀ j, h ≤ j → a j = j
  lo : ∀ j, j < h → (a j = j ∨ a j = 2 * j + 1) ∧ a j ≤ h ∧ a j ≠ p
  inj : ∀ i j, i < j → j < h → a i ≠ a j

theorem Hole.start (p : Nat) : Hole p p (fun j => j) := ⟨Nat.le_refl _, fun _ _ => rfl, fun j hj => ⟨Or.inl rfl, by omega, by omega⟩, fun i j hij _ => by omega⟩

theorem Hole.step {p h : Nat} {a : Nat → Nat} (H : Hole p h a) : Hole p (2 * h + 1) (fun j => if j = h then 2 * h + 1 else a j) := by
  have le := H.le
  refine ⟨by omega, ?_, ?_, ?_⟩
  · intro j hj
    show (if j = h then 2 * h + 1 else a j) = j
    rw [if_neg (by omega)]; exact H.hi j (by omega)
  · intro j hj
    show ((if j = h then 2 * h + 1 else a j) = j ∨ (if j = h then 2 * h + 1 else a j) = 2 * j + 1) ∧ (if j = h then 2 * h + 1 else a j) ≤ 2 * h + 1 ∧ (if j = h then 2 * h + 1 else a j) ≠ p
    by_cases e : j = h
    · rw [if_pos e]; exact ⟨Or.inr (by omega), by omega, by omega⟩
    · rw [if_neg e]
      by_cases c : j < h
      · have := H.lo j c; exact ⟨this.1, by omega, this.2.2⟩
      · have := H.hi j (by omega); rw [this]; exact ⟨Or.inl rfl, by omega, by omega⟩
  · intro i j hij hj
    show (if i = h then 2 * h + 1 else a i) ≠ (if j = h then 2 * h + 1 else a j)
    by_cases e : i = h
    · rw [if_pos e, if_neg (by omega), H.hi j (by omega)]; omega
    · rw [if_neg e]
      by_cases e' : j = h
      · rw [if_pos e']; have := H.lo i (by omega); omega
      · rw [if_neg e']
        by_cases c : j < h
        · exact H.inj i j hij c
        · rw [H.hi j (by omega)]
          by_cases c' : i < h
          · have := H.lo i c'; omega
          · rw [H.hi i (by omega)]; omega

/-- What the array is behind the sift. -/
structure Sifted (p m : Nat) (a : Nat → Nat) : Prop where
  ok : ∀ j, j < m → a j ≤ m ∧ a j ≠ p
  inj : ∀ i j, i < j → j < m → a i ≠ a j
  heap : ∀ i, 0 < i → i < m → a ((i - 1) / 2) ≤ a i

theorem Hole.last {p h m : Nat} {a : Nat → Nat} (H : Hole p h a) (hm : h < m) (hc : m ≤ 2 * h + 1) : Sifted p m (fun j => if j = h then m else a j) := by
  have le := H.le
  have val : ∀ j, j < m → j ≠ h → (a j = j ∨ (a j = 2 * j + 1 ∧ j < h)) ∧ a j < m ∧ a j ≠ p := by
    intro j hj hn
    by_cases c : j < h
    · have := H.lo j c
      refine ⟨?_, by omega, this.2.2⟩
      rcases this.1 with e | e
      · exact Or.inl e
      · exact Or.inr ⟨e, c⟩
    · have := H.hi j (by omega); rw [this]; exact ⟨Or.inl rfl, by omega, by omega⟩
  refine ⟨?_, ?_, ?_⟩
  · intro j hj
    show (if j = h then m else a j) ≤ m ∧ (if j = h then m else a j) ≠ p
    by_cases e : j = h
    · rw [if_pos e]; omega
    · rw [if_neg e]; have := val j hj e; omega
  · intro i j hij hj
    show (if i = h then m else a i) ≠ (if j = h then m else a j)
    by_cases e : i = h
    · rw [if_pos e, if_neg (by omega)]; have := val j hj (by omega); omega
    · rw [if_neg e]
      by_cases e' : j = h
      · rw [if_pos e']; have := val i (by omega) e; omega
      · rw [if_neg e']
        by_cases c : j < h
        · exact H.inj i j hij c
        · rw [H.hi j (by omega)]
          by_cases c' : i < h
          · have := H.lo i c'; omega
          · rw [H.hi i (by omega)]; omega
  · intro i h0 hi
    show (if (i - 1) / 2 = h then m else a ((i - 1) / 2)) ≤ (if i = h then m else a i)
    have hp : (i - 1) / 2 < m := by omega
    by_cases e : (i - 1) / 2 = h
    · exfalso; omega
    · rw [if_neg e]
      have v := val _ hp e
      by_cases e' : i = h
      · rw [if_pos e']; omega
      · rw [if_neg e']
        have v' := val i hi e'
        omega
end Go.Proofs.Qxb6613305a
