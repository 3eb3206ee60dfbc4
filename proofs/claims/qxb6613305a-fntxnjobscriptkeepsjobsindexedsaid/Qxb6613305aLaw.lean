/-
  What the two laws on leaveQueue share.
-/
import Derived.Test.Qxb6613305aFill
import Derived.LaidEqlPtr
namespace Go.Proofs.Qxb6613305a
open Go.RowKit

theorem run_neq_ptr_same (w : World) {tp te : TypeId} {j : TypeInfo} (a : Addr) (hp : Try.prog.underlying tp = some (.pointer te)) (hte : Try.prog.info? te = some j) :
    (binOp .neq tp (.pointer (some a)) (.pointer (some a))).run Try.prog w = .ok (.bool false) w := by
  have h : ∀ d : Nat, (Op.equalIn (d + 1) tp (.pointer (some a)) (.pointer (some a))).run Try.prog w = .ok true w := fun d => by
    simp [Op.equalIn, run_underlying hp, sizeOf, typeInfo, hte, run_sameAddr_same]
  simp only [binOp]
  simp [Op.equal, Op.maxDepth, h 9999]
theorem info120 : ∃ j, Try.prog.info? 120 = some j := Option.isSome_iff_exists.1 (by kernel_rfl)
theorem neq_lock (w : World) (a : Addr) : (binOp .neq 26 (.pointer (some a)) (.pointer (some a))).run Try.prog w = .ok (.bool false) w := by
  obtain ⟨j, hj⟩ := info120
  exact run_neq_ptr_same w a Try.underlying26 hj

/-- A cell of an owned row. -/
theorem owns_cell {w : World} {base : Nat} {e : TypeId} {size g n cap : Nat} {xs : List Value} (h : w.ownsRow base e size (.slice (some ⟨g, 0, none⟩) n cap) n xs) {j : Nat} {v : Value} (hv : xs[j]? = some v) : w.cell? ⟨g, j, none⟩ = some v := by
  obtain ⟨cur, hB, _, _, _, h4, _⟩ := owns_blk h
  have hl := h.1
  have hj : j < n * size := by
    rcases Nat.lt_or_ge j xs.length with c | c
    · omega
    · rw [List.getElem?_eq_none c] at hv; cases hv
  exact hB.cellv ((take_get h4 j hj).trans hv)

theorem set_at {cs : Array Value} {i : Nat} {x : Value} (h : cs[i]? = some x) (v : Value) : (cs.setIfInBounds i v)[i]? = some v := by
  refine set_eq _ _ _ ?_
  rcases Nat.lt_or_ge i cs.size with c | c
  · exact c
  · rw [Array.getElem?_eq_none c] at h; cases h
theorem owns_nil (w : World) (base : Nat) (e : TypeId) (size : Nat) : w.ownsRow base e size (.slice none 0 0) 0 [] := ⟨by simp, Or.inl ⟨rfl, rfl⟩⟩

/-- leaveQueue of the cohort at place p of a full queue. -/
theorem leaveFull_c (w : World) (bs lo hi bl nq m g cap p n c base : Nat) (a : Option Addr) (S cur : Array Value) (xs : List Value) (pg f : Int) (cb : Nat → Nat)
    (hS : Blk w bs S 113) (hS38 : S[38]? = some (.slice a n c)) (hown : w.ownsRow base 138 4 (.slice a n c) n xs) (hbase : base ≤ w.heap.size) (hn : n ≤ 1000000)
    (F : Filled w lo hi bl nq g cap pg f cb cur) (hnq : nq = m + 1) (hm : m ≤ 4095) (hp : p < nq) :
    Calls Try.prog 13 #[.pointer (some ⟨bs, 0, none⟩), .pointer (some ⟨cb p, 0, none⟩)] w fun e w' => e = .returned (.tuple #[]) ∧ ∃ cc, Blk w (cb p) cc 133 ∧ cc[1]? = some (.int .i64 p) ∧ cc[9]? = some (.pointer (some ⟨bl, 0, none⟩)) ∧ Left w w' bs bl (cb p) g base m cap p n c a S cc cur xs (.int .i64 pg) (.slice none 0 0) f (fun i => some ⟨cb i, 0, none⟩) := by
  subst hnq
  obtain ⟨cc, hC, k1, k9, k10⟩ := F.coh p hp
  have hc := F.csz
  have hnc := F.ncap
  exact (zzLeave_c w bs bl (cb p) g base m cap p n c a S cc cur xs _ _ f _ hS hS38 hown hbase hn F.lock F.node F.ncap (by omega) F.nodes hm hC k9 k10 hp).mono fun e w' ⟨he, hl⟩ => ⟨he, cc, hC, k1, k9, hl⟩
end Go.Proofs.Qxb6613305a
