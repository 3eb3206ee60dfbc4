/-
  A transaction's list of jobs, as the script of txnJob calls fills it: plain facts for FnTxnJobScriptKeepsJobsIndexed.
-/
import Derived.Test.Qxb6613305aJobZZ
import Derived.Test.Qxb6613305aOnce
namespace Go.Proofs.Qxb6613305a
open Go.RowKit

theorem own_lo {w : World} {base : Nat} {e : TypeId} {size : Nat} {v : Value} {n : Nat} {xs : List Value} (h : w.ownsRow base e size v n xs) {i : Nat} (hi : some i = v.ownBlock) : base ≤ i := by
  rcases h.2 with ⟨hv, _⟩ | ⟨g', cap', cur, hv, hb, _⟩
  · rw [hv] at hi; cases hi
  · rw [hv] at hi; have x : i = g' := by simpa [Value.ownBlock] using hi
    omega

theorem info25 : (Try.prog.info? 25).map (fun i => (i.zero, i.size, i.bytes)) = some (some (.int .u64 0), 1, 8) := by kernel_rfl
theorem infoT148 : ∃ j, Try.prog.info? 148 = some j := Option.isSome_iff_exists.1 (by kernel_rfl)
theorem infoT133 : ∃ j, Try.prog.info? 133 = some j := Option.isSome_iff_exists.1 (by kernel_rfl)
theorem infoT162 : ∃ j, Try.prog.info? 162 = some j := Option.isSome_iff_exists.1 (by kernel_rfl)
theorem neq_txn (w : World) (a : Addr) : (binOp .neq 59 (.pointer (some a)) (.pointer (some a))).run Try.prog w = .ok (.bool false) w := by
  obtain ⟨j, hj⟩ := infoT148
  exact run_neq_ptr_same w a Try.underlying59 hj
theorem neq_cohort (w : World) (a : Addr) : (binOp .neq 30 (.pointer (some a)) (.pointer (some a))).run Try.prog w = .ok (.bool false) w := by
  obtain ⟨j, hj⟩ := infoT133
  exact run_neq_ptr_same w a Try.underlying30 hj
theorem neq_job (w : World) (a : Addr) : (binOp .neq 62 (.pointer (some a)) (.pointer (some a))).run Try.prog w = .ok (.bool false) w := by
  obtain ⟨j, hj⟩ := infoT162
  exact run_neq_ptr_same w a Try.underlying62 hj

/-- The number that the i-th job behind sq0 bears. -/
def sqAt (sq0 : Int) (i : Nat) : Int := (sq0 + i) % 18446744073709551616

theorem sqAt_succ (sq0 : Int) (i : Nat) : IntKind.u64.wrap (sqAt sq0 i + 1) = sqAt sq0 (i + 1) := by
  rw [IntKind.wrap_u64]; unfold sqAt; omega

/-- The list of n jobs of the transaction at bt: job i lies at jb i, is its list's i-th and bears the number sq i. -/
structure Jobs (w : World) (lo bt n : Nat) (clean : Bool) (T : Array Value) (a : Option Addr) (c : Nat) (xs : List Value) (jb : Nat → Nat) (sq : Nat → Int) : Prop where
  txn : Blk w bt T 148
  t26 : T[26]? = some (.bool clean)
  t9 : T[9]? = some (.slice a n c)
  own : w.ownsRow lo 62 1 (.slice a n c) n xs
  nil : n = 0 → a = none
  job : ∀ i, i < n → xs[i]? = some (.pointer (some ⟨jb i, 0, none⟩)) ∧ ∃ J : Array Value, Blk w (jb i) J 162 ∧ J[24]? = some (.int .i64 i) ∧ J[23]? = some (.int .u64 (sq i)) ∧ J[3]? = some (.pointer (some ⟨bt, 0, none⟩))

/-- The numbers handed out, as the law keeps them. -/
structure Seqs (w : World) (lo n g cap : Nat) (sx : List Value) (sq : Nat → Int) : Prop where
  own : w.ownsRow lo 25 1 (.slice (some ⟨g, 0, none⟩) n cap) n sx
  val : ∀ i, i < n → sx[i]? = some (.int .u64 (sq i))

theorem Jobs.start {w : World} {lo bt : Nat} {clean : Bool} {T : Array Value} (h : Blk w bt T 148) (h26 : T[26]? = some (.bool clean)) (h9 : T[9]? = some (.slice none 0 0)) : Jobs w lo bt 0 clean T none 0 [] (fun _ => 0) (fun _ => 0) :=
  ⟨h, h26, h9, owns_nil _ _ _ _, fun _ => rfl, fun i hi => by omega⟩

theorem Jobs.ex {S : Nat → Prop} {w w' : World} {lo bt n : Nat} {clean : Bool} {T : Array Value} {a : Option Addr} {c : Nat} {xs : List Value} {jb : Nat → Nat} {sq : Nat → Int} (h : Jobs w lo bt n clean T a c xs jb sq) (e : Ex S w w')
    (h1 : ¬ S bt) (h2 : ∀ g, (Value.slice a n c).ownBlock = some g → ¬ S g) (h3 : ∀ b J, Blk w b J 162 → ¬ S b) : Jobs w' lo bt n clean T a c xs jb sq := by
  refine ⟨h.txn.ex e h1, h.t26, h.t9, owns_ex h.own e h2, h.nil, fun i hi => ?_⟩
  obtain ⟨g, J, hJ, r⟩ := h.job i hi
  exact ⟨g, J, hJ.ex e (h3 _ _ hJ), r⟩

theorem Seqs.ex {S : Nat → Prop} {w w' : World} {lo n g cap : Nat} {sx : List Value} {sq : Nat → Int} (h : Seqs w lo n g cap sx sq) (e : Ex S w w') (h2 : ¬ S g) : Seqs w' lo n g cap sx sq :=
  ⟨owns_ex h.own e (fun k hk => by have : k = g := by simpa [Value.ownBlock] using hk.symm
                                   rw [this]; exact h2), h.val⟩

/-- Two transactions' lists never lie in one array. -/
theorem Jobs.apart {w : World} {lo lo' bt bt' n n' : Nat} {cl cl' : Bool} {T T' : Array Value} {a a' : Option Addr} {c c' : Nat} {xs xs' : List Value} {jb jb' : Nat → Nat} {sq sq' : Nat → Int}
    (h : Jobs w lo bt n cl T a c xs jb sq) (h' : Jobs w lo' bt' n' cl' T' a' c' xs' jb' sq') (hne : bt ≠ bt') (g : Nat) (hg : (Value.slice a n c).ownBlock = some g) : (Value.slice a' n' c').ownBlock ≠ some g := by
  intro hg'
  have hn : 0 < n := by
    rcases Nat.eq_zero_or_pos n with e | e
    · rw [h.nil e] at hg; cases hg
    · exact e
  have hn' : 0 < n' := by
    rcases Nat.eq_zero_or_pos n' with e | e
    · rw [h'.nil e] at hg'; cases hg'
    · exact e
  obtain ⟨g1, cap1, hv, _, _⟩ := h.own.form hn
  obtain ⟨g2, cap2, hv', _, _⟩ := h'.own.form hn'
  injection hv with e1 _ e3
  injection hv' with e1' _ e3'
  subst e1; subst e1'; subst e3; subst e3'
  have q1 : g1 = g := by simpa [Value.ownBlock] using hg
  have q2 : g2 = g := by simpa [Value.ownBlock] using hg'
  subst q1; subst q2
  obtain ⟨x0, J, hJ, _, _, hJ3⟩ := h.job 0 hn
  obtain ⟨x0', J', hJ', _, _, hJ3'⟩ := h'.job 0 hn'
  have k1 := owns_cell h.own x0
  have k2 := owns_cell h'.own x0'
  rw [k1] at k2
  injection k2 with k2
  injection k2 with k2
  injection k2 with k2
  injection k2 with k2 _ _
  rw [k2] at hJ
  have := (hJ.inj hJ').1
  subst this
  rw [hJ3] at hJ3'
  injection hJ3' with t
  injection t with t
  injection t with t
  injection t with t _ _
  exact hne t

/-- One more job, by ZZtxnJob. -/
theorem Jobs.more {w w' : World} {jbn lo bs bt n k c : Nat} {clean : Bool} {T S : Array Value} {a : Option Addr} {xs : List Value} {jb : Nat → Nat} {sq : Nat → Int} {kk s1 : Int} {ah : Bool} {co : Option Addr} {L : Nat → Nat}
    (h : Jobs w lo bt n clean T a c xs jb sq) (hS : Blk w bs S 113) (o : JobOut w w' jbn bs bt k n c lo co a S T kk s1 clean ah L xs) :
    ∃ g cap, Jobs w' lo bt (n + 1) clean (T.setIfInBounds 9 (.slice (some ⟨g, 0, none⟩) (n + 1) cap)) (some ⟨g, 0, none⟩) cap (xs ++ [.pointer (some ⟨jbn, 0, none⟩)]) (fun i => if i = n then jbn else jb i) (fun i => if i = n then s1 else sq i) := by
  obtain ⟨g, cap, hT, hown⟩ := o.txn
  obtain ⟨Jn, hJn, hD⟩ := o.job
  have hl : xs.length = n := by have := h.own.1; omega
  refine ⟨g, cap, hT, ?_, set_at h.t9 _, hown, fun e => by omega, fun i hi => ?_⟩
  · rw [set_ne _ _ _ _ (by omega)]; exact h.t26
  · by_cases e : i = n
    · subst e
      simp only
      refine ⟨?_, Jn, hJn, hD.index, hD.seq, hD.txn⟩
      rw [List.getElem?_append_right (by omega), hl, Nat.sub_self]; rfl
    · simp only [if_neg e]
      obtain ⟨hx, J, hJ, r⟩ := h.job i (by omega)
      refine ⟨by rw [List.getElem?_append_left (by omega)]; exact hx, J, hJ.ex o.ex ?_, r⟩
      rintro (x | x | x)
      · exact hJ.ne_type hS (by decide) x
      · exact hJ.ne_type h.txn (by decide) x
      · exact owns_ne h.own hJ (by decide) x.symm

theorem Seqs.more {w' : World} {lo n g' cap' : Nat} {sx : List Value} {sq : Nat → Int} {s1 : Int} (hl : sx.length = n) (hv : ∀ i, i < n → sx[i]? = some (.int .u64 (sq i)))
    (ho : w'.ownsRow lo 25 1 (.slice (some ⟨g', 0, none⟩) (n + 1) cap') (n + 1) (sx ++ [.int .u64 s1])) : Seqs w' lo (n + 1) g' cap' (sx ++ [.int .u64 s1]) (fun i => if i = n then s1 else sq i) := by
  refine ⟨ho, fun i hi => ?_⟩
  by_cases e : i = n
  · subst e
    rw [List.getElem?_append_right (by omega), hl, Nat.sub_self]; simp
  · rw [List.getElem?_append_left (by omega)]; simp only [if_neg e]; exact hv i (by omega)
end Go.Proofs.Qxb6613305a
