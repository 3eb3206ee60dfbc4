/-
  ZZtxnJob (27), walked.
-/
import Derived.Test.Qxb6613305aJobTxn
namespace Go.Proofs.Qxb6613305a
open Go.RowKit
attribute [local go_sem] run_store_float

def len3 (x y z : Nat) (i : Nat) : Nat := if i = 0 then x else if i = 1 then y else z

/-- What the world is behind ZZtxnJob: the new job lies at jb. -/
structure JobOut (w w' : World) (jb bs bt n m c base : Nat) (co a : Option Addr) (S T : Array Value) (k sq1 : Int) (clean ahead : Bool) (L : Nat → Nat) (xs : List Value) : Prop where
  new : w.heap.size ≤ jb
  ex : Ex (fun k => k = bs ∨ k = bt ∨ some k = (Value.slice a m c).ownBlock) w w'
  sim : Blk w' bs (S.setIfInBounds 28 (.int .u64 sq1)) 113
  txn : ∃ g cap, Blk w' bt (T.setIfInBounds 9 (.slice (some ⟨g, 0, none⟩) (m + 1) cap)) 148 ∧ w'.ownsRow base 62 1 (.slice (some ⟨g, 0, none⟩) (m + 1) cap) (m + 1) (xs ++ [.pointer (some ⟨jb, 0, none⟩)])
  job : ∃ J, Blk w' jb J 162 ∧ JobDone J k sq1 n m clean ahead bt co L

set_option maxRecDepth 100000 in
set_option maxHeartbeats 1000000 in
theorem zzTxnJob_c (w : World) (bs bt n m c base : Nat) (co a : Option Addr) (S T : Array Value) (k sq sq1 : Int) (rep clean : Bool) (x y z : Nat) (xs : List Value)
    (hS : Blk w bs S 113) (h28 : S[28]? = some (.int .u64 sq)) (h40 : S[40]? = some (.slice none 0 0)) (h11 : S[11]? = some (.bool rep)) (hn : n ≤ 3) (hsq : IntKind.u64.wrap (sq + 1) = sq1)
    (hT : Blk w bt T 148) (h26 : T[26]? = some (.bool clean)) (h9 : T[9]? = some (.slice a m c)) (hown : w.ownsRow base 62 1 (.slice a m c) m xs) (hbase : base ≤ w.heap.size) (hm : m ≤ 1000000) :
    Calls Try.prog 27 #[.pointer (some ⟨bs, 0, none⟩), .int .u8 k, .pointer (some ⟨bt, 0, none⟩), .pointer co, .int .i64 n, .float .f64 x, .float .f64 y, .float .f64 z] w fun e w' => ∃ jb, e = .returned (.pointer (some ⟨jb, 0, none⟩)) ∧ JobOut w w' jb bs bt n m c base co a S T k sq1 clean ((k == 1) && rep) (len3 x y z) xs := by
  have HQ := hide hsq
  clear hsq
  have hn' : (n : Int) ≤ 3 := by omega
  have e0 : Ex (fun _ => False) w (w.alloc (.cells #[.pointer none, .float .f64 x, .pointer none, .float .f64 y, .pointer none, .float .f64 z] 153)) := (Ex.refl _ _).alloc _
  have hst := Blk.new w #[.pointer none, .float .f64 x, .pointer none, .float .f64 y, .pointer none, .float .f64 z] 153
  have hsteps : ∀ i, i < n → (#[Value.pointer none, .float .f64 x, .pointer none, .float .f64 y, .pointer none, .float .f64 z] : Array Value)[i * 2]? = some (.pointer none) ∧ (#[Value.pointer none, .float .f64 x, .pointer none, .float .f64 y, .pointer none, .float .f64 z] : Array Value)[i * 2 + 1]? = some (.float .f64 (len3 x y z i)) := by
    intro i hi
    rcases (show i = 0 ∨ i = 1 ∨ i = 2 by omega) with e | e | e <;> subst e <;> exact ⟨rfl, rfl⟩
  have HST := hide hst
  have HSP := hide hsteps
  have HE := hide e0
  clear hst hsteps e0
  go_enter Try.func27, Try.ntmps27
  go_wp2_with fail
  have e0 := unhide HE
  refine (txnJob_c _ bs bt w.heap.size n 3 m c base co a S _ T k sq sq1 rep clean (len3 x y z) xs (hS.alloc _) h28 h40 h11 (unhide HST) (unhide HSP) hn (unhide HQ) (hT.alloc _) h26 h9 (hown.alloc _) (Nat.le_trans hbase e0.size) hm).mono ?_
  rintro e w1 ⟨rfl, hM⟩
  clear HST HSP
  go_wp2_with fail
  go_ret
  have hz : (w.alloc (.cells #[.pointer none, .float .f64 x, .pointer none, .float .f64 y, .pointer none, .float .f64 z] 153)).heap.size = w.heap.size + 1 := by simp
  have ht := hM.txn
  have hj := hM.job
  rw [hz] at ht hj
  exact ⟨_, rfl, by omega, (e0.mono (fun k f => f.elim)).trans hM.ex, hM.sim, ht, hj⟩
end Go.Proofs.Qxb6613305a
