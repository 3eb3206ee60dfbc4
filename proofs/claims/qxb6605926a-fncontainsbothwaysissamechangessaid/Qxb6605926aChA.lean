/-
  Changes: in memory, in order; chgLess (30), strings.Compare (34), cmp.Compare (35), Change.compare (33), addLen (7).
-/
import Derived.Test.Qxb6605926aRows
import Derived.Test.Qxb6605926aPlain
import Derived.WalkKit
import Derived.WalkSpells
import Derived.WalkLawsBesides
import Derived.Deep.RegionHeld3
import Derived.Deep.DeepCutAuto
import Derived.Laws.EntriesVeiled
import Derived.Lib.Bytealg
import Derived.Below
namespace Go.Proofs.Qxb6605926a
open Go.RowKit

/-- A change: op, id, address, incarnation. -/
structure Ch where
  op : ByteArray
  id : ByteArray
  addr : ByteArray
  inc : Int

def Ch.val (c : Ch) : Value := .agg #[.string c.op, .string c.id, .string c.addr, .int .u64 c.inc]

def Ch.less (x y : Ch) : Bool :=
  if (x.id.toList == y.id.toList) = false then Op.bytesLess x.id.toList y.id.toList
  else if (x.op.toList == y.op.toList) = false then Op.bytesLess x.op.toList y.op.toList
  else if (x.addr.toList == y.addr.toList) = false then Op.bytesLess x.addr.toList y.addr.toList
  else decide (x.inc < y.inc)

theorem below_alloc (w : World) (ob : Obj) : Below w.heap.size w (w.alloc ob) := ⟨rfl, rfl, rfl, by simp, fun k hk => Below.heap_alloc _ _ _ hk⟩

theorem gr_trans {a b c : World} (h : Below a.heap.size a b) (k : Below b.heap.size b c) : Below a.heap.size a c :=
  ⟨k.os.trans h.os, k.tape.trans h.tape, k.output.trans h.output, Nat.le_trans h.size k.size, fun i hi => (k.block i (Nat.lt_of_lt_of_le hi h.size)).trans (h.block i hi)⟩

theorem chgLess_c (x y : Ch) (w : World) :
    Calls Try.prog 30 #[x.val, y.val] w fun e w' => e = .returned (.bool (x.less y)) ∧ Below w.heap.size w w' := by
  unfold Ch.val Ch.less
  obtain ⟨o1, i1, a1, n1⟩ := x
  obtain ⟨o2, i2, a2, n2⟩ := y
  dsimp only
  cases h1 : (i1.toList == i2.toList)
  case false =>
    go_enter Try.func30, Try.ntmps30
    go_wp2
    go_ret
    exact ⟨rfl, gr_trans (below_alloc _ _) (below_alloc _ _)⟩
  cases h2 : (o1.toList == o2.toList)
  case false =>
    go_enter Try.func30, Try.ntmps30
    go_wp2
    go_ret
    exact ⟨rfl, gr_trans (below_alloc _ _) (below_alloc _ _)⟩
  cases h3 : (a1.toList == a2.toList)
  all_goals
    go_enter Try.func30, Try.ntmps30
    go_wp2
    go_ret
    exact ⟨rfl, gr_trans (below_alloc _ _) (below_alloc _ _)⟩

theorem cmpString_c (a b : ByteArray) (w : World) :
    Calls Try.prog 36 #[.string a, .string b] w fun e w' => e = .returned (.int .i64 (Lib.compareBytes a.data.toList b.data.toList)) ∧ w' = w := by
  go_enter Try.func36, Try.ntmps36
  go_wp2
  rw [run_callFunc_extern Try.func38 (by kernel_rfl) (by kernel_rfl) (by kernel_rfl) (e := Extern.BytealgCompare.compare) (by kernel_rfl), Lib.run_compareString]
  simp only [Result.andThen]
  rw [Oper.upon_value]
  go_wp2
  go_ret
  exact ⟨rfl, rfl⟩

theorem strCompare_c (a b : ByteArray) (w : World) :
    Calls Try.prog 34 #[.string a, .string b] w fun e w' => e = .returned (.int .i64 (Lib.compareBytes a.data.toList b.data.toList)) ∧ w' = w := by
  go_enter Try.func34, Try.ntmps34
  go_wp2_with fail
  refine (cmpString_c a b w).mono ?_
  rintro e w' ⟨rfl, hw'⟩; obtain rfl := hw'.symm
  go_wp2_with fail
  go_ret
  exact ⟨rfl, rfl⟩

theorem isNaN_c (a : Int) (w : World) :
    Calls Try.prog 37 #[.int .u64 a] w fun e w' => e = .returned (.bool false) ∧ w' = w := by
  go_enter Try.func37, Try.ntmps37
  go_wp2
  go_ret
  exact ⟨by simp, rfl⟩

def cmpInt (a b : Int) : Int := if a < b then -1 else if b < a then 1 else 0

theorem cmpInc_c (a b : Int) (w : World) :
    Calls Try.prog 35 #[.int .u64 a, .int .u64 b] w fun e w' => e = .returned (.int .i64 (cmpInt a b)) ∧ w' = w := by
  unfold cmpInt
  by_cases h1 : a < b
  case pos =>
    rw [if_pos h1]
    go_enter Try.func35, Try.ntmps35
    go_wp2_with fail
    refine (isNaN_c a w).mono ?_
    rintro e w' ⟨rfl, hw'⟩; obtain rfl := hw'.symm
    go_wp2_with fail
    refine (isNaN_c b w).mono ?_
    rintro e w' ⟨rfl, hw'⟩; obtain rfl := hw'.symm
    go_wp2_with fail
    go_ret
    exact ⟨rfl, rfl⟩
  rw [if_neg h1]
  by_cases h2 : b < a
  case pos =>
    rw [if_pos h2]
    go_enter Try.func35, Try.ntmps35
    go_wp2_with fail
    refine (isNaN_c a w).mono ?_
    rintro e w' ⟨rfl, hw'⟩; obtain rfl := hw'.symm
    go_wp2_with fail
    refine (isNaN_c b w).mono ?_
    rintro e w' ⟨rfl, hw'⟩; obtain rfl := hw'.symm
    go_wp2_with fail
    go_ret
    exact ⟨rfl, rfl⟩
  rw [if_neg h2]
  go_enter Try.func35, Try.ntmps35
  go_wp2_with fail
  refine (isNaN_c a w).mono ?_
  rintro e w' ⟨rfl, hw'⟩; obtain rfl := hw'.symm
  go_wp2_with fail
  refine (isNaN_c b w).mono ?_
  rintro e w' ⟨rfl, hw'⟩; obtain rfl := hw'.symm
  go_wp2_with fail
  go_ret
  exact ⟨rfl, rfl⟩

def cmpB (a b : ByteArray) : Int := Lib.compareBytes a.data.toList b.data.toList

def Ch.cmp (x y : Ch) : Int :=
  if cmpB x.id y.id = 0 then (if cmpB x.op y.op = 0 then (if cmpB x.addr y.addr = 0 then cmpInt x.inc y.inc else cmpB x.addr y.addr) else cmpB x.op y.op) else cmpB x.id y.id

theorem compare_c (x y : Ch) (w : World) :
    Calls Try.prog 33 #[x.val, y.val] w fun e w' => e = .returned (.int .i64 (x.cmp y)) ∧ Below w.heap.size w w' := by
  unfold Ch.val Ch.cmp
  obtain ⟨o1, i1, a1, n1⟩ := x
  obtain ⟨o2, i2, a2, n2⟩ := y
  dsimp only
  have C1 : ∀ w, Calls Try.prog 34 #[.string i1, .string i2] w fun e w' => e = .returned (.int .i64 (cmpB i1 i2)) ∧ w' = w := fun w => strCompare_c i1 i2 w
  have C2 : ∀ w, Calls Try.prog 34 #[.string o1, .string o2] w fun e w' => e = .returned (.int .i64 (cmpB o1 o2)) ∧ w' = w := fun w => strCompare_c o1 o2 w
  have C3 : ∀ w, Calls Try.prog 34 #[.string a1, .string a2] w fun e w' => e = .returned (.int .i64 (cmpB a1 a2)) ∧ w' = w := fun w => strCompare_c a1 a2 w
  have C4 : ∀ w, Calls Try.prog 35 #[.int .u64 n1, .int .u64 n2] w fun e w' => e = .returned (.int .i64 (cmpInt n1 n2)) ∧ w' = w := fun w => cmpInc_c n1 n2 w
  generalize cmpB i1 i2 = c1 at *
  generalize cmpB o1 o2 = c2 at *
  generalize cmpB a1 a2 = c3 at *
  generalize cmpInt n1 n2 = c4 at *
  have gr : ∀ (w : World) (a b : Obj), Below w.heap.size w ((w.alloc a).alloc b) := fun w a b => gr_trans (below_alloc _ _) (below_alloc _ _)
  by_cases h1 : c1 = 0
  case neg =>
    rw [if_neg h1]
    go_enter Try.func33, Try.ntmps33
    go_wp2_with fail
    refine (C1 _).mono ?_
    rintro e w' ⟨rfl, hw'⟩; obtain rfl := hw'.symm
    go_wp2_with fail
    go_ret
    exact ⟨rfl, gr _ _ _⟩
  subst h1
  rw [if_pos rfl]
  by_cases h2 : c2 = 0
  case neg =>
    rw [if_neg h2]
    go_enter Try.func33, Try.ntmps33
    go_wp2_with fail
    refine (C1 _).mono ?_
    rintro e w' ⟨rfl, hw'⟩; obtain rfl := hw'.symm
    go_wp2_with fail
    refine (C2 _).mono ?_
    rintro e w' ⟨rfl, hw'⟩; obtain rfl := hw'.symm
    go_wp2_with fail
    go_ret
    exact ⟨rfl, gr _ _ _⟩
  subst h2
  rw [if_pos rfl]
  by_cases h3 : c3 = 0
  case neg =>
    rw [if_neg h3]
    go_enter Try.func33, Try.ntmps33
    go_wp2_with fail
    refine (C1 _).mono ?_
    rintro e w' ⟨rfl, hw'⟩; obtain rfl := hw'.symm
    go_wp2_with fail
    refine (C2 _).mono ?_
    rintro e w' ⟨rfl, hw'⟩; obtain rfl := hw'.symm
    go_wp2_with fail
    refine (C3 _).mono ?_
    rintro e w' ⟨rfl, hw'⟩; obtain rfl := hw'.symm
    go_wp2_with fail
    go_ret
    exact ⟨rfl, gr _ _ _⟩
  subst h3
  rw [if_pos rfl]
  go_enter Try.func33, Try.ntmps33
  go_wp2_with fail
  refine (C1 _).mono ?_
  rintro e w' ⟨rfl, hw'⟩; obtain rfl := hw'.symm
  go_wp2_with fail
  refine (C2 _).mono ?_
  rintro e w' ⟨rfl, hw'⟩; obtain rfl := hw'.symm
  go_wp2_with fail
  refine (C3 _).mono ?_
  rintro e w' ⟨rfl, hw'⟩; obtain rfl := hw'.symm
  go_wp2_with fail
  refine (C4 _).mono ?_
  rintro e w' ⟨rfl, hw'⟩; obtain rfl := hw'.symm
  go_wp2_with fail
  go_ret
  exact ⟨rfl, gr _ _ _⟩

/-- Beyond the cap all is one. -/
def addL (n k : Int) : Int := if 1048576 < k ∨ 1048576 < n then 1048577 else n + k

theorem addLen_c (n k : Int) (w : World) (hn : -1048577 ≤ n) (hk : -1048577 ≤ k) :
    Calls Try.prog 7 #[.int .i64 n, .int .i64 k] w fun e w' => e = .returned (.int .i64 (addL n k)) ∧ w' = w := by
  unfold addL
  by_cases h1 : 1048576 < k
  case pos =>
    rw [if_pos (Or.inl h1)]
    go_enter Try.func7, Try.ntmps7
    go_wp2
    go_ret
    exact ⟨rfl, rfl⟩
  by_cases h2 : 1048576 < n
  case pos =>
    rw [if_pos (Or.inr h2)]
    go_enter Try.func7, Try.ntmps7
    go_wp2
    go_ret
    exact ⟨rfl, rfl⟩
  rw [if_neg (by omega)]
  go_enter Try.func7, Try.ntmps7
  go_wp2
  go_ret
  exact ⟨by rfl, rfl⟩
end Go.Proofs.Qxb6605926a
