/-
  leaveQueue (45, 13) of a cohort that waits, walked.
-/
import Derived.Test.Qxb6613305aQueue
namespace Go.Proofs.Qxb6613305a
open Go.RowKit
attribute [local go_sem] run_store_float

/-- What the world is behind the leave. -/
structure Left (w w' : World) (bs bl cb g base m cap p n c : Nat) (a : Option Addr) (S cc cur : Array Value) (xs : List Value) (pg hs : Value) (f : Int) (C : Nat → Option Addr) : Prop where
  sim : ∃ gl capl, Blk w' bs (S.setIfInBounds 38 (.slice (some ⟨gl, 0, none⟩) (n + 1) capl)) 113 ∧ w'.ownsRow base 138 4 (.slice (some ⟨gl, 0, none⟩) (n + 1) capl) (n + 1) (xs ++ lookV bl f)
  lock : Blk w' bl #[pg, hs, .slice (some ⟨g, 0, none⟩) m cap, .nilFunc, .int .u32 f] 120
  nodes : ∃ cur' a', Blk w' g cur' 135 ∧ cur'.size = cur.size ∧ NodesIn cur' C a' m ∧ Sifted p m a'
  cohort : Blk w' cb (cc.setIfInBounds 9 (.pointer none)) 133
  ex : Ex (fun k => (k = g ∨ k = bl) ∨ k = cb ∨ k = bs ∨ some k = (Value.slice a n c).ownBlock) w w'

set_option maxRecDepth 100000 in
set_option maxHeartbeats 1000000 in
theorem leave_c (w : World) (bs bl cb g base m cap p n c : Nat) (a : Option Addr) (S cc cur : Array Value) (xs : List Value) (pg hs : Value) (f : Int) (C : Nat → Option Addr)
    (hS : Blk w bs S 113) (hS38 : S[38]? = some (.slice a n c)) (hown : w.ownsRow base 138 4 (.slice a n c) n xs) (hbase : base ≤ w.heap.size) (hn : n ≤ 1000000)
    (hL : Blk w bl #[pg, hs, .slice (some ⟨g, 0, none⟩) (m + 1) cap, .nilFunc, .int .u32 f] 120) (hG : Blk w g cur 135) (hcap : m + 1 ≤ cap) (hsz : (m + 1) * 5 ≤ cur.size) (hN : NodesIn cur C (fun j => j) (m + 1)) (hm : m ≤ 4095)
    (hC : Blk w cb cc 133) (h9 : cc[9]? = some (.pointer (some ⟨bl, 0, none⟩))) (h10 : cc[10]? = some (.int .i64 p)) (hp : p < m + 1) :
    Calls Try.prog 45 #[.pointer (some ⟨bs, 0, none⟩), .pointer (some ⟨cb, 0, none⟩)] w fun e w' => e = .returned (.tuple #[]) ∧ Left w w' bs bl cb g base m cap p n c a S cc cur xs pg hs f C := by
  have d1 : w.cell? ⟨cb, 9, none⟩ = some (.pointer (some ⟨bl, 0, none⟩)) := hC.cellv h9
  have d2 : w.cell? ⟨cb, 10, none⟩ = some (.int .i64 p) := hC.cellv h10
  have hne : bl ≠ cb := hL.ne_type hC (by decide)
  have hne2 : g ≠ cb := hG.ne_type hC (by decide)
  have lk := hC.lt
  go_enter Try.func45, Try.ntmps45
  go_upto_region 2 with fail
  go_cut [] (fun w' => Ex (fun k => k = g ∨ k = bl) w w' ∧ Blk w' bl #[pg, hs, .slice (some ⟨g, 0, none⟩) m cap, .nilFunc, .int .u32 f] 120 ∧ ∃ cur' a', Blk w' g cur' 135 ∧ cur'.size = cur.size ∧ NodesIn cur' C a' m ∧ Sifted p m a')
  case first =>
    go_region_held3 (fun w' => w'.cell? ⟨cb, 10, none⟩ = some (.int .i64 p))
      (first | go_keep | exact (hC.drew.ex hrem.1 (fun e => e.elim (fun e => hne2 e.symm) (fun e => hne e.symm))).cellv h10)
      ((go_at_call 48; refine (remove_c _ g bl m cap p cur pg hs (.int .u32 f) C hL.drew hG.drew hp hcap hsz hN hm).mono ?_; rintro e w' ⟨rfl, hrem⟩))
    go_wp2_with fail
    go_meet
    case rel => exact ⟨(Ex.drew (Ex.refl _ _)).trans hrem.1, hrem.2⟩
  case rest =>
    obtain ⟨hex, hL1, hnodes⟩ := hcut
    have hC1 := hC.ex hex (fun e => e.elim (fun e => hne2 e.symm) (fun e => hne e.symm))
    clear d1 d2 lk
    have d1 : wc.cell? ⟨cb, 9, none⟩ = some (.pointer (some ⟨bl, 0, none⟩)) := hC1.cellv h9
    have fz : wc.frozen? ⟨cb, 9, none⟩ = false := hC1.frozen 9
    go_wp2_with fail
    have nsg : bs ≠ g := hS.ne_type hG (by decide)
    have nsl : bs ≠ bl := hS.ne_type hL (by decide)
    have nsc : bs ≠ cb := hS.ne_type hC (by decide)
    have hx2 : Ex (fun k => (k = g ∨ k = bl) ∨ k = cb) w (wc.setCell ⟨cb, 9, none⟩ (.pointer none)) := (hex.mono (fun k e => Or.inl e)).set ⟨cb, 9, none⟩ (.pointer none) (Or.inr rfl)
    have hS2 := hS.ex hx2 (fun e => e.elim (fun e => e.elim nsg nsl) nsc)
    have hL2 := hL1.set_ne (a := ⟨cb, 9, none⟩) (.pointer none) hne
    have hC2 := hC1.set 9 (.pointer none)
    have hown2 := owns_ex hown hx2 (fun k hk e => e.elim (fun e => e.elim (fun e => owns_ne hown hG (by decide) (by rw [← e]; exact hk)) (fun e => owns_ne hown hL (by decide) (by rw [← e]; exact hk))) (fun e => owns_ne hown hC (by decide) (by rw [← e]; exact hk)))
    obtain ⟨cur', a', hG1, hs1, hN1, hSi⟩ := hnodes
    have hG2 := hG1.set_ne (a := ⟨cb, 9, none⟩) (.pointer none) hne2
    refine (addLook_c _ bs bl base n S a c xs pg hs _ _ f hS2 hS38 hL2 hown2 (Nat.le_trans hbase hx2.size) hn).mono ?_
    rintro e w' ⟨rfl, gl, capl, hS3, hown3, hex3⟩
    go_wp2_with fail
    go_end0
    refine ⟨rfl, ⟨gl, capl, hS3, hown3⟩, hL2.ex hex3 ?_, ⟨cur', a', hG2.ex hex3 ?_, hs1, hN1, hSi⟩, hC2.ex hex3 ?_, ?_⟩
    · exact fun e => e.elim (fun e => nsl e.symm) (fun e => owns_ne hown hL (by decide) e.symm)
    · exact fun e => e.elim (fun e => nsg e.symm) (fun e => owns_ne hown hG (by decide) e.symm)
    · exact fun e => e.elim (fun e => nsc e.symm) (fun e => owns_ne hown hC (by decide) e.symm)
    · exact (hx2.mono (fun k e => e.elim Or.inl (fun e => Or.inr (Or.inl e)))).trans (hex3.mono (fun k e => Or.inr (Or.inr e)))

theorem zzLeave_c (w : World) (bs bl cb g base m cap p n c : Nat) (a : Option Addr) (S cc cur : Array Value) (xs : List Value) (pg hs : Value) (f : Int) (C : Nat → Option Addr)
    (hS : Blk w bs S 113) (hS38 : S[38]? = some (.slice a n c)) (hown : w.ownsRow base 138 4 (.slice a n c) n xs) (hbase : base ≤ w.heap.size) (hn : n ≤ 1000000)
    (hL : Blk w bl #[pg, hs, .slice (some ⟨g, 0, none⟩) (m + 1) cap, .nilFunc, .int .u32 f] 120) (hG : Blk w g cur 135) (hcap : m + 1 ≤ cap) (hsz : (m + 1) * 5 ≤ cur.size) (hN : NodesIn cur C (fun j => j) (m + 1)) (hm : m ≤ 4095)
    (hC : Blk w cb cc 133) (h9 : cc[9]? = some (.pointer (some ⟨bl, 0, none⟩))) (h10 : cc[10]? = some (.int .i64 p)) (hp : p < m + 1) :
    Calls Try.prog 13 #[.pointer (some ⟨bs, 0, none⟩), .pointer (some ⟨cb, 0, none⟩)] w fun e w' => e = .returned (.tuple #[]) ∧ Left w w' bs bl cb g base m cap p n c a S cc cur xs pg hs f C := by
  go_enter Try.func13, Try.ntmps13
  go_wp2_with fail
  refine (leave_c w bs bl cb g base m cap p n c a S cc cur xs pg hs f C hS hS38 hown hbase hn hL hG hcap hsz hN hm hC h9 h10 hp).mono ?_
  rintro e w' ⟨rfl, h⟩
  go_wp2_with fail
  go_end0
  exact ⟨rfl, h⟩
end Go.Proofs.Qxb6613305a
