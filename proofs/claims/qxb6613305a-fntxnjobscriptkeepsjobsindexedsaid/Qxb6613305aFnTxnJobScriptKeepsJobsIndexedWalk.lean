/-
  FnTxnJobScriptKeepsJobsIndexed (7), walked where its guards let it by.
-/
import Derived.Test.Qxb6613305aJobSide
import Derived.Deep.QuietTactic
import Derived.BigQuiet
import Derived.Deep.CutRange
namespace Go.Proofs.Qxb6613305a
open Go.RowKit
namespace fnTxnJobScriptKeepsJobsIndexed

/-- zzBytes_..: with short slices it says yes. -/
theorem zzBytes_c (w : World) (s : Int) (r ca cb : Bool) (ka ta la : Option Addr) (kn kc tn tc ln lc : Nat) (h1 : kn ≤ 4096) (h2 : tn ≤ 4096) (h3 : ln ≤ 3) :
    Calls Try.prog 25 #[.int .u64 s, .bool r, .bool ca, .bool cb, .slice ka kn kc, .slice ta tn tc, .slice la ln lc] w fun e w' => e = .returned (.bool true) ∧ w' = w := by
  have b1 : (kn : Int) ≤ 4096 := by omega
  have b2 : (tn : Int) ≤ 4096 := by omega
  have b3 : (ln : Int) ≤ 3 := by omega
  go_enter Try.func25, Try.ntmps25
  go_wp2
  go_ret
  exact ⟨rfl, rfl⟩

theorem ex_drewN (w : World) (n : Nat) : NewOnly w (w.drewN n) := ⟨rfl, rfl, rfl, Nat.le_refl _, fun _ _ _ => rfl⟩

/-- The simulation: its number, no spare job, whether it is replicated. -/
def SimE (w : World) (bs : Nat) (s : Int) (rep : Bool) : Prop := ∃ S : Array Value, Blk w bs S 113 ∧ S[28]? = some (.int .u64 s) ∧ S[40]? = some (.slice none 0 0) ∧ S[11]? = some (.bool rep)
/-- One transaction's side. -/
def SideE (w : World) (lo bt n : Nat) (clean : Bool) (g cap : Nat) : Prop := ∃ T a c xs jb sq sx, Jobs w lo bt n clean T a c xs jb sq ∧ Seqs w lo n g cap sx sq

set_option maxRecDepth 100000 in
set_option maxHeartbeats 8000000 in
theorem main_way (w : World) (sq0 : Int) (h5 : 0 ≤ sq0) (h6 : Hid (sq0 < 18446744073709551616)) (rep ca cb : Bool) (ka ta la : Option Addr) (kn kc tn tc ln lc : Nat) (kv : Nat → Int) (tv : Nat → Bool) (lv : Nat → Nat) (h1 : kn ≤ 4096) (h2 : tn ≤ 4096) (h3 : ln ≤ 3)
    (hk : 0 < kn → ∃ b o, ka = some ⟨b, o, none⟩ ∧ b < w.heap.size ∧ ∀ i, i < kn → w.cell? ⟨b, o + i, none⟩ = some (.int .u8 (kv i)))
    (ht : 0 < tn → ∃ b o, ta = some ⟨b, o, none⟩ ∧ b < w.heap.size ∧ ∀ i, i < tn → w.cell? ⟨b, o + i, none⟩ = some (.bool (tv i)))
    (hl : 0 < ln → ∃ b o, la = some ⟨b, o, none⟩ ∧ b < w.heap.size ∧ ∀ i, i < ln → w.cell? ⟨b, o + i, none⟩ = some (.float .f64 (lv i))) :
    Calls Try.prog 7 #[.int .u64 sq0, .bool rep, .bool ca, .bool cb, .slice ka kn kc, .slice ta tn tc, .slice la ln lc] w fun e w' => e = .returned (.bool true) ∧ Below w.heap.size w w' := by
  have b1 : (kn : Int) ≤ 4096 := by omega
  have b2 : (tn : Int) ≤ 4096 := by omega
  have b3 : (ln : Int) ≤ 3 := by omega
  go_enter Try.func7, Try.ntmps7
  go_wp2_with fail
  refine (zzBytes_c w sq0 rep ca cb ka ta _ kn kc tn tc ln lc h1 h2 h3).mono ?_
  rintro e w' ⟨rfl, hw'⟩
  obtain rfl := hw'.symm
  go_upto_if 72 with fail
  go_cut [15] from 73 to 75 (fun x w' => w' = w ∧ ∃ v, x = .float .f64 v ∧ (0 < ln → v = lv 0))
  case first =>
    by_cases c : 0 < ln
    · obtain ⟨b, o, rfl, hb, hc⟩ := hl (by omega)
      have c0 : w.cell? ⟨b, o, none⟩ = some (.float .f64 (lv 0)) := hc 0 c
      have cc : (0 : Int) < ln := by omega
      clear hc
      go_wp2_with fail
      go_meet
      case rel => exact ⟨rfl, _, rfl, fun _ => rfl⟩
    · have cc : (ln : Int) ≤ 0 := by omega
      go_wp2_with fail
      go_meet
      case rel => exact ⟨rfl, 0, rfl, fun f => absurd f c⟩
  case' rest =>
    obtain ⟨hww, x, rfl, hx⟩ := hcut
    obtain rfl := hww.symm
  go_upto_if 78 with fail
  go_cut [16] from 70 to 81 (fun x w' => w' = w ∧ ∃ v, x = .float .f64 v ∧ (1 < ln → v = lv 1))
  case first =>
    by_cases c : 1 < ln
    · obtain ⟨b, o, rfl, hb, hc⟩ := hl (by omega)
      have c0 : w.cell? ⟨b, o + 1, none⟩ = some (.float .f64 (lv 1)) := hc 1 c
      have cc : (1 : Int) < ln := by omega
      clear hc
      go_wp2_with fail
      go_meet
      case rel => exact ⟨rfl, _, rfl, fun _ => rfl⟩
    · have cc : (ln : Int) ≤ 1 := by omega
      go_wp2_with fail
      go_meet
      case rel => exact ⟨rfl, 0, rfl, fun f => absurd f c⟩
  case' rest =>
    obtain ⟨hww, y, rfl, hy⟩ := hcut
    obtain rfl := hww.symm
  go_upto_if 84 with fail
  go_cut [17] from 70 to 87 (fun x w' => w' = w ∧ ∃ v, x = .float .f64 v ∧ (2 < ln → v = lv 2))
  case first =>
    by_cases c : 2 < ln
    · obtain ⟨b, o, rfl, hb, hc⟩ := hl (by omega)
      have c0 : w.cell? ⟨b, o + 2, none⟩ = some (.float .f64 (lv 2)) := hc 2 c
      have cc : (2 : Int) < ln := by omega
      clear hc
      go_wp2_with fail
      go_meet
      case rel => exact ⟨rfl, _, rfl, fun _ => rfl⟩
    · have cc : (ln : Int) ≤ 2 := by omega
      go_wp2_with fail
      go_meet
      case rel => exact ⟨rfl, 0, rfl, fun f => absurd f c⟩
  case' rest =>
    obtain ⟨hww, z, rfl, hz⟩ := hcut
    obtain rfl := hww.symm
  have hxyz : ∀ i, i < ln → lv i = len3 x y z i := fun i hi => by
    rcases (show i = 0 ∨ i = 1 ∨ i = 2 by omega) with e | e | e <;> subst e
    · exact (hx hi).symm
    · exact (hy hi).symm
    · exact (hz hi).symm
  clear hx hy hz
  go_wp2_with fail
  refine (newSim_c _ sq0 rep).mono ?_
  rintro e w1 ⟨rfl, S, hw1, -, h28, h11, h40⟩
  have hS1 : Blk w1 w.heap.size S 113 := hw1 ▸ Blk.new _ _ _
  have e1 : Ex (fun _ => False) w w1 := hw1 ▸ (Ex.refl _ _).alloc _
  clear hw1
  go_wp2_with fail
  refine (newTxn_c _ ca).mono ?_
  rintro e w2 ⟨rfl, TA, hw2, hA9, hA26⟩
  have hA2 : Blk w2 w1.heap.size TA 148 := hw2 ▸ Blk.new _ _ _
  have e2 : Ex (fun _ => False) w1 w2 := hw2 ▸ (Ex.refl _ _).alloc _
  clear hw2
  go_wp2_with fail
  refine (newTxn_c _ cb).mono ?_
  rintro e w3 ⟨rfl, TB, hw3, hB9, hB26⟩
  have hB3 : Blk w3 w2.heap.size TB 148 := hw3 ▸ Blk.new _ _ _
  have e3 : Ex (fun _ => False) w2 w3 := hw3 ▸ (Ex.refl _ _).alloc _
  clear hw3
  go_wp2_with fail
  refine (newCohort_c _ 0).mono ?_
  rintro e w4 ⟨rfl, CA, hw4, -, -, -⟩
  have e4 : Ex (fun _ => False) w3 w4 := hw4 ▸ (Ex.refl _ _).alloc _
  clear hw4
  go_wp2_with fail
  refine (newCohort_c _ 1).mono ?_
  rintro e w5 ⟨rfl, CB, hw5, -, -, -⟩
  have e5 : Ex (fun _ => False) w4 w5 := hw5 ▸ (Ex.refl _ _).alloc _
  clear hw5
  have z1 : w.heap.size < w1.heap.size := hS1.lt
  have z2 : w1.heap.size < w2.heap.size := hA2.lt
  have z3 := hB3.lt
  have z4 := e4.size
  have z5 := e5.size
  obtain ⟨i0, hi0, hz0, hz1, hz2⟩ := info_parts info25
  go_upto_region 20 with ((at_make; refine wpList_make_own _ rfl _ _ 61 rfl w.heap.size 25 i0 _ 1 Try.underlying61 hi0 hz0 hz1 _ _ _ kn rfl rfl rfl (by rw [hz2]; omega) (by unfold maxLen; omega) (by omega) ?_; intro w6 hseqA hgr6))
  have e6 : Ex (fun _ => False) w5 w6 := (Ex.refl _ _).grown hgr6 (fun k e => by cases e)
  have z6 := e6.size
  clear hgr6
  go_wp2_with ((at_make; refine wpList_make_own _ rfl _ _ 61 rfl w.heap.size 25 i0 _ 1 Try.underlying61 hi0 hz0 hz1 _ _ _ kn rfl rfl rfl (by rw [hz2]; omega) (by unfold maxLen; omega) (by omega) ?_; intro w7 hseqB hgr7))
  have e7 : Ex (fun _ => False) w6 w7 := (Ex.refl _ _).grown hgr7 (fun k e => by cases e)
  clear hgr7
  obtain ⟨sA, hsA, _⟩ := owns_blk hseqA
  have zz : w5.heap.size < w6.heap.size := hsA.lt
  have hS7 := (((((hS1.ex e2 (fun f => f)).ex e3 (fun f => f)).ex e4 (fun f => f)).ex e5 (fun f => f)).ex e6 (fun f => f)).ex e7 (fun f => f)
  have hA7 := ((((hA2.ex e3 (fun f => f)).ex e4 (fun f => f)).ex e5 (fun f => f)).ex e6 (fun f => f)).ex e7 (fun f => f)
  have hB7 := (((hB3.ex e4 (fun f => f)).ex e5 (fun f => f)).ex e6 (fun f => f)).ex e7 (fun f => f)
  have hseqA7 := owns_ex hseqA e7 (fun g _ f => f)
  have hBel : Below w.heap.size w w7 := ((((((e1.trans e2).trans e3).trans e4).trans e5).trans e6).trans e7).below (Nat.le_refl _) (fun _ _ f => f)
  have hnt := neq_txn
  have hnc := neq_cohort
  have hnj := neq_job
  clear e1 e2 e3 e4 e5 e6 e7 hS1 hA2 hB3 hseqA hsA
  have sq00 : S[28]? = some (.int .u64 (sqAt sq0 0)) := by rw [h28]; unfold sqAt; have := h6.out; congr 2; omega

  go_loopg [25, 23, 24] kn (fun kk x xa xb wr => ∃ i nA nB : Nat, x = .int .i64 i ∧ kk = kn - i ∧ i ≤ kn ∧ nA ≤ i ∧ nB ≤ i ∧ Below w.heap.size w wr ∧ SimE wr w.heap.size (sqAt sq0 i) rep
      ∧ ∃ gA cA gB cB, xa = .slice (some ⟨gA, 0, none⟩) nA cA ∧ xb = .slice (some ⟨gB, 0, none⟩) nB cB ∧ gA ≠ gB ∧ SideE wr w.heap.size w1.heap.size nA ca gA cA ∧ SideE wr w.heap.size w2.heap.size nB cb gB cB)
  case atStart => exact ⟨0, 0, 0, rfl, rfl, Nat.zero_le _, Nat.zero_le _, Nat.zero_le _, hBel, ⟨S, hS7, sq00, h40, h11⟩, _, _, _, _, rfl, rfl, by omega, ⟨_, _, _, _, _, _, [], Jobs.start hA7 hA26 hA9, hseqA7, fun i hi => by omega⟩, ⟨_, _, _, _, _, _, [], Jobs.start hB7 hB26 hB9, hseqB, fun i hi => by omega⟩⟩
  case round =>
    obtain ⟨i, nA, nB, rfl, rfl, hi, hnA, hnB, hBl, ⟨S', hS', s28, s40, s11⟩, gA, cA, gB, cB, rfl, rfl, hgg, ⟨TA', aA, qA, xsA, jbA, sqA, sxA, hJA, hSA⟩, ⟨TB', aB, qB, xsB, jbB, sqB, sxB, hJB, hSB⟩⟩ := hrel
    by_cases hlt : i < kn
    · obtain ⟨kb, ko, rfl, hkb, hkc⟩ := hk (by omega)
      obtain ⟨kx, hkx⟩ : ∃ k, k = kv i := ⟨_, rfl⟩
      have ck : wr.cell? ⟨kb, ko + i, none⟩ = some (.int .u8 kx) := by rw [hkx]; exact (hBl.cell (p := ⟨kb, ko + i, none⟩) hkb).trans (hkc i hlt)
      have hi' : (i : Int) < kn := by omega
      clear hkx hk hkc
      obtain ⟨s1, hs1⟩ : ∃ s, s = sqAt sq0 (i + 1) := ⟨_, rfl⟩
      have hw31 : IntKind.u64.wrap (IntKind.u64.wrap (sq0 + (i : Int)) + 1) = s1 := by rw [hs1, IntKind.wrap_u64, IntKind.wrap_u64]; unfold sqAt; omega
      have HS1 : Hid (IntKind.u64.wrap (sqAt sq0 i + 1) = s1) := by rw [hs1]; exact sqAt_succ sq0 i
      have HS := hide hs1
      clear hs1
      go_upto_region 24 with fail
      go_cut [26] from 109 to 118 (fun x w' => w' = wr ∧ ∃ ob : Bool, x = .bool ob)
      case first =>
        by_cases ct : i < tn
        · obtain ⟨tb, tx, rfl, htb, htc⟩ := ht (by omega)
          have cc : (i : Int) < tn := by omega
          have c0 : wr.cell? ⟨tb, tx + i, none⟩ = some (.bool (tv i)) := (hBl.cell (p := ⟨tb, tx + i, none⟩) htb).trans (htc i ct)
          clear htc ht
          go_wp2_with fail
          go_meet
          case rel => exact ⟨rfl, _, rfl⟩
        · have cc : (tn : Int) ≤ i := by omega
          go_wp2_with fail
          go_meet
          case rel => exact ⟨rfl, _, rfl⟩
      case rest =>
        obtain ⟨hww, ob, rfl⟩ := hcut
        obtain rfl := hww.symm
        cases ob
        · go_wp2_with fail
          refine (zzTxnJob_c _ w.heap.size w1.heap.size ln nA qA w.heap.size (some ⟨w3.heap.size, 0, none⟩) aA S' TA' kx (sqAt sq0 i) s1 rep ca x y z xsA hS' s28 s40 s11 h3 (unhide HS1) hJA.txn hJA.t26 hJA.t9 hJA.own hBl.size (by omega)).mono ?_
          rintro e wj ⟨jb, rfl, hO⟩
          obtain ⟨g', cap', hX1⟩ := hJA.more hS' hO
          have hsj := hO.sim
          obtain ⟨Jn, hJn, hD⟩ := hO.job
          have bb : w1.heap.size ≠ w2.heap.size := by omega
          have hY1 := hJB.ex hO.ex (by
            rintro (q | q | q)
            · exact hJB.txn.ne_type hS' (by decide) q
            · exact bb q.symm
            · exact owns_ne hJA.own hJB.txn (by decide) q.symm) (fun g hg => by
            rintro (q | q | q)
            · exact owns_ne hJB.own hS' (by decide) (by rw [← q]; exact hg)
            · exact owns_ne hJB.own hJA.txn (by decide) (by rw [← q]; exact hg)
            · exact hJA.apart hJB bb g q.symm hg) (fun b J hJ => by
            rintro (q | q | q)
            · exact hJ.ne_type hS' (by decide) q
            · exact hJ.ne_type hJA.txn (by decide) q
            · exact owns_ne hJA.own hJ (by decide) q.symm)
          obtain ⟨cuX, hcuX, _, _, _, _, hloX⟩ := owns_blk hSA.own
          obtain ⟨cuY, hcuY, _, _, _, _, hloY⟩ := owns_blk hSB.own
          have hSX1 := hSA.ex hO.ex (by
            rintro (q | q | q)
            · exact hcuX.ne_type hS' (by decide) q
            · exact hcuX.ne_type hJA.txn (by decide) q
            · exact owns_ne hJA.own hcuX (by decide) q.symm)
          have hSY1 := hSB.ex hO.ex (by
            rintro (q | q | q)
            · exact hcuY.ne_type hS' (by decide) q
            · exact hcuY.ne_type hJA.txn (by decide) q
            · exact owns_ne hJA.own hcuY (by decide) q.symm)
          have hBj : Below w.heap.size w wj := hBl.trans (hO.ex.below hBl.size (fun k hk => by
            rintro (q | q | q)
            · omega
            · omega
            · have := own_lo hJA.own q; omega))
          have ckj : wj.cell? ⟨kb, ko + i, none⟩ = some (.int .u8 kx) := (hBj.cell (p := ⟨kb, ko + i, none⟩) hkb).trans ((hBl.cell (p := ⟨kb, ko + i, none⟩) hkb).symm.trans ck)
          have j0 : wj.cell? ⟨jb, 0, none⟩ = some (.int .u8 kx) := hJn.cellv hD.kind
          have j1 : wj.cell? ⟨jb, 1, none⟩ = some (.bool ca) := hJn.cellv hD.cleanUp
          have j2 : wj.cell? ⟨jb, 2, none⟩ = some (.bool ((kx == 1) && rep)) := hJn.cellv hD.isAhead
          have j3 : wj.cell? ⟨jb, 3, none⟩ = some (.pointer (some ⟨w1.heap.size, 0, none⟩)) := hJn.cellv hD.txn
          have j9 : wj.cell? ⟨jb, 9, none⟩ = some (.pointer (some ⟨w3.heap.size, 0, none⟩)) := hJn.cellv hD.cohort
          have s28' : (S'.setIfInBounds 28 (.int .u64 s1))[28]? = some (.int .u64 s1) := set_at s28 _
          have s40' : (S'.setIfInBounds 28 (.int .u64 s1))[40]? = some (.slice none 0 0) := by rw [set_ne _ _ _ _ (by omega)]; exact s40
          have s11' : (S'.setIfInBounds 28 (.int .u64 s1))[11]? = some (.bool rep) := by rw [set_ne _ _ _ _ (by omega)]; exact s11
          clear hO hS' s28 s40 s11 hJA hJB hSA hSB hcuX hcuY hBl ck
          go_upto_region 32 with fail
          have J3 := hide j3
          have J9 := hide j9
          have J1 := hide j1
          have J2 := hide j2
          clear j3 j9 j1 j2
          go_quiet ((first | (go_at_call 28; exact Calls.quiet_of_same (jobKind_c _ _ _ j0)) | (go_at_call 29; exact Calls.quiet_of_same (jobTxn_c _ _ _ (unhide J3))) | (go_at_call 30; exact Calls.quiet_of_same (jobCohort_c _ _ _ (unhide J9)))))
          have hkk := ex_drewN wj nq
          have c31 : (wj.drewN nq).cell? ⟨jb, 1, none⟩ = some (.bool ca) := unhide J1
          have c32 : (wj.drewN nq).cell? ⟨jb, 2, none⟩ = some (.bool ((kx == 1) && rep)) := unhide J2
          have ckk : (wj.drewN nq).cell? ⟨kb, ko + i, none⟩ = some (.int .u8 kx) := ckj
          generalize wj.drewN nq = wk at *
          have C31 := hide c31
          have C32 := hide c32
          clear c31 c32 J1 J2 J3 J9 j0 ckj
          go_upto_region 34 with fail
          go_cut [185] from 169 to 184 (fun x w' => x = .bool false ∧ NewOnly wk w')
          case first =>
            cases hk1 : (kx == 1)
            all_goals
              rw [hk1] at C32
              go_quiet ((first | (go_at_call 31; exact Calls.quiet_of_same (jobCleanUp_c _ _ _ (unhide C31))) | (go_at_call 32; exact Calls.quiet_of_same (jobAhead_c _ _ _ (unhide C32)))))
              go_wp2_with fail
              go_meet
              case rel => exact ⟨by simp, ex_drewN _ _⟩
          case rest =>
            obtain ⟨rfl, hnew⟩ := hcut
            have hwc : Ex (fun _ => False) wj wc := hkk.trans hnew
            have hXc := hX1.ex hwc (fun f => f) (fun _ _ f => f) (fun _ _ _ f => f)
            have hYc := hY1.ex hwc (fun f => f) (fun _ _ f => f) (fun _ _ _ f => f)
            have hSXc := hSX1.ex hwc (fun f => f)
            have hSYc := hSY1.ex hwc (fun f => f)
            have hsc := hsj.ex hwc (fun f => f)
            have hJc := hJn.ex hwc (fun f => f)
            have hBc : Below w.heap.size w wc := hBj.trans (hwc.below hBj.size (fun _ _ f => f))
            clear hX1 hY1 hSX1 hSY1 hsj hJn hBj hwc hkk hnew C31 C32 ckk
            go_wp2_with fail
            refine (jobLive_c _ jb _ (hJc.cellv hD.index)).mono ?_
            rintro e w' ⟨rfl, hw'⟩
            obtain rfl := hw'.symm
            go_wp2_with fail
            refine (jobSeq_c _ jb _ (hJc.cellv hD.seq)).mono ?_
            rintro e w' ⟨rfl, hw'⟩
            obtain rfl := hw'.symm
            go_wp2_with fail
            refine (simSeq_c _ _ _ (hsc.cellv s28')).mono ?_
            rintro e w' ⟨rfl, hw'⟩
            obtain rfl := hw'.symm
            go_wp2_with fail
            refine (jobN_c _ jb _ (hJc.cellv hD.len)).mono ?_
            rintro e w' ⟨rfl, hw'⟩
            obtain rfl := hw'.symm
            go_wp2_with fail
            refine (jobAt_c _ jb _ (hJc.cellv hD.place)).mono ?_
            rintro e w' ⟨rfl, hw'⟩
            obtain rfl := hw'.symm
            go_wp2_with fail
            refine (jobSlot_c _ jb _ (hJc.cellv hD.slot)).mono ?_
            rintro e w' ⟨rfl, hw'⟩
            obtain rfl := hw'.symm
            go_wp2_with fail
            go_loopg [33] ln (fun kk x wq => ∃ k : Nat, x = .int .i64 k ∧ kk = ln - k ∧ k ≤ ln ∧ NewOnly wc wq)
            case atStart => exact ⟨0, rfl, rfl, Nat.zero_le _, Ex.refl _ _⟩
            case round =>
              obtain ⟨k, rfl, rfl, hkl, hn2⟩ := hrel
              have hJr := hJc.ex hn2 (fun f => f)
              have hBr : Below w.heap.size w wr := hBc.trans (hn2.below hBc.size (fun _ _ f => f))
              by_cases hkt : k < ln
              · obtain ⟨lb, lo, rfl, hlb, hlc⟩ := hl (by omega)
                obtain ⟨fv, hfv⟩ : ∃ v, v = lv k := ⟨_, rfl⟩
                have cl : wr.cell? ⟨lb, lo + k, none⟩ = some (.float .f64 fv) := by rw [hfv]; exact (hBr.cell (p := ⟨lb, lo + k, none⟩) hlb).trans (hlc k hkt)
                have hst := hD.steps k hkt
                rw [← hxyz k hkt, ← hfv] at hst
                have kk' : (k : Int) < ln := by omega
                have d1 : wr.cell? ⟨jb, 15 + k * 2, none⟩ = some (.pointer none) := hJr.cellv hst.1
                have d2 : wr.cell? ⟨jb, 15 + k * 2 + 1, none⟩ = some (.float .f64 fv) := hJr.cellv hst.2
                have D1 := hide d1
                have D2 := hide d2
                clear hst d1 d2 hfv hl hlc
                go_upto_region 43 with fail
                go_quiet ((first | (go_at_call 40; exact Calls.quiet_of_same (stepLength_c _ _ _ _ (by omega) (unhide D2))) | (go_at_call 39; exact Calls.quiet_of_same (sameFloat_c _ _)) | (go_at_call 41; exact Calls.quiet_of_same (stepStation_c _ _ _ _ (by omega) (unhide D1)))))
                go_wp2_with fail
                go_roundg (ln - (k + 1))
                case measure => omega
                case rel => exact ⟨k + 1, by go_num, rfl, hkt, hn2.trans (ex_drewN _ _)⟩
              · have hkc : (ln : Int) ≤ k := by omega
                have hXr := hXc.ex hn2 (fun f => f) (fun _ _ f => f) (fun _ _ _ f => f)
                have hYr := hYc.ex hn2 (fun f => f) (fun _ _ f => f) (fun _ _ _ f => f)
                have hSXr := hSXc.ex hn2 (fun f => f)
                have hSYr := hSYc.ex hn2 (fun f => f)
                have hsr := hsc.ex hn2 (fun f => f)
                clear hXc hYc hSXc hSYc hsc hJc hBc hJr hD
                go_wp2_with fail
                refine (jobsLen_c _ _ (nA + 1) _ _ (hXr.txn.cellv hXr.t9)).mono ?_
                rintro e w' ⟨rfl, hw'⟩
                obtain rfl := hw'.symm
                go_wp2_with fail
                have qj : (xsA ++ [Value.pointer (some ⟨jb, 0, none⟩)])[nA]? = some (.pointer (some ⟨jb, 0, none⟩)) := by
                  have h := (hXr.job nA (by omega)).1
                  simp only at h
                  exact h
                refine (jobAt_k_c _ _ g' (nA + 1) cap' nA _ (hXr.txn.cellv hXr.t9) (by omega) (owns_cell hXr.own qj)).mono ?_
                rintro e w' ⟨rfl, hw'⟩
                obtain rfl := hw'.symm
                clear qj
                obtain ⟨cuX, hcuX, _, _, _, _, hloX⟩ := owns_blk hSXr.own
                obtain ⟨cuY, hcuY, _, _, _, _, hloY⟩ := owns_blk hSYr.own
                have hyl := hcuY.lt
                go_wp2_with ((at_builtin; refine wpList_append_lies _ rfl _ _ _ rfl w.heap.size 25 i0 _ 1 8 Try.underlying61 hi0 hz0 hz1 hz2 rfl (by omega) (.slice (some ⟨gA, 0, none⟩) nA cA) nA sxA (by rfl) (hSXr.own.alloc _) ⟨wr.heap.size, 0, none⟩ 1 1 [.int .u64 s1] (by rfl) (by rfl) (World.news_of_block (cs := #[.int .u64 s1]) (t := 25) (fr := (0, 0)) (heap_alloc_new wr _)) (by simp [Value.oneCell']) (by omega) (by unfold maxLen; omega) (by omega) (by have := hBr.size; simp; omega) (wr.heap.size + 1) (by simp) ?_; intro gg cap2 w8 hown8 hgrow hat hlt8))
                go_roundg (kn - (i + 1))
                case measure => omega
                case rel =>
                  have ex8 : Ex (fun k => k = gA) wr w8 := ((Ex.refl (fun k => k = gA) wr).alloc _).grown hgrow (fun k e => Or.inl (by simpa [Value.ownBlock] using e.symm))
                  have hX8 := hXr.ex ex8 (hXr.txn.ne_type hcuX (by decide)) (fun g hg e => owns_ne hXr.own hcuX (by decide) (by rw [← e]; exact hg)) (fun b J hJ e => hJ.ne_type hcuX (by decide) e)
                  have hY8 := hYr.ex ex8 (hYr.txn.ne_type hcuX (by decide)) (fun g hg e => owns_ne hYr.own hcuX (by decide) (by rw [← e]; exact hg)) (fun b J hJ e => hJ.ne_type hcuX (by decide) e)
                  have hSY8 := hSYr.ex ex8 (fun e => hgg e.symm)
                  have hs8 := hsr.ex ex8 (hsr.ne_type hcuX (by decide))
                  have hB8 : Below w.heap.size w w8 := hBr.trans (ex8.below hBr.size (fun k hk e => by omega))
                  have hl8 : sxA.length = nA := by have := hSXr.own.1; omega
                  have hSX8 := Seqs.more hl8 hSXr.val hown8
                  have hgy : gg ≠ gB := by
                    rcases hat with h | h
                    · have : gA = gg := by simpa [Value.ownBlock] using h
                      omega
                    · omega
                  have hs1 := unhide HS
                  subst hs1
                  exact ⟨i + 1, nA + 1, nB, by go_num, rfl, hlt, by omega, by omega, hB8, ⟨_, hs8, s28', s40', s11'⟩, gg, cap2, gB, cB, rfl, rfl, hgy, ⟨_, _, _, _, _, _, _, hX8, hSX8⟩, ⟨_, _, _, _, _, _, _, hY8, hSY8⟩⟩
        · go_wp2_with fail
          refine (zzTxnJob_c _ w.heap.size w2.heap.size ln nB qB w.heap.size (some ⟨w4.heap.size, 0, none⟩) aB S' TB' kx (sqAt sq0 i) s1 rep cb x y z xsB hS' s28 s40 s11 h3 (unhide HS1) hJB.txn hJB.t26 hJB.t9 hJB.own hBl.size (by omega)).mono ?_
          rintro e wj ⟨jb, rfl, hO⟩
          obtain ⟨g', cap', hX1⟩ := hJB.more hS' hO
          have hsj := hO.sim
          obtain ⟨Jn, hJn, hD⟩ := hO.job
          have bb : w2.heap.size ≠ w1.heap.size := by omega
          have hY1 := hJA.ex hO.ex (by
            rintro (q | q | q)
            · exact hJA.txn.ne_type hS' (by decide) q
            · exact bb q.symm
            · exact owns_ne hJB.own hJA.txn (by decide) q.symm) (fun g hg => by
            rintro (q | q | q)
            · exact owns_ne hJA.own hS' (by decide) (by rw [← q]; exact hg)
            · exact owns_ne hJA.own hJB.txn (by decide) (by rw [← q]; exact hg)
            · exact hJB.apart hJA bb g q.symm hg) (fun b J hJ => by
            rintro (q | q | q)
            · exact hJ.ne_type hS' (by decide) q
            · exact hJ.ne_type hJB.txn (by decide) q
            · exact owns_ne hJB.own hJ (by decide) q.symm)
          obtain ⟨cuX, hcuX, _, _, _, _, hloX⟩ := owns_blk hSB.own
          obtain ⟨cuY, hcuY, _, _, _, _, hloY⟩ := owns_blk hSA.own
          have hSX1 := hSB.ex hO.ex (by
            rintro (q | q | q)
            · exact hcuX.ne_type hS' (by decide) q
            · exact hcuX.ne_type hJB.txn (by decide) q
            · exact owns_ne hJB.own hcuX (by decide) q.symm)
          have hSY1 := hSA.ex hO.ex (by
            rintro (q | q | q)
            · exact hcuY.ne_type hS' (by decide) q
            · exact hcuY.ne_type hJB.txn (by decide) q
            · exact owns_ne hJB.own hcuY (by decide) q.symm)
          have hBj : Below w.heap.size w wj := hBl.trans (hO.ex.below hBl.size (fun k hk => by
            rintro (q | q | q)
            · omega
            · omega
            · have := own_lo hJB.own q; omega))
          have ckj : wj.cell? ⟨kb, ko + i, none⟩ = some (.int .u8 kx) := (hBj.cell (p := ⟨kb, ko + i, none⟩) hkb).trans ((hBl.cell (p := ⟨kb, ko + i, none⟩) hkb).symm.trans ck)
          have j0 : wj.cell? ⟨jb, 0, none⟩ = some (.int .u8 kx) := hJn.cellv hD.kind
          have j1 : wj.cell? ⟨jb, 1, none⟩ = some (.bool cb) := hJn.cellv hD.cleanUp
          have j2 : wj.cell? ⟨jb, 2, none⟩ = some (.bool ((kx == 1) && rep)) := hJn.cellv hD.isAhead
          have j3 : wj.cell? ⟨jb, 3, none⟩ = some (.pointer (some ⟨w2.heap.size, 0, none⟩)) := hJn.cellv hD.txn
          have j9 : wj.cell? ⟨jb, 9, none⟩ = some (.pointer (some ⟨w4.heap.size, 0, none⟩)) := hJn.cellv hD.cohort
          have s28' : (S'.setIfInBounds 28 (.int .u64 s1))[28]? = some (.int .u64 s1) := set_at s28 _
          have s40' : (S'.setIfInBounds 28 (.int .u64 s1))[40]? = some (.slice none 0 0) := by rw [set_ne _ _ _ _ (by omega)]; exact s40
          have s11' : (S'.setIfInBounds 28 (.int .u64 s1))[11]? = some (.bool rep) := by rw [set_ne _ _ _ _ (by omega)]; exact s11
          clear hO hS' s28 s40 s11 hJB hJA hSB hSA hcuX hcuY hBl ck
          go_upto_region 32 with fail
          have J3 := hide j3
          have J9 := hide j9
          have J1 := hide j1
          have J2 := hide j2
          clear j3 j9 j1 j2
          go_quiet ((first | (go_at_call 28; exact Calls.quiet_of_same (jobKind_c _ _ _ j0)) | (go_at_call 29; exact Calls.quiet_of_same (jobTxn_c _ _ _ (unhide J3))) | (go_at_call 30; exact Calls.quiet_of_same (jobCohort_c _ _ _ (unhide J9)))))
          have hkk := ex_drewN wj nq
          have c31 : (wj.drewN nq).cell? ⟨jb, 1, none⟩ = some (.bool cb) := unhide J1
          have c32 : (wj.drewN nq).cell? ⟨jb, 2, none⟩ = some (.bool ((kx == 1) && rep)) := unhide J2
          have ckk : (wj.drewN nq).cell? ⟨kb, ko + i, none⟩ = some (.int .u8 kx) := ckj
          generalize wj.drewN nq = wk at *
          have C31 := hide c31
          have C32 := hide c32
          clear c31 c32 J1 J2 J3 J9 j0 ckj
          go_upto_region 34 with fail
          go_cut [185] from 169 to 184 (fun x w' => x = .bool false ∧ NewOnly wk w')
          case first =>
            cases hk1 : (kx == 1)
            all_goals
              rw [hk1] at C32
              go_quiet ((first | (go_at_call 31; exact Calls.quiet_of_same (jobCleanUp_c _ _ _ (unhide C31))) | (go_at_call 32; exact Calls.quiet_of_same (jobAhead_c _ _ _ (unhide C32)))))
              go_wp2_with fail
              go_meet
              case rel => exact ⟨by simp, ex_drewN _ _⟩
          case rest =>
            obtain ⟨rfl, hnew⟩ := hcut
            have hwc : Ex (fun _ => False) wj wc := hkk.trans hnew
            have hXc := hX1.ex hwc (fun f => f) (fun _ _ f => f) (fun _ _ _ f => f)
            have hYc := hY1.ex hwc (fun f => f) (fun _ _ f => f) (fun _ _ _ f => f)
            have hSXc := hSX1.ex hwc (fun f => f)
            have hSYc := hSY1.ex hwc (fun f => f)
            have hsc := hsj.ex hwc (fun f => f)
            have hJc := hJn.ex hwc (fun f => f)
            have hBc : Below w.heap.size w wc := hBj.trans (hwc.below hBj.size (fun _ _ f => f))
            clear hX1 hY1 hSX1 hSY1 hsj hJn hBj hwc hkk hnew C31 C32 ckk
            go_wp2_with fail
            refine (jobLive_c _ jb _ (hJc.cellv hD.index)).mono ?_
            rintro e w' ⟨rfl, hw'⟩
            obtain rfl := hw'.symm
            go_wp2_with fail
            refine (jobSeq_c _ jb _ (hJc.cellv hD.seq)).mono ?_
            rintro e w' ⟨rfl, hw'⟩
            obtain rfl := hw'.symm
            go_wp2_with fail
            refine (simSeq_c _ _ _ (hsc.cellv s28')).mono ?_
            rintro e w' ⟨rfl, hw'⟩
            obtain rfl := hw'.symm
            go_wp2_with fail
            refine (jobN_c _ jb _ (hJc.cellv hD.len)).mono ?_
            rintro e w' ⟨rfl, hw'⟩
            obtain rfl := hw'.symm
            go_wp2_with fail
            refine (jobAt_c _ jb _ (hJc.cellv hD.place)).mono ?_
            rintro e w' ⟨rfl, hw'⟩
            obtain rfl := hw'.symm
            go_wp2_with fail
            refine (jobSlot_c _ jb _ (hJc.cellv hD.slot)).mono ?_
            rintro e w' ⟨rfl, hw'⟩
            obtain rfl := hw'.symm
            go_wp2_with fail
            go_loopg [33] ln (fun kk x wq => ∃ k : Nat, x = .int .i64 k ∧ kk = ln - k ∧ k ≤ ln ∧ NewOnly wc wq)
            case atStart => exact ⟨0, rfl, rfl, Nat.zero_le _, Ex.refl _ _⟩
            case round =>
              obtain ⟨k, rfl, rfl, hkl, hn2⟩ := hrel
              have hJr := hJc.ex hn2 (fun f => f)
              have hBr : Below w.heap.size w wr := hBc.trans (hn2.below hBc.size (fun _ _ f => f))
              by_cases hkt : k < ln
              · obtain ⟨lb, lo, rfl, hlb, hlc⟩ := hl (by omega)
                obtain ⟨fv, hfv⟩ : ∃ v, v = lv k := ⟨_, rfl⟩
                have cl : wr.cell? ⟨lb, lo + k, none⟩ = some (.float .f64 fv) := by rw [hfv]; exact (hBr.cell (p := ⟨lb, lo + k, none⟩) hlb).trans (hlc k hkt)
                have hst := hD.steps k hkt
                rw [← hxyz k hkt, ← hfv] at hst
                have kk' : (k : Int) < ln := by omega
                have d1 : wr.cell? ⟨jb, 15 + k * 2, none⟩ = some (.pointer none) := hJr.cellv hst.1
                have d2 : wr.cell? ⟨jb, 15 + k * 2 + 1, none⟩ = some (.float .f64 fv) := hJr.cellv hst.2
                have D1 := hide d1
                have D2 := hide d2
                clear hst d1 d2 hfv hl hlc
                go_upto_region 43 with fail
                go_quiet ((first | (go_at_call 40; exact Calls.quiet_of_same (stepLength_c _ _ _ _ (by omega) (unhide D2))) | (go_at_call 39; exact Calls.quiet_of_same (sameFloat_c _ _)) | (go_at_call 41; exact Calls.quiet_of_same (stepStation_c _ _ _ _ (by omega) (unhide D1)))))
                go_wp2_with fail
                go_roundg (ln - (k + 1))
                case measure => omega
                case rel => exact ⟨k + 1, by go_num, rfl, hkt, hn2.trans (ex_drewN _ _)⟩
              · have hkc : (ln : Int) ≤ k := by omega
                have hXr := hXc.ex hn2 (fun f => f) (fun _ _ f => f) (fun _ _ _ f => f)
                have hYr := hYc.ex hn2 (fun f => f) (fun _ _ f => f) (fun _ _ _ f => f)
                have hSXr := hSXc.ex hn2 (fun f => f)
                have hSYr := hSYc.ex hn2 (fun f => f)
                have hsr := hsc.ex hn2 (fun f => f)
                clear hXc hYc hSXc hSYc hsc hJc hBc hJr hD
                go_wp2_with fail
                refine (jobsLen_c _ _ (nB + 1) _ _ (hXr.txn.cellv hXr.t9)).mono ?_
                rintro e w' ⟨rfl, hw'⟩
                obtain rfl := hw'.symm
                go_wp2_with fail
                have qj : (xsB ++ [Value.pointer (some ⟨jb, 0, none⟩)])[nB]? = some (.pointer (some ⟨jb, 0, none⟩)) := by
                  have h := (hXr.job nB (by omega)).1
                  simp only at h
                  exact h
                refine (jobAt_k_c _ _ g' (nB + 1) cap' nB _ (hXr.txn.cellv hXr.t9) (by omega) (owns_cell hXr.own qj)).mono ?_
                rintro e w' ⟨rfl, hw'⟩
                obtain rfl := hw'.symm
                clear qj
                obtain ⟨cuX, hcuX, _, _, _, _, hloX⟩ := owns_blk hSXr.own
                obtain ⟨cuY, hcuY, _, _, _, _, hloY⟩ := owns_blk hSYr.own
                have hyl := hcuY.lt
                go_wp2_with ((at_builtin; refine wpList_append_lies _ rfl _ _ _ rfl w.heap.size 25 i0 _ 1 8 Try.underlying61 hi0 hz0 hz1 hz2 rfl (by omega) (.slice (some ⟨gB, 0, none⟩) nB cB) nB sxB (by rfl) (hSXr.own.alloc _) ⟨wr.heap.size, 0, none⟩ 1 1 [.int .u64 s1] (by rfl) (by rfl) (World.news_of_block (cs := #[.int .u64 s1]) (t := 25) (fr := (0, 0)) (heap_alloc_new wr _)) (by simp [Value.oneCell']) (by omega) (by unfold maxLen; omega) (by omega) (by have := hBr.size; simp; omega) (wr.heap.size + 1) (by simp) ?_; intro gg cap2 w8 hown8 hgrow hat hlt8))
                go_roundg (kn - (i + 1))
                case measure => omega
                case rel =>
                  have ex8 : Ex (fun k => k = gB) wr w8 := ((Ex.refl (fun k => k = gB) wr).alloc _).grown hgrow (fun k e => Or.inl (by simpa [Value.ownBlock] using e.symm))
                  have hX8 := hXr.ex ex8 (hXr.txn.ne_type hcuX (by decide)) (fun g hg e => owns_ne hXr.own hcuX (by decide) (by rw [← e]; exact hg)) (fun b J hJ e => hJ.ne_type hcuX (by decide) e)
                  have hY8 := hYr.ex ex8 (hYr.txn.ne_type hcuX (by decide)) (fun g hg e => owns_ne hYr.own hcuX (by decide) (by rw [← e]; exact hg)) (fun b J hJ e => hJ.ne_type hcuX (by decide) e)
                  have hSY8 := hSYr.ex ex8 hgg
                  have hs8 := hsr.ex ex8 (hsr.ne_type hcuX (by decide))
                  have hB8 : Below w.heap.size w w8 := hBr.trans (ex8.below hBr.size (fun k hk e => by omega))
                  have hl8 : sxB.length = nB := by have := hSXr.own.1; omega
                  have hSX8 := Seqs.more hl8 hSXr.val hown8
                  have hgy : gg ≠ gA := by
                    rcases hat with h | h
                    · have : gB = gg := by simpa [Value.ownBlock] using h
                      omega
                    · omega
                  have hs1 := unhide HS
                  subst hs1
                  exact ⟨i + 1, nA, nB + 1, by go_num, rfl, hlt, by omega, by omega, hB8, ⟨_, hs8, s28', s40', s11'⟩, gA, cA, gg, cap2, rfl, rfl, (fun e => hgy e.symm), ⟨_, _, _, _, _, _, _, hY8, hSY8⟩, ⟨_, _, _, _, _, _, _, hX8, hSX8⟩⟩
    · have hie : (kn : Int) ≤ i := by omega
      clear hk ht hl hxyz
      go_wp2_with fail
      refine (jobsLen_c _ _ nA _ _ (hJA.txn.cellv hJA.t9)).mono ?_
      rintro e w' ⟨rfl, hw'⟩
      obtain rfl := hw'.symm
      go_wp2_with fail
      refine (jobsLen_c _ _ nB _ _ (hJB.txn.cellv hJB.t9)).mono ?_
      rintro e w' ⟨rfl, hw'⟩
      obtain rfl := hw'.symm
      go_wp2_with fail
      go_loopg [34] nA (fun kk x wq => ∃ k : Nat, x = .int .i64 k ∧ kk = nA - k ∧ k ≤ nA ∧ NewOnly wr wq)
      case atStart => exact ⟨0, rfl, rfl, Nat.zero_le _, Ex.refl _ _⟩
      case round =>
        obtain ⟨k, rfl, rfl, hkl, hn2⟩ := hrel
        by_cases hkt : k < nA
        · have hJr := hJA.ex hn2 (fun f => f) (fun _ _ f => f) (fun _ _ _ f => f)
          have hSr := hSA.ex hn2 (fun f => f)
          obtain ⟨gj, cj, hv, _, _⟩ := hJr.own.form (by omega)
          injection hv with q1 q2 q3
          subst q1
          subst q3
          obtain ⟨xk, Jk, hJk, k24, k23, k3⟩ := hJr.job k hkt
          obtain ⟨sv, hsv⟩ : ∃ s, s = sqA k := ⟨_, rfl⟩
          have cs : wr.cell? ⟨gA, k, none⟩ = some (.int .u64 sv) := by rw [hsv]; exact owns_cell hSr.own (hSr.val k hkt)
          rw [← hsv] at k23
          have d24 : wr.cell? ⟨jbA k, 24, none⟩ = some (.int .i64 k) := hJk.cellv k24
          have d23 : wr.cell? ⟨jbA k, 23, none⟩ = some (.int .u64 sv) := hJk.cellv k23
          have d3 : wr.cell? ⟨jbA k, 3, none⟩ = some (.pointer (some ⟨w1.heap.size, 0, none⟩)) := hJk.cellv k3
          have D24 := hide d24
          have D23 := hide d23
          have D3 := hide d3
          have kk' : (k : Int) < nA := by omega
          clear d24 d23 d3 hsv
          go_wp2_with fail
          refine (jobAt_k_c _ _ gj nA _ k _ (hJr.txn.cellv hJr.t9) hkt (owns_cell hJr.own xk)).mono ?_
          rintro e w' ⟨rfl, hw'⟩
          obtain rfl := hw'.symm
          go_upto_region 56 with fail
          go_quiet ((first | (go_at_call 33; exact Calls.quiet_of_same (jobLive_c _ _ _ (unhide D24))) | (go_at_call 34; exact Calls.quiet_of_same (jobSeq_c _ _ _ (unhide D23))) | (go_at_call 29; exact Calls.quiet_of_same (jobTxn_c _ _ _ (unhide D3)))))
          go_wp2_with fail
          go_roundg (nA - (k + 1))
          case measure => omega
          case rel => exact ⟨k + 1, by go_num, rfl, hkt, hn2.trans (ex_drewN _ _)⟩
        · have hkc : (nA : Int) ≤ k := by omega
          obtain ⟨wq0, hq0⟩ : ∃ x, x = wr := ⟨_, rfl⟩
          have hJB2 := hJB.ex hn2 (fun f => f) (fun _ _ f => f) (fun _ _ _ f => f)
          have hSB2 := hSB.ex hn2 (fun f => f)
          have hBl2 : Below w.heap.size w wr := hBl.trans (hn2.below hBl.size (fun _ _ f => f))
          rw [← hq0] at hJB2 hSB2 hBl2
          clear hJA hSA hJB hSB hBl hn2
          go_wp2_with fail
          go_loopg [36] nB (fun kk x wq => ∃ k : Nat, x = .int .i64 k ∧ kk = nB - k ∧ k ≤ nB ∧ NewOnly wq0 wq)
          case atStart => exact ⟨0, rfl, rfl, Nat.zero_le _, hq0 ▸ Ex.refl _ _⟩
          case round =>
            obtain ⟨k, rfl, rfl, hkl, hn2⟩ := hrel
            by_cases hkt : k < nB
            · have hJr := hJB2.ex hn2 (fun f => f) (fun _ _ f => f) (fun _ _ _ f => f)
              have hSr := hSB2.ex hn2 (fun f => f)
              obtain ⟨gj, cj, hv, _, _⟩ := hJr.own.form (by omega)
              injection hv with q1 q2 q3
              subst q1
              subst q3
              obtain ⟨xk, Jk, hJk, k24, k23, k3⟩ := hJr.job k hkt
              obtain ⟨sv, hsv⟩ : ∃ s, s = sqB k := ⟨_, rfl⟩
              have cs : wr.cell? ⟨gB, k, none⟩ = some (.int .u64 sv) := by rw [hsv]; exact owns_cell hSr.own (hSr.val k hkt)
              rw [← hsv] at k23
              have d24 : wr.cell? ⟨jbB k, 24, none⟩ = some (.int .i64 k) := hJk.cellv k24
              have d23 : wr.cell? ⟨jbB k, 23, none⟩ = some (.int .u64 sv) := hJk.cellv k23
              have d3 : wr.cell? ⟨jbB k, 3, none⟩ = some (.pointer (some ⟨w2.heap.size, 0, none⟩)) := hJk.cellv k3
              have D24 := hide d24
              have D23 := hide d23
              have D3 := hide d3
              have kk' : (k : Int) < nB := by omega
              clear d24 d23 d3 hsv
              go_wp2_with fail
              refine (jobAt_k_c _ _ gj nB _ k _ (hJr.txn.cellv hJr.t9) hkt (owns_cell hJr.own xk)).mono ?_
              rintro e w' ⟨rfl, hw'⟩
              obtain rfl := hw'.symm
              go_upto_region 62 with fail
              go_quiet ((first | (go_at_call 33; exact Calls.quiet_of_same (jobLive_c _ _ _ (unhide D24))) | (go_at_call 34; exact Calls.quiet_of_same (jobSeq_c _ _ _ (unhide D23))) | (go_at_call 29; exact Calls.quiet_of_same (jobTxn_c _ _ _ (unhide D3)))))
              go_wp2_with fail
              go_roundg (nB - (k + 1))
              case measure => omega
              case rel => exact ⟨k + 1, by go_num, rfl, hkt, hn2.trans (ex_drewN _ _)⟩
            · have hkc : (nB : Int) ≤ k := by omega
              have hBf : Below w.heap.size w wr := hBl2.trans (hn2.below hBl2.size (fun _ _ f => f))
              go_wp2_with fail
              go_ret
              exact ⟨rfl, hBf⟩
end fnTxnJobScriptKeepsJobsIndexed
end Go.Proofs.Qxb6613305a
