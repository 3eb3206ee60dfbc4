/-
  What came in, opened: a slice of changes, a digest.
-/
import Derived.Test.Qxb6605926aChH
import Derived.Deep.Slices
import Derived.ProofKit
import Derived.OpenShut
import Derived.ShutString
import Derived.ChangeOld
namespace Go.Proofs.Qxb6605926a
open Go.ChangeShapes Go.WideShapes Go.ChangeAt Go.RowKit

section
variable {H : Type} {enc : TypeId × Value → H} {w : World} {base : Nat} {spare : Nat → Bool} {held : Bool}

theorem el9 {n : Nat} {v : Value} {x : DataW H × List MemPlace} (h : DataW.trod enc Try.prog w base spare held n 9 [v] = some x) : ∃ y : ByteArray, v = .string y := by
  cases n with
  | zero => simp [DataW.trod] at h
  | succ n => cases v <;> simp_all [DataW.trod, Try.underlying9]
theorem el40 {n : Nat} {v : Value} {x : DataW H × List MemPlace} (h : DataW.trod enc Try.prog w base spare held n 40 [v] = some x) : ∃ y : Int, v = .int .u64 y := by
  cases n with
  | zero => simp [DataW.trod] at h
  | succ n => cases v <;> simp_all [DataW.trod, Try.underlying40]
theorem el5 {n : Nat} {v : Value} {x : DataW H × List MemPlace} (h : DataW.trod enc Try.prog w base spare held n 5 [v] = some x) : ∃ y : Int, v = .int .u8 y := by
  cases n with
  | zero => simp [DataW.trod] at h
  | succ n => cases v <;> simp_all [DataW.trod, Try.underlying5]

theorem co42 : Try.prog.cellsOf 42 = 4 := by kernel_rfl
theorem co9 : Try.prog.cellsOf 9 = 1 := by kernel_rfl
theorem co40 : Try.prog.cellsOf 40 = 1 := by kernel_rfl
theorem co23 : Try.prog.cellsOf 23 = 16 := by kernel_rfl
theorem co5 : Try.prog.cellsOf 5 = 1 := by kernel_rfl

theorem el42 {n : Nat} {cs : List Value} {x : DataW H × List MemPlace} (h : DataW.trod enc Try.prog w base spare held n 42 cs = some x) : ∃ c : Ch, cs = [.string c.op, .string c.id, .string c.addr, .int .u64 c.inc] := by
  obtain ⟨xs, m, rfl, rfl, hl, hx, hf⟩ := DataW.trod_struct Try.underlying42 h
  rw [co42] at hl
  match cs, hl with
  | [v0, v1, v2, v3], _ =>
    match xs, hx with
    | [y0, y1, y2, y3], _ =>
      have f0 := hf 0 _ rfl
      have f1 := hf 1 _ rfl
      have f2 := hf 2 _ rfl
      have f3 := hf 3 _ rfl
      simp [co9, co40] at f0 f1 f2 f3
      obtain ⟨s0, rfl⟩ := el9 f0
      obtain ⟨s1, rfl⟩ := el9 f1
      obtain ⟨s2, rfl⟩ := el9 f2
      obtain ⟨s3, rfl⟩ := el40 f3
      exact ⟨⟨s0, s1, s2, s3⟩, rfl⟩

theorem row_cells {x : Addr} {n : Nat} {f : Nat → Ch} (h : ∀ i, i < n → w.cell? (x.add (i * 4)) = some (.string (f i).op) ∧ w.cell? (x.add (i * 4 + 1)) = some (.string (f i).id) ∧ w.cell? (x.add (i * 4 + 2)) = some (.string (f i).addr) ∧ w.cell? (x.add (i * 4 + 3)) = some (.int .u64 (f i).inc)) : Row w (some x) n f := by
  intro h0
  have c0 := (h 0 h0).1
  obtain ⟨b, o, sp⟩ := x
  have hsp : sp = none := by
    cases sp with
    | none => rfl
    | some q => exfalso; simp [World.cell?, Addr.add] at c0; split at c0 <;> simp_all
  subst hsp
  have hadd : ∀ i, (⟨b, o, none⟩ : Addr).add i = ⟨b, o + i, none⟩ := fun i => by unfold Addr.add; split <;> simp_all
  refine ⟨b, o, rfl, ?_, fun i hi => ?_⟩
  · have := World.block_lt_of_cell? w _ c0
    rwa [hadd] at this
  · obtain ⟨h1, h2, h3, h4⟩ := h i hi
    rw [hadd] at h1 h2 h3 h4
    exact ⟨h1, h2, h3, h4⟩

theorem row_open {a : Option Addr} {n cap : Nat} {d : DataW H} {p : List MemPlace} (h : DataW.Trod enc Try.prog w base spare held 22 (.slice a n cap) d p) : ∃ f, Row w a n f := by
  obtain ⟨fuel, hf⟩ := h
  rcases Go.Deep.open_slice Try.underlying22 hf with ⟨hcs, _⟩ | ⟨x, l, c, m, k, D, Pl, hcs, _, hl, _, hm, _, hel⟩
  · simp [Value.cells] at hcs
    obtain ⟨rfl, rfl, rfl⟩ := hcs
    exact ⟨fun _ => ⟨⟨#[]⟩, ⟨#[]⟩, ⟨#[]⟩, 0⟩, fun h => absurd h (by omega)⟩
  · simp [Value.cells] at hcs
    obtain ⟨rfl, rfl, rfl⟩ := hcs
    have hlm : n ≤ m := by rw [hm]; split <;> omega
    have hv : ∀ i, i < n → ∃ c : Ch, w.cell? (x.add (i * 4)) = some (.string c.op) ∧ w.cell? (x.add (i * 4 + 1)) = some (.string c.id) ∧ w.cell? (x.add (i * 4 + 2)) = some (.string c.addr) ∧ w.cell? (x.add (i * 4 + 3)) = some (.int .u64 c.inc) := fun i hi => by
      obtain ⟨cs, h1, h2⟩ := hel i (by omega)
      obtain ⟨c, rfl⟩ := el42 h2
      rw [co42] at h1
      obtain ⟨_, _, hcell⟩ := World.cells?_some h1
      have k0 := hcell 0 (by omega)
      have k1 := hcell 1 (by omega)
      have k2 := hcell 2 (by omega)
      have k3 := hcell 3 (by omega)
      rw [Go.Deep.add_add] at k0 k1 k2 k3
      exact ⟨c, k0, k1, k2, k3⟩
    refine ⟨fun i => if h : i < n then Classical.choose (hv i h) else ⟨⟨#[]⟩, ⟨#[]⟩, ⟨#[]⟩, 0⟩, row_cells fun i hi => ?_⟩
    rw [dif_pos hi]
    exact Classical.choose_spec (hv i hi)

theorem dig_open {r : Reach} {b0 : Nat} {v : Value} {d : DataW H} {p : List MemPlace} (hv : Value.okWide Try.prog w r b0 23 v) (h : DataW.Trod enc Try.prog w base spare held 23 v d p) : ∃ z, v = .agg (dval z) := by
  have hu : Try.prog.underlying 23 = some (.array 16 5) := un23
  simp only [Value.okWide, hu] at hv
  obtain ⟨cs, rfl, hsz, _⟩ := hv
  obtain ⟨fuel, hf⟩ := h
  obtain ⟨xs, m, rfl, _, hl, hx, hel⟩ := DataW.trod_array hu hf
  rw [co23] at hsz
  have hl' : cs.toList.length = 16 := by simpa using hsz
  have he : ∀ i, i < 16 → ∃ y : Int, cs[i]? = some (.int .u8 y) := fun i hi => by
    have := hel i hi
    rw [co5, Nat.mul_one, List.getElem?_eq_getElem (by omega)] at this
    have e1 : ((Value.agg cs).cells.toList.drop i).take 1 = [cs[i]'(by omega)] := by
      have : (Value.agg cs).cells.toList = cs.toList := rfl
      rw [this, List.drop_eq_getElem_cons (by omega)]
      simp
    rw [e1] at this
    obtain ⟨y, hy⟩ := el5 this
    exact ⟨y, by rw [Array.getElem?_eq_getElem (by omega), hy]⟩
  obtain ⟨z, hz⟩ := Go.Deep.choose_lt he
  refine ⟨z, ?_⟩
  congr 1
  apply Array.ext_getElem?
  intro i
  rcases Nat.lt_or_ge i 16 with c | c
  · rw [hz i c, dval_at z i c]
  · rw [Array.getElem?_eq_none (by omega), Array.getElem?_eq_none (by show 16 ≤ i; omega)]
end
end Go.Proofs.Qxb6605926a
