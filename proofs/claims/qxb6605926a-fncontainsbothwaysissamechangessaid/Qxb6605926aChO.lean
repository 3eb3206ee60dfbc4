/-
  The order of changes: a strict total order; 'compare' and 'chgLess' agree. Plain.
-/
import Derived.Test.Qxb6605926aChG
namespace Go.Proofs.Qxb6605926a
open Go.RowKit

/-- A comparison. -/
structure Cp {α : Type} (C : α → α → Int) : Prop where
  eq : ∀ x y, C x y = 0 ↔ x = y
  anti : ∀ x y, C y x = - C x y
  tr : ∀ x y z, C x y < 0 → C y z < 0 → C x z < 0

def lexi {α β : Type} (C : α → α → Int) (D : β → β → Int) (p q : α × β) : Int := if C p.1 q.1 = 0 then D p.2 q.2 else C p.1 q.1

theorem Cp.lexi {α β : Type} {C : α → α → Int} {D : β → β → Int} (hc : Cp C) (hd : Cp D) : Cp (lexi C D) where
  eq := by
    rintro ⟨a, b⟩ ⟨a', b'⟩
    unfold Qxb6605926a.lexi
    simp only [Prod.mk.injEq]
    by_cases h : C a a' = 0
    · rw [if_pos h, hd.eq]; exact ⟨fun e => ⟨(hc.eq _ _).1 h, e⟩, fun e => e.2⟩
    · rw [if_neg h]; exact ⟨fun e => absurd e h, fun e => absurd ((hc.eq _ _).2 e.1) h⟩
  anti := by
    rintro ⟨a, b⟩ ⟨a', b'⟩
    unfold Qxb6605926a.lexi
    dsimp only
    have h1 := hc.anti a a'
    have h2 := hd.anti b b'
    by_cases h : C a a' = 0
    · rw [if_pos h, if_pos (by omega)]; exact h2
    · rw [if_neg h, if_neg (by omega)]; exact h1
  tr := by
    rintro ⟨a, b⟩ ⟨a', b'⟩ ⟨a'', b''⟩
    unfold Qxb6605926a.lexi
    dsimp only
    by_cases h : C a a' = 0
    · obtain rfl := (hc.eq _ _).1 h
      rw [if_pos h]
      by_cases k : C a a'' = 0
      · simp only [if_pos k]; exact hd.tr _ _ _
      · simp only [if_neg k]; exact fun _ e => e
    · rw [if_neg h]
      by_cases k : C a' a'' = 0
      · obtain rfl := (hc.eq _ _).1 k
        rw [if_pos k, if_neg h]; exact fun e _ => e
      · rw [if_neg k]
        intro e1 e2
        have := hc.tr _ _ _ e1 e2
        rw [if_neg (by omega)]; exact this

theorem cpBytes : ∀ x y : List UInt8, (Lib.compareBytes x y = 0 ↔ x = y) ∧ (Lib.compareBytes y x = - Lib.compareBytes x y) ∧ (Lib.compareBytes x y < 0 ↔ Op.bytesLess x y = true)
  | [], [] => by simp [Lib.compareBytes, Op.bytesLess]
  | [], _ :: _ => by simp [Lib.compareBytes, Op.bytesLess]
  | _ :: _, [] => by simp [Lib.compareBytes, Op.bytesLess]
  | a :: x, b :: y => by
    obtain ⟨h1, h2, h3⟩ := cpBytes x y
    simp only [Lib.compareBytes, Op.bytesLess]
    by_cases ab : a < b
    · have ba : ¬ b < a := fun h => UInt8.lt_irrefl _ (UInt8.lt_trans ab h)
      have ne : a ≠ b := fun h => by subst h; exact UInt8.lt_irrefl _ ab
      simp [ab, ba, ne]
    · by_cases ba : b < a
      · have ne : a ≠ b := fun h => by subst h; exact UInt8.lt_irrefl _ ba
        simp [ab, ba, ne]
      · have e : a = b := UInt8.le_antisymm (UInt8.not_lt.1 ba) (UInt8.not_lt.1 ab)
        subst e
        simp [ab, h1, h2, h3]

theorem trBytes : ∀ x y z : List UInt8, Lib.compareBytes x y < 0 → Lib.compareBytes y z < 0 → Lib.compareBytes x z < 0
  | [], [], _, h, _ => by simp [Lib.compareBytes] at h
  | _ :: _, [], _, h, _ => by simp [Lib.compareBytes] at h
  | _, _ :: _, [], _, h => by simp [Lib.compareBytes] at h
  | [], _ :: _, _ :: _, _, _ => by simp [Lib.compareBytes]
  | a :: x, b :: y, c :: z, h, k => by
    have ih := trBytes x y z
    simp only [Lib.compareBytes] at *
    by_cases ab : a < b
    · by_cases bc : b < c
      · rw [if_pos (UInt8.lt_trans ab bc)]; decide
      · rw [if_neg bc] at k
        by_cases cb : c < b
        · rw [if_pos cb] at k; exact absurd k (by decide)
        · have e : b = c := UInt8.le_antisymm (UInt8.not_lt.1 cb) (UInt8.not_lt.1 bc)
          subst e; rw [if_pos ab]; decide
    · rw [if_neg ab] at h
      by_cases ba : b < a
      · rw [if_pos ba] at h; exact absurd h (by decide)
      · have e : a = b := UInt8.le_antisymm (UInt8.not_lt.1 ba) (UInt8.not_lt.1 ab)
        subst e
        rw [if_neg ba] at h
        by_cases ac : a < c
        · rw [if_pos ac]; decide
        · rw [if_neg ac] at k ⊢
          by_cases ca : c < a
          · rw [if_pos ca] at k; exact absurd k (by decide)
          · rw [if_neg ca] at k ⊢; exact ih h k

theorem ba_ext {a b : ByteArray} : a.data.toList = b.data.toList ↔ a = b :=
  ⟨fun h => by obtain ⟨⟨x⟩⟩ := a; obtain ⟨⟨y⟩⟩ := b; simpa using h, fun h => by rw [h]⟩

theorem cpB : Cp cmpB where
  eq x y := by unfold cmpB; rw [(cpBytes _ _).1, ba_ext]
  anti x y := by unfold cmpB; exact (cpBytes _ _).2.1
  tr x y z := by unfold cmpB; exact trBytes _ _ _

theorem cpInt : Cp cmpInt where
  eq x y := by unfold cmpInt; split <;> (try split) <;> omega
  anti x y := by unfold cmpInt; split <;> (try split) <;> (try split) <;> (try split) <;> omega
  tr x y z := by unfold cmpInt; split <;> (try split) <;> (try split) <;> (try split) <;> omega

def Ch.key (x : Ch) : ByteArray × (ByteArray × (ByteArray × Int)) := (x.id, x.op, x.addr, x.inc)
theorem Ch.key_inj {x y : Ch} (h : x.key = y.key) : x = y := by
  obtain ⟨a, b, c, d⟩ := x; obtain ⟨a', b', c', d'⟩ := y
  simp only [Ch.key, Prod.mk.injEq] at h
  obtain ⟨rfl, rfl, rfl, rfl⟩ := h; rfl
theorem Ch.cmp_lex (x y : Ch) : x.cmp y = lexi cmpB (lexi cmpB (lexi cmpB cmpInt)) x.key y.key := rfl

theorem cpK : Cp (lexi cmpB (lexi cmpB (lexi cmpB cmpInt))) := cpB.lexi (cpB.lexi (cpB.lexi cpInt))

theorem cpCh : Cp Ch.cmp where
  eq x y := by rw [Ch.cmp_lex, cpK.eq]; exact ⟨Ch.key_inj, fun h => by rw [h]⟩
  anti x y := by rw [Ch.cmp_lex, Ch.cmp_lex]; exact cpK.anti _ _
  tr x y z := by rw [Ch.cmp_lex, Ch.cmp_lex, Ch.cmp_lex]; exact cpK.tr _ _ _

theorem toL (a : ByteArray) : a.toList = a.data.toList := ByteArray.toList_eq a
theorem beqL (a b : ByteArray) : (a.toList == b.toList) = false ↔ cmpB a b ≠ 0 := by
  rw [toL, toL, Ne, cpB.eq, ← ba_ext]; simp
theorem lessL (a b : ByteArray) : Op.bytesLess a.toList b.toList = true ↔ cmpB a b < 0 := by
  rw [toL, toL]; unfold cmpB; exact ((cpBytes _ _).2.2).symm

theorem Ch.less_iff (x y : Ch) : x.less y = true ↔ x.cmp y < 0 := by
  unfold Ch.less Ch.cmp
  by_cases h1 : cmpB x.id y.id = 0
  · rw [if_neg (by rw [beqL]; exact fun h => h h1), if_pos h1]
    by_cases h2 : cmpB x.op y.op = 0
    · rw [if_neg (by rw [beqL]; exact fun h => h h2), if_pos h2]
      by_cases h3 : cmpB x.addr y.addr = 0
      · rw [if_neg (by rw [beqL]; exact fun h => h h3), if_pos h3, decide_eq_true_iff]
        unfold cmpInt; split <;> (try split) <;> omega
      · rw [if_pos ((beqL _ _).2 h3), if_neg h3, lessL]
    · rw [if_pos ((beqL _ _).2 h2), if_neg h2, lessL]
  · rw [if_pos ((beqL _ _).2 h1), if_neg h1, lessL]

def Ch.lt (x y : Ch) : Prop := x.cmp y < 0

theorem ordCh : Pl.Ord Ch.lt where
  irr a := by unfold Ch.lt; have := (cpCh.eq a a).2 rfl; omega
  tr a b c := cpCh.tr a b c
  tri a b := by
    unfold Ch.lt
    have h1 := cpCh.anti a b
    by_cases h : a.cmp b = 0
    · exact Or.inr (Or.inl ((cpCh.eq _ _).1 h))
    · omega

theorem Asc.lt {f : Nat → Ch} {n : Nat} (h : Asc f n) : ∀ b a, a < b → b < n → (f a).lt (f b)
  | 0, a, h1, _ => absurd h1 (by omega)
  | b + 1, a, h1, h2 => by
    have s := (Ch.less_iff _ _).1 (h b h2)
    rcases Nat.lt_or_ge a b with c | c
    · exact ordCh.tr _ _ _ (Asc.lt h b a c (by omega)) s
    · obtain rfl : a = b := by omega
      exact s
end Go.Proofs.Qxb6605926a
