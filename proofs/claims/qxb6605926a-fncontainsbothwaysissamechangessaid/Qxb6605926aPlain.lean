/-
  Two configurations as lists of changes over a strict total order: 'Contains' is inclusion of sets. No Go in sight.
-/
namespace Go.Proofs.Qxb6605926a.Pl

/-- A strict total order. -/
structure Ord {α : Type} (lt : α → α → Prop) : Prop where
  irr : ∀ a, ¬ lt a a
  tr : ∀ a b c, lt a b → lt b c → lt a c
  tri : ∀ a b, lt a b ∨ a = b ∨ lt b a

section
variable {α : Type} {lt : α → α → Prop}

def Sorted (lt : α → α → Prop) (l : List α) : Prop := l.Pairwise lt

theorem Ord.ne (h : Ord lt) {a b : α} (hab : lt a b) : a ≠ b := fun e => by subst e; exact h.irr _ hab

theorem Sorted.nodup (h : Ord lt) : ∀ {l : List α}, Sorted lt l → l.Nodup
  | [], _ => List.nodup_nil
  | _ :: _, hs => List.nodup_cons.2 ⟨fun hm => h.irr _ ((List.pairwise_cons.1 hs).1 _ hm), Sorted.nodup h (List.pairwise_cons.1 hs).2⟩

/-- Sorted lists with the same elements are the same. -/
theorem Sorted.ext (h : Ord lt) : ∀ {a b : List α}, Sorted lt a → Sorted lt b → (∀ x, x ∈ a ↔ x ∈ b) → a = b
  | [], [], _, _, _ => rfl
  | [], y :: ys, _, _, hm => absurd ((hm y).2 (List.mem_cons_self ..)) (by simp)
  | x :: xs, [], _, _, hm => absurd ((hm x).1 (List.mem_cons_self ..)) (by simp)
  | x :: xs, y :: ys, ha, hb, hm => by
    have ha' := List.pairwise_cons.1 ha
    have hb' := List.pairwise_cons.1 hb
    have e : x = y := by
      rcases List.mem_cons.1 ((hm x).1 (List.mem_cons_self ..)) with e | e
      · exact e
      · rcases List.mem_cons.1 ((hm y).2 (List.mem_cons_self ..)) with e' | e'
        · exact e'.symm
        · exact absurd (h.tr _ _ _ (hb'.1 x e) (ha'.1 y e')) (h.irr _)
    subst e
    congr 1
    refine Sorted.ext h ha'.2 hb'.2 fun z => ⟨fun hz => ?_, fun hz => ?_⟩
    · rcases List.mem_cons.1 ((hm z).1 (List.mem_cons_of_mem _ hz)) with e | e
      · subst e; exact absurd (ha'.1 z hz) (h.irr _)
      · exact e
    · rcases List.mem_cons.1 ((hm z).2 (List.mem_cons_of_mem _ hz)) with e | e
      · subst e; exact absurd (hb'.1 z hz) (h.irr _)
      · exact e

variable {ι : Type} (ident : α → ι) (rem : ι → α)

/-- A well-formed configuration: live and tombstones sorted; no live change is a removal, none is of an id that is removed; each tombstone is of an id that is removed. -/
structure WF (lt : α → α → Prop) (isRem : α → Prop) (live tomb : List α) : Prop where
  sl : Sorted lt live
  st : Sorted lt tomb
  live : ∀ x, x ∈ live → ¬ isRem x ∧ rem (ident x) ∉ tomb
  tomb : ∀ x, x ∈ tomb → rem (ident x) ∈ tomb

/-- What 'Contains' computes. -/
def Con (cl ct ol ot : List α) : Prop := (∀ x, x ∈ ot → x ∈ ct) ∧ ∀ x, x ∈ ol → (rem (ident x) ∈ ct ∧ x ∈ ct) ∨ (rem (ident x) ∉ ct ∧ x ∈ cl)
/-- Inclusion of the sets. -/
def Inc (cl ct ol ot : List α) : Prop := (∀ x, x ∈ ol → x ∈ cl ∨ x ∈ ct) ∧ ∀ x, x ∈ ot → x ∈ cl ∨ x ∈ ct

theorem con_iff_inc {isRem : α → Prop} (hrem : ∀ i, isRem (rem i)) {cl ct ol ot : List α} (hc : WF ident rem lt isRem cl ct) (ho : WF ident rem lt isRem ol ot) :
    Con ident rem cl ct ol ot ↔ Inc cl ct ol ot := by
  constructor
  · rintro ⟨h1, h2⟩
    refine ⟨fun x hx => ?_, fun x hx => Or.inr (h1 x hx)⟩
    rcases h2 x hx with h | h
    · exact Or.inr h.2
    · exact Or.inl h.2
  · rintro ⟨h1, h2⟩
    have r : ∀ x, x ∈ ot → rem (ident x) ∈ ct := fun x hx => by
      rcases h2 _ (ho.tomb x hx) with h | h
      · exact absurd (hrem _) (hc.live _ h).1
      · exact h
    refine ⟨fun x hx => ?_, fun x hx => ?_⟩
    · rcases h2 x hx with h | h
      · exact absurd (r x hx) (hc.live x h).2
      · exact h
    · rcases h1 x hx with h | h
      · exact Or.inr ⟨(hc.live x h).2, h⟩
      · exact Or.inl ⟨hc.tomb x h, h⟩

/-- Inclusion both ways: the same lists. -/
theorem inc_both {isRem : α → Prop} (h : Ord lt) (hrem : ∀ i, isRem (rem i)) {cl ct ol ot : List α} (hc : WF ident rem lt isRem cl ct) (ho : WF ident rem lt isRem ol ot) :
    (Inc cl ct ol ot ∧ Inc ol ot cl ct) ↔ (cl = ol ∧ ct = ot) := by
  constructor
  · rintro ⟨a, b⟩
    have a' := (con_iff_inc ident rem hrem hc ho).2 a
    have b' := (con_iff_inc ident rem hrem ho hc).2 b
    have e2 : ct = ot := Sorted.ext h hc.st ho.st fun x => ⟨b'.1 x, a'.1 x⟩
    subst e2
    refine ⟨Sorted.ext h hc.sl ho.sl fun x => ⟨fun hx => ?_, fun hx => ?_⟩, rfl⟩
    · rcases b'.2 x hx with q | q
      · exact absurd q.1 (hc.live x hx).2
      · exact q.2
    · rcases a'.2 x hx with q | q
      · exact absurd q.1 (ho.live x hx).2
      · exact q.2
  · rintro ⟨rfl, rfl⟩
    exact ⟨⟨fun x hx => Or.inl hx, fun x hx => Or.inr hx⟩, ⟨fun x hx => Or.inl hx, fun x hx => Or.inr hx⟩⟩

/-- A set that lies in another is no larger. -/
theorem length_le_of_subset [DecidableEq α] : ∀ {a b : List α}, a.Nodup → (∀ x, x ∈ a → x ∈ b) → a.length ≤ b.length
  | [], _, _, _ => Nat.zero_le _
  | x :: xs, b, hn, hs => by
    have hn' := List.nodup_cons.1 hn
    have hx : x ∈ b := hs x (List.mem_cons_self ..)
    have hle := length_le_of_subset (a := xs) (b := b.erase x) hn'.2 fun y hy => (List.mem_erase_of_ne (fun e => hn'.1 (by rw [← e]; exact hy))).2 (hs y (List.mem_cons_of_mem _ hy))
    rw [List.length_erase_of_mem hx] at hle
    have := List.length_pos_of_mem hx
    simp only [List.length_cons]; omega
end
end Go.Proofs.Qxb6605926a.Pl
