/-
  Configurations in memory; ZZnewConfigurationLive (21), ZZnewConfiguration (23), build (11).
-/
import Derived.Test.Qxb6605926aChK
import Derived.Test.Qxb6605926aChH
import Derived.Handy
namespace Go.Proofs.Qxb6605926a
open Go.RowKit

/-- The cells of a tombstones struct. -/
def tcells (s : Value) (d : Nat → Int) : Array Value :=
  #[s, .int .u8 (d 0), .int .u8 (d 1), .int .u8 (d 2), .int .u8 (d 3), .int .u8 (d 4), .int .u8 (d 5), .int .u8 (d 6), .int .u8 (d 7),
    .int .u8 (d 8), .int .u8 (d 9), .int .u8 (d 10), .int .u8 (d 11), .int .u8 (d 12), .int .u8 (d 13), .int .u8 (d 14), .int .u8 (d 15)]

/-- The tombstones behind a pointer: none, or n' > 0 changes under a digest. -/
def TombAt (w : World) (t : Option Addr) (n' : Nat) (f' : Nat → Ch) (d : Nat → Int) : Prop :=
  (t = none ∧ n' = 0) ∨ (0 < n' ∧ ∃ tb a' cap', t = some ⟨tb, 0, none⟩ ∧ Blk w tb (tcells (.slice a' n' cap') d) 59 ∧ Row w a' n' f')

def Conf (w : World) (p t : Option Addr) (n : Nat) (f : Nat → Ch) (n' : Nat) (f' : Nat → Ch) (d : Nat → Int) : Prop :=
  (p = none ∧ t = none ∧ n = 0 ∧ n' = 0) ∨ ∃ b a cap, p = some ⟨b, 0, none⟩ ∧ Blk w b #[.slice a n cap, .pointer t, .slice none 0 0, .string ⟨#[]⟩] 65 ∧ Row w a n f ∧ TombAt w t n' f' d

theorem TombAt.below {w w' : World} {t : Option Addr} {n' : Nat} {f' : Nat → Ch} {d : Nat → Int} (h : TombAt w t n' f' d) (g : Below w.heap.size w w') : TombAt w' t n' f' d := by
  rcases h with h | ⟨h0, tb, a', cap', e, hb, hr⟩
  · exact Or.inl h
  · exact Or.inr ⟨h0, tb, a', cap', e, hb.below g hb.lt, hr.below g⟩
theorem Conf.below {w w' : World} {p t : Option Addr} {n : Nat} {f : Nat → Ch} {n' : Nat} {f' : Nat → Ch} {d : Nat → Int} (h : Conf w p t n f n' f' d) (g : Below w.heap.size w w') : Conf w' p t n f n' f' d := by
  rcases h with h | ⟨b, a, cap, e, hb, hr, ht⟩
  · exact Or.inl h
  · exact Or.inr ⟨b, a, cap, e, hb.below g hb.lt, hr.below g, ht.below g⟩

def New (B : Nat) (p : Option Addr) : Prop := ∀ x, p = some x → B ≤ x.block
def Old (B : Nat) (p : Option Addr) : Prop := ∀ x, p = some x → x.block < B

def CfPost (n : Nat) (f : Nat → Ch) (n' : Nat) (f' : Nat → Ch) (d : Nat → Int) (w : World) (e : Ending) (w' : World) : Prop :=
  ∃ p t, e = .returned (.agg #[.pointer p]) ∧ Conf w' p t n f n' f' d ∧ New w.heap.size p ∧ New w.heap.size t ∧ Below w.heap.size w w'

theorem newLive_c (a : Option Addr) (n cap : Nat) (f f' : Nat → Ch) (d : Nat → Int) (w : World) (h : Row w a n f) :
    Calls Try.prog 21 #[.slice a n cap] w fun e w' => CfPost n f 0 f' d w e w' := by
  have H := hide h
  clear h
  go_enter Try.func21, Try.ntmps21
  go_wp2
  go_returns
  have g1 := below_alloc w (Obj.cells #[Value.pointer (some { block := w.heap.size + 1, off := 0 })] 31)
  have g2 := below_alloc (w.alloc (Obj.cells #[Value.pointer (some { block := w.heap.size + 1, off := 0 })] 31)) (Obj.cells #[Value.slice a n cap, Value.pointer none, Value.slice none 0 0, Value.string { data := #[] }] 65)
  have hb := Blk.new (w.alloc (Obj.cells #[Value.pointer (some { block := w.heap.size + 1, off := 0 })] 31)) #[Value.slice a n cap, Value.pointer none, Value.slice none 0 0, Value.string { data := #[] }] 65
  have g := gr_trans g1 g2
  rw [show (w.alloc (Obj.cells #[Value.pointer (some { block := w.heap.size + 1, off := 0 })] 31)).heap.size = w.heap.size + 1 by simp] at hb
  exact ⟨some ⟨w.heap.size + 1, 0, none⟩, none, rfl, Or.inr ⟨_, a, cap, rfl, hb, H.out.below g, Or.inl ⟨rfl, rfl⟩⟩, (fun x e => by injection e with e; subst e; simp), (fun x e => by cases e), g⟩

theorem newConf_c (a : Option Addr) (n cap : Nat) (f : Nat → Ch) (a' : Option Addr) (n' cap' : Nat) (f' : Nat → Ch) (d : Nat → Int) (w : World) (h : Row w a n f) (h' : Row w a' n' f') (h0 : 0 < n') :
    Calls Try.prog 23 #[.slice a n cap, .slice a' n' cap', .agg #[.int .u8 (d 0), .int .u8 (d 1), .int .u8 (d 2), .int .u8 (d 3), .int .u8 (d 4), .int .u8 (d 5), .int .u8 (d 6), .int .u8 (d 7),
      .int .u8 (d 8), .int .u8 (d 9), .int .u8 (d 10), .int .u8 (d 11), .int .u8 (d 12), .int .u8 (d 13), .int .u8 (d 14), .int .u8 (d 15)]] w fun e w' => CfPost n f n' f' d w e w' := by
  have H := hide h
  have H' := hide h'
  have H0 := hide h0
  clear h h' h0
  go_enter Try.func23, Try.ntmps23
  go_wp2
  go_returns
  have A1 : ∀ (o1 o2 o3 o4 : Obj), Below w.heap.size w ((((w.alloc o1).alloc o2).alloc o3).alloc o4) := fun o1 o2 o3 o4 => gr_trans (gr_trans (gr_trans (below_alloc _ _) (below_alloc _ _)) (below_alloc _ _)) (below_alloc _ _)
  have A2 : ∀ (o1 o2 : Obj) (cs : Array Value) (o4 : Obj), Blk ((((w.alloc o1).alloc o2).alloc (.cells cs 59)).alloc o4) (w.heap.size + 1 + 1) cs 59 := fun o1 o2 cs o4 => by
    have hb := Blk.new ((w.alloc o1).alloc o2) cs 59
    have := hb.below (below_alloc _ o4) hb.lt
    simpa using this
  have A3 : ∀ (o1 o2 o3 : Obj) (cs : Array Value), Blk ((((w.alloc o1).alloc o2).alloc o3).alloc (.cells cs 65)) (w.heap.size + 1 + 1 + 1) cs 65 := fun o1 o2 o3 cs => by
    have hb := Blk.new (((w.alloc o1).alloc o2).alloc o3) cs 65
    simpa using hb
  refine ⟨some ⟨w.heap.size + 1 + 1 + 1, 0, none⟩, some ⟨w.heap.size + 1 + 1, 0, none⟩, rfl, Or.inr ⟨_, a, cap, rfl, A3 _ _ _ _, H.out.below (A1 _ _ _ _), Or.inr ⟨H0.out, _, a', cap', rfl, A2 _ _ _ _, H'.out.below (A1 _ _ _ _)⟩⟩, (fun x e => by injection e with e; subst e; show _ ≤ w.heap.size + 1 + 1 + 1; omega), (fun x e => by injection e with e; subst e; show _ ≤ w.heap.size + 1 + 1; omega), A1 _ _ _ _⟩
end Go.Proofs.Qxb6605926a
