/-
  What the walks of this seat share: a slice of slices of ints as it lies in memory ('Mat'), one row ('IntsAt'), and how both are carried to a later world.
-/
import Derived.Test.Qxb6602022aRows
import Derived.WalkKit
import Derived.WalkSpells
import Derived.WalkLawsBesides
import Derived.Deep.LoopGhost
import Derived.Deep.OwnRows
namespace Go.Proofs.Qxb6602022a
open Go.RowKit Go.Deep

theorem Try.info3 : (Try.prog.info? 3).map (fun i => (i.zero, i.size, i.bytes)) = some (some (.int .i64 0), 1, 8) := by kernel_rfl
theorem Try.info28 : (Try.prog.info? 28).map (fun i => (i.zero, i.size, i.bytes)) = some (some (.slice none 0 0), 1, 24) := by kernel_rfl

/-- A row of n numbers lies at 'ao'. -/
def IntsAt (w : World) (ao : Option Addr) (n : Nat) (z : Nat → Int) : Prop :=
  ∀ j, j < n → ∃ b off, ao = some ⟨b, off, none⟩ ∧ w.cell? ⟨b, off + j, none⟩ = some (.int .i64 (z j))

/-- A slice of n rows lies at 'ao': cell k holds row k's header. -/
def HeadsAt (w : World) (ao : Option Addr) (n : Nat) (A : Nat → Option Addr) (L C : Nat → Nat) : Prop :=
  ∀ k, k < n → ∃ b off, ao = some ⟨b, off, none⟩ ∧ w.cell? ⟨b, off + k, none⟩ = some (.slice (A k) (L k) (C k))

/-- A slice of slices of ints. -/
structure Mat (w : World) (ao : Option Addr) (n : Nat) (A : Nat → Option Addr) (L C : Nat → Nat) (Z : Nat → Nat → Int) : Prop where
  heads : HeadsAt w ao n A L C
  rows : ∀ k, k < n → IntsAt w (A k) (L k) (Z k)

theorem IntsAt.below {w w' : World} {ao : Option Addr} {n : Nat} {z : Nat → Int} (h : IntsAt w ao n z) (hb : Below w.heap.size w w') : IntsAt w' ao n z := fun j hj => by
  obtain ⟨b, off, e, hc⟩ := h j hj
  exact ⟨b, off, e, (hb.cell (p := ⟨b, off + j, none⟩) (World.block_lt_of_cell? _ _ hc)).trans hc⟩

theorem HeadsAt.below {w w' : World} {ao : Option Addr} {n : Nat} {A : Nat → Option Addr} {L C : Nat → Nat} (h : HeadsAt w ao n A L C) (hb : Below w.heap.size w w') : HeadsAt w' ao n A L C := fun j hj => by
  obtain ⟨b, off, e, hc⟩ := h j hj
  exact ⟨b, off, e, (hb.cell (p := ⟨b, off + j, none⟩) (World.block_lt_of_cell? _ _ hc)).trans hc⟩

theorem Mat.below {w w' : World} {ao : Option Addr} {n : Nat} {A : Nat → Option Addr} {L C : Nat → Nat} {Z : Nat → Nat → Int} (h : Mat w ao n A L C Z) (hb : Below w.heap.size w w') : Mat w' ao n A L C Z :=
  ⟨h.heads.below hb, fun k hk => (h.rows k hk).below hb⟩

/-- The address is one for all. -/
theorem HeadsAt.addr {w : World} {ao : Option Addr} {n : Nat} {A : Nat → Option Addr} {L C : Nat → Nat} (h : HeadsAt w ao n A L C) (hn : 0 < n) :
    ∃ b off, ao = some ⟨b, off, none⟩ ∧ ∀ k, k < n → w.cell? ⟨b, off + k, none⟩ = some (.slice (A k) (L k) (C k)) := by
  obtain ⟨b, off, e, _⟩ := h 0 hn
  refine ⟨b, off, e, fun k hk => ?_⟩
  obtain ⟨b', off', e', hc⟩ := h k hk
  rw [e] at e'
  simp at e'
  obtain ⟨rfl, rfl⟩ := e'
  exact hc

theorem IntsAt.addr {w : World} {ao : Option Addr} {n : Nat} {z : Nat → Int} (h : IntsAt w ao n z) (hn : 0 < n) :
    ∃ b off, ao = some ⟨b, off, none⟩ ∧ ∀ k, k < n → w.cell? ⟨b, off + k, none⟩ = some (.int .i64 (z k)) := by
  obtain ⟨b, off, e, _⟩ := h 0 hn
  refine ⟨b, off, e, fun k hk => ?_⟩
  obtain ⟨b', off', e', hc⟩ := h k hk
  rw [e] at e'
  simp at e'
  obtain ⟨rfl, rfl⟩ := e'
  exact hc

/-- The largest of the first k lengths. -/
def mxL (L : Nat → Nat) : Nat → Nat
  | 0 => 0
  | k + 1 => max (mxL L k) (L k)

theorem mxL_ge (L : Nat → Nat) : ∀ n k, k < n → L k ≤ mxL L n
  | 0, _, h => absurd h (Nat.not_lt_zero _)
  | n + 1, k, h => by
    by_cases e : k = n
    · subst e; exact Nat.le_max_right _ _
    · exact Nat.le_trans (mxL_ge L n k (by omega)) (Nat.le_max_left _ _)

theorem mxL_att (L : Nat → Nat) : ∀ n, mxL L n = 0 ∨ ∃ k, k < n ∧ L k = mxL L n
  | 0 => Or.inl rfl
  | n + 1 => by
    by_cases h : mxL L n ≤ L n
    · right; exact ⟨n, by omega, by simp only [mxL]; omega⟩
    · rcases mxL_att L n with h0 | ⟨k, hk, e⟩
      · omega
      · right; exact ⟨k, by omega, by simp only [mxL]; omega⟩

theorem mxL_le (L : Nat → Nat) (B : Nat) : ∀ n, (∀ k, k < n → L k ≤ B) → mxL L n ≤ B
  | 0, _ => Nat.zero_le _
  | n + 1, h => by
    have := mxL_le L B n (fun k hk => h k (by omega))
    have := h n (by omega)
    simp only [mxL]; omega

theorem mxL_congr {L L' : Nat → Nat} : ∀ n, (∀ k, k < n → L k = L' k) → mxL L n = mxL L' n
  | 0, _ => rfl
  | n + 1, h => by
    simp only [mxL]
    rw [mxL_congr n (fun k hk => h k (by omega)), h n (by omega)]

/-- It returned some Boolean. -/
def RetBool (e : Ending) : Prop := ∃ t : Bool, e = .returned (.bool t)
theorem RetBool.mk (t : Bool) : RetBool (.returned (.bool t)) := ⟨t, rfl⟩
/-- It returned a number s of which 'Q' holds. -/
def RetInt (Q : Int → Prop) (e : Ending) : Prop := ∃ t : Int, e = .returned (.int .i64 t) ∧ Q t
theorem RetInt.mk {Q : Int → Prop} (t : Int) (h : Q t) : RetInt Q (.returned (.int .i64 t)) := ⟨t, rfl, h⟩

theorem ret_int {k : IntKind} {a b : Int} (h : a = b) : Ending.returned (.int k a) = .returned (.int k b) := by rw [h]
theorem val_int {k : IntKind} {a b : Int} (h : a = b) : Value.int k a = .int k b := by rw [h]

end Go.Proofs.Qxb6602022a
