/-
  The walk of zzClone1: a fresh copy of one row.
-/
import Derived.Test.Qxb6602022aReads
namespace Go.Proofs.Qxb6602022a
open Go.RowKit Go.Deep

def Cloned1 (w : World) (n : Nat) (z : Nat → Int) (e : Ending) (w' : World) : Prop :=
  ∃ ao', e = .returned (.slice ao' n n) ∧ IntsAt w' ao' n z ∧ (∀ a, ao' = some a → w.heap.size ≤ a.block) ∧ Below w.heap.size w w'

/-- The copy as it stands when k cells are filled. -/
def part1 (z : Nat → Int) (k : Nat) : Nat → Value := fun i => if i < k then .int .i64 (z i) else .int .i64 0

theorem part1_step (z : Nat → Int) (k i : Nat) : (if i = k then Value.int .i64 (z k) else part1 z k i) = part1 z (k + 1) i := by
  unfold part1
  by_cases e : i = k
  · subst e; simp
  · rw [if_neg e]
    by_cases h : i < k
    · rw [if_pos h, if_pos (by omega)]
    · rw [if_neg h, if_neg (by omega)]

theorem rowIs_ints {w : World} {b n : Nat} {z : Nat → Int} (h : w.rowIs b 3 n (part1 z n)) : IntsAt w (some ⟨b, 0, none⟩) n z := fun j hj =>
  ⟨b, 0, rfl, by rw [Nat.zero_add, h.cell hj]; simp [part1, hj]⟩

set_option maxHeartbeats 400000 in
theorem clone13_some (a : Addr) (n cap : Nat) (z : Nat → Int) (w : World) (hn : n ≤ 131072) (hc : IntsAt w (some a) n z) :
    Calls Try.prog 13 #[.slice (some a) n cap] w fun e w' => Cloned1 w n z e w' := by
  have hmk := run_make_row' (P := Try.prog) 28 3 (.int .i64 0) 8 Try.underlying28 Try.info3 rfl .i64 .i64 n (by omega) (by omega)
  have hnil := fun w => Lib.run_eql_slice_nil (P := Try.prog) w 28 3 (some a) n cap 0 0 Try.underlying28
  simp only [Option.isNone_some] at hnil
  go_enter Try.func13, Try.ntmps13
  go_wp2
  clear hmk hnil
  go_loopw [4] (fun i wr => ∃ k : Nat, k ≤ n ∧ i = .int .i64 k ∧ Below w.heap.size w wr ∧ wr.rowIs w.heap.size 3 n (part1 z k)) (fun i _ => n - (intOf i).toNat)
  case atStart => exact ⟨0, Nat.zero_le _, rfl, (Below.refl _ _).alloc (Nat.le_refl _) _, (World.rowIs_made w _ n 3).congr (fun j _ => by simp [part1])⟩
  case round =>
    obtain ⟨k, hk, rfl, hb, hrow⟩ := hrel
    by_cases hlt : k < n
    · obtain ⟨b, off, e, h2⟩ := hc k hlt
      simp only [Option.some.injEq] at e
      subst e
      have h3 : wr.cell? ⟨b, off + k, none⟩ = some (.int .i64 (z k)) := (hb.cell (p := ⟨b, off + k, none⟩) (World.block_lt_of_cell? _ _ h2)).trans h2
      have h4 := hrow.cell hlt
      have h5 := hrow.frozen k
      clear hc h2
      go_wp2
      go_roundw
      case rel => exact ⟨k + 1, by omega, by go_num, hb.setCell (Nat.le_refl _) _, (hrow.set k _).congr (fun i _ => part1_step z k i)⟩
      case measure => simp [intOf]; omega
    · have : k = n := by omega
      subst this
      go_wp2
      go_ret
      exact ⟨some ⟨w.heap.size, 0, none⟩, rfl, rowIs_ints hrow, fun a h => by cases h; exact Nat.le_refl _, hb⟩

set_option maxHeartbeats 400000 in
theorem clone13_none (w : World) (z : Nat → Int) :
    Calls Try.prog 13 #[.slice none 0 0] w fun e w' => Cloned1 w 0 z e w' := by
  have hnil := fun w => Lib.run_eql_slice_nil (P := Try.prog) w 28 3 none 0 0 0 0 Try.underlying28
  simp only [Option.isNone_none] at hnil
  go_enter Try.func13, Try.ntmps13
  go_wp2
  go_ret
  exact ⟨none, rfl, fun j hj => absurd hj (Nat.not_lt_zero _), fun a h => by (cases h), Below.refl _ _⟩

theorem clone13_any (ao : Option Addr) (n cap : Nat) (z : Nat → Int) (w : World) (hn : n ≤ 131072) (h0 : ao = none → n = 0 ∧ cap = 0) (hc : IntsAt w ao n z) :
    Calls Try.prog 13 #[.slice ao n cap] w fun e w' => Cloned1 w n z e w' := by
  cases ao with
  | none =>
    obtain ⟨rfl, rfl⟩ := h0 rfl
    exact clone13_none w z
  | some a => exact clone13_some a n cap z w hn hc

end Go.Proofs.Qxb6602022a
