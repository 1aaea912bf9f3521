/-
  The walk of zzClone2: a fresh deep copy.
-/
import Derived.Test.Qxb6602022aClone1
namespace Go.Proofs.Qxb6602022a
open Go.RowKit Go.Deep

def Cloned2 (w : World) (n : Nat) (L : Nat → Nat) (Z : Nat → Nat → Int) (e : Ending) (w' : World) : Prop :=
  ∃ ao' A', e = .returned (.slice ao' n n) ∧ Mat w' ao' n A' L L Z ∧ (∀ k, k < n → A' k = none → L k = 0) ∧ Below w.heap.size w w'

/-- The copy's own row as it stands when k rows are copied. -/
def part2 (A : Nat → Option Addr) (L : Nat → Nat) (k : Nat) : Nat → Value := fun i => if i < k then .slice (A i) (L i) (L i) else .slice none 0 0

def upd (A : Nat → Option Addr) (k : Nat) (x : Option Addr) : Nat → Option Addr := fun i => if i = k then x else A i

theorem part2_step (A : Nat → Option Addr) (L : Nat → Nat) (k : Nat) (x : Option Addr) (i : Nat) : (if i = k then Value.slice x (L k) (L k) else part2 A L k i) = part2 (upd A k x) L (k + 1) i := by
  unfold part2 upd
  by_cases e : i = k
  · subst e; simp
  · rw [if_neg e, if_neg e]
    by_cases h : i < k
    · rw [if_pos h, if_pos (by omega)]
    · rw [if_neg h, if_neg (by omega)]

theorem IntsAt.setCell {w : World} {ao : Option Addr} {n : Nat} {z : Nat → Int} (h : IntsAt w ao n z) (a : Addr) (v : Value) (hne : ∀ x, ao = some x → x.block ≠ a.block) : IntsAt (w.setCell a v) ao n z := fun j hj => by
  obtain ⟨b, off, e, hc⟩ := h j hj
  exact ⟨b, off, e, (World.cell?_of_block (w := w) (a := ⟨b, off + j, none⟩) (Below.heap_setCell w a v b (hne ⟨b, off, none⟩ e))).trans hc⟩

/-- WHAT HOLDS when k rows are copied: N is the copy's own row's block. -/
structure Half2 (w wr : World) (N n k : Nat) (L : Nat → Nat) (Z : Nat → Nat → Int) (A : Nat → Option Addr) : Prop where
  below : Below N w wr
  row : wr.rowIs N 28 n (part2 A L k)
  rows : ∀ i, i < k → IntsAt wr (A i) (L i) (Z i)
  apart : ∀ i, i < k → ∀ a, A i = some a → N < a.block
  nils : ∀ i, i < k → A i = none → L i = 0

theorem Half2.start (w : World) (n : Nat) (L : Nat → Nat) (Z : Nat → Nat → Int) : Half2 w (w.alloc (.cells (madeCells #[.slice none 0 0] n) 28)) w.heap.size n 0 L Z (fun _ => none) :=
  ⟨(Below.refl _ _).alloc (Nat.le_refl _) _, (World.rowIs_made w _ n 28).congr (fun j _ => by simp [part2]), fun i hi => absurd hi (Nat.not_lt_zero _), fun i hi => absurd hi (Nat.not_lt_zero _), fun i hi => absurd hi (Nat.not_lt_zero _)⟩

theorem Half2.step {w wr w1 : World} {N n k : Nat} {L : Nat → Nat} {Z : Nat → Nat → Int} {A : Nat → Option Addr} (h : Half2 w wr N n k L Z A) {ao' : Option Addr}
    (hI : IntsAt w1 ao' (L k) (Z k)) (hfr : ∀ a, ao' = some a → wr.heap.size ≤ a.block) (hb : Below wr.heap.size wr w1) :
    Half2 w (w1.setCell ⟨N, k, none⟩ (.slice ao' (L k) (L k))) N n (k + 1) L Z (upd A k ao') := by
  have hN := h.row.lt
  have hrow1 : w1.rowIs N 28 n (part2 A L k) := h.row.of_block (hb.block _ hN)
  refine ⟨(h.below.trans (hb.mono (by omega))).setCell (Nat.le_refl _) _, (hrow1.set k _).congr (fun i _ => part2_step A L k ao' i), fun i hi => ?_, fun i hi a e => ?_, fun i hi e => ?_⟩
  · by_cases e : i = k
    · subst e
      have hu : upd A i ao' i = ao' := by simp [upd]
      rw [hu]
      exact hI.setCell _ _ (fun x hx => by have := hfr x hx; show x.block ≠ N; omega)
    · have hu : upd A k ao' i = A i := by simp [upd, e]
      rw [hu]
      exact ((h.rows i (by omega)).below hb).setCell _ _ (fun x hx => by have := h.apart i (by omega) x hx; show x.block ≠ N; omega)
  · by_cases e' : i = k
    · subst e'
      have hu : upd A i ao' i = ao' := by simp [upd]
      rw [hu] at e
      have := hfr a e
      omega
    · have hu : upd A k ao' i = A i := by simp [upd, e']
      rw [hu] at e
      exact h.apart i (by omega) a e
  · by_cases e' : i = k
    · subst e'
      have hu : upd A i ao' i = ao' := by simp [upd]
      rw [hu] at e
      by_cases h0 : L i = 0
      · exact h0
      · obtain ⟨b, off, e2, _⟩ := hI 0 (by omega)
        rw [e] at e2; cases e2
    · have hu : upd A k ao' i = A i := by simp [upd, e']
      rw [hu] at e
      exact h.nils i (by omega) e

theorem Half2.done {w wr : World} {N n : Nat} {L : Nat → Nat} {Z : Nat → Nat → Int} {A : Nat → Option Addr} (h : Half2 w wr N n n L Z A) : Mat wr (some ⟨N, 0, none⟩) n A L L Z :=
  ⟨fun k hk => ⟨N, 0, rfl, by rw [Nat.zero_add, h.row.cell hk]; simp [part2, hk]⟩, fun k hk => h.rows k hk⟩

set_option maxHeartbeats 400000 in
theorem clone10_some (a : Addr) (n cap : Nat) (A : Nat → Option Addr) (L C : Nat → Nat) (Z : Nat → Nat → Int) (w : World) (hn : n ≤ 65536) (hL : ∀ k, k < n → L k ≤ 131072)
    (h0 : ∀ k, k < n → A k = none → L k = 0 ∧ C k = 0) (hM : Mat w (some a) n A L C Z) :
    Calls Try.prog 10 #[.slice (some a) n cap] w fun e w' => Cloned2 w n L Z e w' := by
  have hmk := run_make_row' (P := Try.prog) 22 28 (.slice none 0 0) 24 Try.underlying22 Try.info28 rfl .i64 .i64 n (by omega) (by omega)
  have hnil := fun w => Lib.run_eql_slice_nil (P := Try.prog) w 22 28 (some a) n cap 0 0 Try.underlying22
  simp only [Option.isNone_some] at hnil
  go_enter Try.func10, Try.ntmps10
  go_wp2
  clear hmk hnil
  go_loopw [4] (fun i wr => ∃ k : Nat, ∃ A' : Nat → Option Addr, k ≤ n ∧ i = .int .i64 k ∧ Half2 w wr w.heap.size n k L Z A') (fun i _ => n - (intOf i).toNat)
  case atStart => exact ⟨0, _, Nat.zero_le _, rfl, Half2.start w n L Z⟩
  case round =>
    obtain ⟨k, A', hk, rfl, hH⟩ := hrel
    by_cases hlt : k < n
    · obtain ⟨b, off, e, h2⟩ := hM.heads k hlt
      simp only [Option.some.injEq] at e
      subst e
      have h3 : wr.cell? ⟨b, off + k, none⟩ = some (.slice (A k) (L k) (C k)) := (hH.below.cell (p := ⟨b, off + k, none⟩) (World.block_lt_of_cell? _ _ h2)).trans h2
      have h4 := hL k hlt
      have HI : Hid (IntsAt wr (A k) (L k) (Z k)) := (hM.rows k hlt).below hH.below
      have H0 := h0 k hlt
      have H0' : Hid (A k = none → L k = 0 ∧ C k = 0) := H0
      have HM : Hid (Mat w (some ⟨b, off, none⟩) n A L C Z) := hM
      clear h0 h2 H0 hM hL
      go_wp2_with fail
      refine (clone13_any (A k) (L k) (C k) (Z k) _ h4 H0'.out HI.out).mono ?_
      rintro e w1 ⟨ao', rfl, hI, hfr, hb⟩
      have hrow1 : w1.rowIs w.heap.size 28 n (part2 A' L k) := hH.row.of_block (hb.block _ hH.row.lt)
      have h5 := hrow1.cell hlt
      have h6 := hrow1.frozen k
      have hS : Hid (Half2 w (w1.setCell ⟨w.heap.size, k, none⟩ (.slice ao' (L k) (L k))) w.heap.size n (k + 1) L Z (upd A' k ao')) := hH.step hI hfr hb
      clear hI hfr hb hrow1 HI H0' h3
      go_wp2
      go_roundw
      case rel => exact ⟨k + 1, _, by omega, by go_num, hS.out⟩
      case measure => simp [intOf]; omega
    · have : k = n := by omega
      subst this
      go_wp2
      go_ret
      exact ⟨some ⟨w.heap.size, 0, none⟩, A', rfl, hH.done, hH.nils, hH.below⟩

set_option maxHeartbeats 400000 in
theorem clone10_none (w : World) (L : Nat → Nat) (Z : Nat → Nat → Int) :
    Calls Try.prog 10 #[.slice none 0 0] w fun e w' => Cloned2 w 0 L Z e w' := by
  have hnil := fun w => Lib.run_eql_slice_nil (P := Try.prog) w 22 28 none 0 0 0 0 Try.underlying22
  simp only [Option.isNone_none] at hnil
  go_enter Try.func10, Try.ntmps10
  go_wp2
  go_ret
  exact ⟨none, fun _ => none, rfl, ⟨fun j hj => absurd hj (Nat.not_lt_zero _), fun j hj => absurd hj (Nat.not_lt_zero _)⟩, fun j hj => absurd hj (Nat.not_lt_zero _), Below.refl _ _⟩

theorem clone10_any (ao : Option Addr) (n cap : Nat) (A : Nat → Option Addr) (L C : Nat → Nat) (Z : Nat → Nat → Int) (w : World) (hn : n ≤ 65536) (hL : ∀ k, k < n → L k ≤ 131072)
    (hao : ao = none → n = 0 ∧ cap = 0) (h0 : ∀ k, k < n → A k = none → L k = 0 ∧ C k = 0) (hM : Mat w ao n A L C Z) :
    Calls Try.prog 10 #[.slice ao n cap] w fun e w' => Cloned2 w n L Z e w' := by
  cases ao with
  | none =>
    obtain ⟨rfl, rfl⟩ := hao rfl
    exact clone10_none w L Z
  | some a => exact clone10_some a n cap A L C Z w hn hL h0 hM

end Go.Proofs.Qxb6602022a
