/-
  What the walks of this seat share: a slice of integers as it lies in memory ('RowAt'), how it is carried to a later world, the clones, white space.
-/
import Derived.Test.Qxb6602024aRows
import Derived.WalkKit
import Derived.WalkSpells
import Derived.WalkLawsBesides
import Derived.Deep.LoopGhost
import Derived.Deep.OwnRows
namespace Go.Proofs.Qxb6602024a
open Go.RowKit Go.Deep

theorem Try.info3 : (Try.prog.info? 3).map (fun i => (i.zero, i.size, i.bytes)) = some (some (.int .i64 0), 1, 8) := by kernel_rfl
theorem Try.info5 : (Try.prog.info? 5).map (fun i => (i.zero, i.size, i.bytes)) = some (some (.int .u8 0), 1, 1) := by kernel_rfl

/-- A row of n numbers of kind k lies at 'ao'. -/
def RowAt (k : IntKind) (w : World) (ao : Option Addr) (n : Nat) (z : Nat → Int) : Prop :=
  ∀ j, j < n → ∃ b off, ao = some ⟨b, off, none⟩ ∧ w.cell? ⟨b, off + j, none⟩ = some (.int k (z j))

theorem RowAt.below {k : IntKind} {w w' : World} {ao : Option Addr} {n : Nat} {z : Nat → Int} (h : RowAt k w ao n z) (hb : Below w.heap.size w w') : RowAt k w' ao n z := fun j hj => by
  obtain ⟨b, off, e, hc⟩ := h j hj
  exact ⟨b, off, e, (hb.cell (p := ⟨b, off + j, none⟩) (World.block_lt_of_cell? _ _ hc)).trans hc⟩

theorem RowAt.addr {k : IntKind} {w : World} {ao : Option Addr} {n : Nat} {z : Nat → Int} (h : RowAt k w ao n z) (hn : 0 < n) :
    ∃ b off, ao = some ⟨b, off, none⟩ ∧ ∀ j, j < n → w.cell? ⟨b, off + j, none⟩ = some (.int k (z j)) := by
  obtain ⟨b, off, e, _⟩ := h 0 hn
  refine ⟨b, off, e, fun j hj => ?_⟩
  obtain ⟨b', off', e', hc⟩ := h j hj
  rw [e] at e'
  simp at e'
  obtain ⟨rfl, rfl⟩ := e'
  exact hc

/-- It returned some Boolean. -/
def RetBool (e : Ending) : Prop := ∃ t : Bool, e = .returned (.bool t)
theorem RetBool.mk (t : Bool) : RetBool (.returned (.bool t)) := ⟨t, rfl⟩
theorem ret_int {k : IntKind} {a b : Int} (h : a = b) : Ending.returned (.int k a) = .returned (.int k b) := by rw [h]
theorem val_int {k : IntKind} {a b : Int} (h : a = b) : Value.int k a = .int k b := by rw [h]
theorem ret_bool {a b : Bool} (h : a = b) : Ending.returned (.bool a) = .returned (.bool b) := by rw [h]
theorem val_bool {a b : Bool} (h : a = b) : Value.bool a = .bool b := by rw [h]
def TrueBelow (w : World) (e : Ending) (w' : World) : Prop := e = .returned (.bool true) ∧ Below w.heap.size w w'

/-- WHAT A WALK OF A LAW IS TOLD OF A SLICE OF INTEGERS THAT CAME IN. -/
structure RowIn (k : IntKind) (w : World) (ao : Option Addr) (n cap : Nat) (z : Nat → Int) : Prop where
  row : RowAt k w ao n z
  n_le : n ≤ maxLen
  nil : ao = none → n = 0 ∧ cap = 0
  fits : ∀ j, j < n → (Lit.int k (z j)).wf = true

/-- The clone as it stands when k cells are filled. -/
def part1 (K : IntKind) (z : Nat → Int) (k : Nat) : Nat → Value := fun i => if i < k then .int K (z i) else .int K 0

theorem part1_step (K : IntKind) (z : Nat → Int) (k i : Nat) : (if i = k then Value.int K (z k) else part1 K z k i) = part1 K z (k + 1) i := by
  unfold part1
  by_cases e : i = k
  · subst e; simp
  · rw [if_neg e]
    by_cases h : i < k
    · rw [if_pos h, if_pos (by omega)]
    · rw [if_neg h, if_neg (by omega)]

theorem rowIs_row {K : IntKind} {t : TypeId} {w : World} {b n : Nat} {z : Nat → Int} (h : w.rowIs b t n (part1 K z n)) : RowAt K w (some ⟨b, 0, none⟩) n z := fun j hj =>
  ⟨b, 0, rfl, by rw [Nat.zero_add, h.cell hj]; simp [part1, hj]⟩

def Cloned (K : IntKind) (w : World) (n : Nat) (z : Nat → Int) (e : Ending) (w' : World) : Prop :=
  ∃ ao', e = .returned (.slice ao' n n) ∧ RowAt K w' ao' n z ∧ Below w.heap.size w w'

set_option maxHeartbeats 400000 in
theorem clone11_some (a : Addr) (n cap : Nat) (z : Nat → Int) (w : World) (hn : n ≤ 1048576) (hc : RowAt .u8 w (some a) n z) :
    Calls Try.prog 11 #[.slice (some a) n cap] w fun e w' => Cloned .u8 w n z e w' := by
  have hmk := run_make_row' (P := Try.prog) 22 5 (.int .u8 0) 1 Try.underlying22 Try.info5 rfl .i64 .i64 n (by omega) (by omega)
  have hnil := fun w => Lib.run_eql_slice_nil (P := Try.prog) w 22 5 (some a) n cap 0 0 Try.underlying22
  simp only [Option.isNone_some] at hnil
  go_enter Try.func11, Try.ntmps11
  go_wp2
  clear hmk hnil
  go_loopw [4] (fun i wr => ∃ k : Nat, k ≤ n ∧ i = .int .i64 k ∧ Below w.heap.size w wr ∧ wr.rowIs w.heap.size 5 n (part1 .u8 z k)) (fun i _ => n - (intOf i).toNat)
  case atStart => exact ⟨0, Nat.zero_le _, rfl, (Below.refl _ _).alloc (Nat.le_refl _) _, (World.rowIs_made w _ n 5).congr (fun j _ => by simp [part1])⟩
  case round =>
    obtain ⟨k, hk, rfl, hb, hrow⟩ := hrel
    by_cases hlt : k < n
    · obtain ⟨b, off, e, h2⟩ := hc k hlt
      simp only [Option.some.injEq] at e
      subst e
      have h3 : wr.cell? ⟨b, off + k, none⟩ = some (.int .u8 (z k)) := (hb.cell (p := ⟨b, off + k, none⟩) (World.block_lt_of_cell? _ _ h2)).trans h2
      have h4 := hrow.cell hlt
      have h5 := hrow.frozen k
      clear hc h2
      go_wp2
      go_roundw
      case rel => exact ⟨k + 1, by omega, by go_num, hb.setCell (Nat.le_refl _) _, (hrow.set k _).congr (fun i _ => part1_step .u8 z k i)⟩
      case measure => simp [intOf]; omega
    · have : k = n := by omega
      subst this
      go_wp2
      go_ret
      exact ⟨some ⟨w.heap.size, 0, none⟩, rfl, rowIs_row hrow, hb⟩

set_option maxHeartbeats 400000 in
theorem clone11_none (w : World) (z : Nat → Int) :
    Calls Try.prog 11 #[.slice none 0 0] w fun e w' => Cloned .u8 w 0 z e w' := by
  have hnil := fun w => Lib.run_eql_slice_nil (P := Try.prog) w 22 5 none 0 0 0 0 Try.underlying22
  simp only [Option.isNone_none] at hnil
  go_enter Try.func11, Try.ntmps11
  go_wp2
  go_ret
  exact ⟨none, rfl, fun j hj => absurd hj (Nat.not_lt_zero _), Below.refl _ _⟩

theorem clone11_any (ao : Option Addr) (n cap : Nat) (z : Nat → Int) (w : World) (hn : n ≤ 1048576) (h0 : ao = none → n = 0 ∧ cap = 0) (hc : RowAt .u8 w ao n z) :
    Calls Try.prog 11 #[.slice ao n cap] w fun e w' => Cloned .u8 w n z e w' := by
  cases ao with
  | none =>
    obtain ⟨rfl, rfl⟩ := h0 rfl
    exact clone11_none w z
  | some a => exact clone11_some a n cap z w hn hc

/-- White space inside a line. -/
def isW (c : Int) : Bool := c == 32 || c == 9 || c == 11 || c == 12 || c == 13

theorem isW_cases (c : Int) : (c = 32 ∧ isW c = true) ∨ (c ≠ 32 ∧ c = 9 ∧ isW c = true) ∨ (c ≠ 32 ∧ c ≠ 9 ∧ c = 11 ∧ isW c = true) ∨ (c ≠ 32 ∧ c ≠ 9 ∧ c ≠ 11 ∧ c = 12 ∧ isW c = true) ∨
    (c ≠ 32 ∧ c ≠ 9 ∧ c ≠ 11 ∧ c ≠ 12 ∧ c = 13 ∧ isW c = true) ∨ (c ≠ 32 ∧ c ≠ 9 ∧ c ≠ 11 ∧ c ≠ 12 ∧ c ≠ 13 ∧ isW c = false) := by
  unfold isW
  by_cases h1 : c = 32
  · left; simp [h1]
  by_cases h2 : c = 9
  · right; left; simp [h2]
  by_cases h3 : c = 11
  · right; right; left; simp [h3]
  by_cases h4 : c = 12
  · right; right; right; left; simp [h4]
  by_cases h5 : c = 13
  · right; right; right; right; left; simp [h5]
  · right; right; right; right; right; simp [h1, h2, h3, h4, h5]

set_option maxHeartbeats 400000 in
theorem space35 (c : Int) (w : World) : Calls Try.prog 35 #[.int .u8 c] w fun e w' => e = .returned (.bool (isW c)) ∧ w' = w := by
  rcases isW_cases c with ⟨h1, hw⟩ | ⟨h1, h2, hw⟩ | ⟨h1, h2, h3, hw⟩ | ⟨h1, h2, h3, h4, hw⟩ | ⟨h1, h2, h3, h4, h5, hw⟩ | ⟨h1, h2, h3, h4, h5, hw⟩
  · subst h1
    go_enter Try.func35, Try.ntmps35
    go_wp2
    go_ret
    exact ⟨rfl, rfl⟩
  · subst h2
    go_enter Try.func35, Try.ntmps35
    go_wp2
    go_ret
    exact ⟨rfl, rfl⟩
  · subst h3
    go_enter Try.func35, Try.ntmps35
    go_wp2
    go_ret
    exact ⟨rfl, rfl⟩
  · subst h4
    go_enter Try.func35, Try.ntmps35
    go_wp2
    go_ret
    exact ⟨rfl, rfl⟩
  · subst h5
    go_enter Try.func35, Try.ntmps35
    go_wp2
    go_ret
    exact ⟨rfl, rfl⟩
  · have g1 : (c == 32) = false := by simp [h1]
    have g2 : (c == 9) = false := by simp [h2]
    have g3 : (c == 11) = false := by simp [h3]
    have g4 : (c == 12) = false := by simp [h4]
    have g5 : (c == 13) = false := by simp [h5]
    go_enter Try.func35, Try.ntmps35
    go_wp2
    go_ret
    exact ⟨ret_bool hw.symm, rfl⟩

set_option maxHeartbeats 400000 in
theorem white30 (c : Int) (w : World) : Calls Try.prog 30 #[.int .u8 c] w fun e w' => e = .returned (.bool (isW c)) ∧ w' = w := by
  rcases isW_cases c with ⟨h1, hw⟩ | ⟨h1, h2, hw⟩ | ⟨h1, h2, h3, hw⟩ | ⟨h1, h2, h3, h4, hw⟩ | ⟨h1, h2, h3, h4, h5, hw⟩ | ⟨h1, h2, h3, h4, h5, hw⟩
  · subst h1
    go_enter Try.func30, Try.ntmps30
    go_wp2
    go_ret
    exact ⟨rfl, rfl⟩
  · subst h2
    go_enter Try.func30, Try.ntmps30
    go_wp2
    go_ret
    exact ⟨rfl, rfl⟩
  · subst h3
    go_enter Try.func30, Try.ntmps30
    go_wp2
    go_ret
    exact ⟨rfl, rfl⟩
  · subst h4
    go_enter Try.func30, Try.ntmps30
    go_wp2
    go_ret
    exact ⟨rfl, rfl⟩
  · subst h5
    go_enter Try.func30, Try.ntmps30
    go_wp2
    go_ret
    exact ⟨rfl, rfl⟩
  · have g1 : (c == 32) = false := by simp [h1]
    have g2 : (c == 9) = false := by simp [h2]
    have g3 : (c == 11) = false := by simp [h3]
    have g4 : (c == 12) = false := by simp [h4]
    have g5 : (c == 13) = false := by simp [h5]
    go_enter Try.func30, Try.ntmps30
    go_wp2
    go_ret
    exact ⟨ret_bool hw.symm, rfl⟩

end Go.Proofs.Qxb6602024a
