/-
  The small functions on the road of FnRenderedMatchesIntervalUnionModel.
-/
import Derived.Test.Qxb6602024aBase
import Derived.Deep.QuietTactic
import Derived.BigQuiet
namespace Go.Proofs.Qxb6602024a
open Go.RowKit Go.Deep

theorem below_drewN {B : Nat} {a w : World} (h : Below B a w) (n : Nat) : Below B a (w.drewN n) := h.trans ⟨rfl, rfl, rfl, Nat.le_refl _, fun _ _ => rfl⟩

set_option maxHeartbeats 400000 in
theorem bytes21 (ao bo co : Option Addr) (n cap m mcap q qcap : Nat) (w : World) (hn : n ≤ maxLen) (hm : m ≤ maxLen) (hq : q ≤ maxLen) :
    Calls Try.prog 21 #[.slice ao n cap, .slice bo m mcap, .slice co q qcap] w fun e w' => RetBool e ∧ w' = w := by
  unfold maxLen at hn hm hq
  go_enter Try.func21, Try.ntmps21
  go_wp2
  all_goals
    go_ret
    exact ⟨RetBool.mk _, rfl⟩

/-- The length without one trailing newline. -/
def BodyLen (z : Nat → Int) (N n : Nat) : Prop := (n = N ∧ ¬ (0 < N ∧ z (N - 1) = 10)) ∨ (0 < N ∧ z (N - 1) = 10 ∧ n = N - 1)

def RetBody (z : Nat → Int) (N : Nat) (e : Ending) : Prop := ∃ n : Nat, e = .returned (.int .i64 (n : Int)) ∧ BodyLen z N n

set_option maxHeartbeats 400000 in
theorem body22 (ao : Option Addr) (N cap : Nat) (z : Nat → Int) (w : World) (hn : N ≤ 65536) (hc : RowAt .u8 w ao N z) :
    Calls Try.prog 22 #[.slice ao N cap] w fun e w' => RetBody z N e ∧ w' = w := by
  by_cases h0 : 0 < N
  · obtain ⟨b, off, rfl, h2⟩ := hc (N - 1) (by omega)
    have h0' : (0 : Int) < (N : Int) := by omega
    by_cases h3 : z (N - 1) = 10
    · have g : (z (N - 1) == 10) = true := by simp [h3]
      have HB : Hid (BodyLen z N (N - 1)) := Or.inr ⟨h0, h3, rfl⟩
      clear h3
      generalize z (N - 1) = c at h2 g
      go_enter Try.func22, Try.ntmps22
      go_wp2
      go_ret
      exact ⟨⟨N - 1, ret_int (by omega), HB.out⟩, rfl⟩
    · have g : (z (N - 1) == 10) = false := by simp [h3]
      have HB : Hid (BodyLen z N N) := Or.inl ⟨rfl, fun h => h3 h.2⟩
      clear h3
      generalize z (N - 1) = c at h2 g
      go_enter Try.func22, Try.ntmps22
      go_wp2
      go_ret
      exact ⟨⟨N, rfl, HB.out⟩, rfl⟩
  · have h0' : decide ((0 : Int) < (N : Int)) = false := by simp; omega
    have HB : Hid (BodyLen z N N) := Or.inl ⟨rfl, fun h => h0 h.1⟩
    go_enter Try.func22, Try.ntmps22
    go_wp2
    go_ret
    exact ⟨⟨N, rfl, HB.out⟩, rfl⟩

/-- Spans inside the first n bytes. -/
def Fit (s t : Nat → Int) (m n : Nat) : Prop := ∀ k, k < m → 0 ≤ s k ∧ s k ≤ t k ∧ t k ≤ (n : Int)

def RetFit (s t : Nat → Int) (m q n : Nat) (e : Ending) : Prop := ∃ r : Bool, e = .returned (.bool r) ∧ (r = true → m = q ∧ Fit s t m n)
theorem RetFit.no {s t : Nat → Int} {m q n : Nat} : RetFit s t m q n (.returned (.bool false)) := ⟨false, rfl, fun h => by cases h⟩
theorem RetFit.yes {s t : Nat → Int} {m q n : Nat} (h : m = q) (h' : Fit s t m n) : RetFit s t m q n (.returned (.bool true)) := ⟨true, rfl, fun _ => ⟨h, h'⟩⟩

set_option maxHeartbeats 800000 in
theorem fit23 (ao bo : Option Addr) (m mcap q qcap n : Nat) (s t : Nat → Int) (w : World) (hm : m ≤ 65536) (hq : q ≤ 65536) (ha : RowAt .i64 w ao m s) (hb : RowAt .i64 w bo q t) :
    Calls Try.prog 23 #[.slice ao m mcap, .slice bo q qcap, .int .i64 (n : Int)] w fun e w' => RetFit s t m q n e ∧ Below w.heap.size w w' := by
  by_cases hmq : m = q
  · subst hmq
    go_enter Try.func23, Try.ntmps23
    go_wp2_with fail
    go_loopw [7] (fun i wr => ∃ k : Nat, k ≤ m ∧ i = .int .i64 k ∧ Below w.heap.size w wr ∧ Hid (Fit s t k n)) (fun i _ => m - (intOf i).toNat)
    case atStart => exact ⟨0, Nat.zero_le _, rfl, Below.refl _ _, fun k hk => absurd hk (Nat.not_lt_zero _)⟩
    case round =>
      obtain ⟨k, hk, rfl, hbel, hF⟩ := hrel
      by_cases hlt : k < m
      · obtain ⟨b, off, rfl, h1⟩ := (ha.below hbel) k hlt
        obtain ⟨b', off', rfl, h2⟩ := (hb.below hbel) k hlt
        have HY : Hid (0 ≤ s k → s k ≤ t k → t k ≤ (n : Int) → Fit s t (k + 1) n) := fun c1 c2 c3 j hj => by
          by_cases e : j = k
          · subst e; exact ⟨c1, c2, c3⟩
          · exact hF.out j (by omega)
        have hki : (k : Int) < (m : Int) := by omega
        have hk0 : (0 : Int) ≤ (k : Int) := by omega
        have HB : ∀ q, Hid (Below w.heap.size w (wr.drewN q)) := fun q => below_drewN hbel q
        clear ha hb hF hbel
        generalize s k = x at *
        generalize t k = y at *
        by_cases c1 : x < 0
        · clear HY
          go_wp2
          go_quiet (fail)
          go_wp2
          go_ret
          exact ⟨RetFit.no, (HB _).out⟩
        · have c1' : decide (x < 0) = false := by simp; omega
          by_cases c2 : y < x
          · clear HY
            go_wp2
            go_quiet (fail)
            go_wp2
            go_ret
            exact ⟨RetFit.no, (HB _).out⟩
          · have c2' : decide (y < x) = false := by simp; omega
            by_cases c3 : (n : Int) < y
            · clear HY
              go_wp2
              go_quiet (fail)
              go_wp2
              go_ret
              exact ⟨RetFit.no, (HB _).out⟩
            · have c3' : decide ((n : Int) < y) = false := by simp; omega
              have HF : Hid (Fit s t (k + 1) n) := HY.out (by omega) (by omega) (by omega)
              clear HY
              go_wp2
              go_quiet (fail)
              go_wp2
              go_roundw
              case rel => exact ⟨k + 1, by omega, by go_num, (HB _).out, HF⟩
              case measure => simp [intOf]; omega
      · obtain rfl : m = k := by omega
        go_wp2
        go_ret
        exact ⟨RetFit.yes rfl hF.out, hbel⟩
  · have g : ((m : Int) != (q : Int)) = true := by simp; omega
    go_enter Try.func23, Try.ntmps23
    go_wp2
    go_ret
    exact ⟨RetFit.no, Below.refl _ _⟩

set_option maxHeartbeats 400000 in
theorem clone24_some (a : Addr) (n cap : Nat) (z : Nat → Int) (w : World) (hn : n ≤ 1048576) (hc : RowAt .i64 w (some a) n z) :
    Calls Try.prog 24 #[.slice (some a) n cap] w fun e w' => Cloned .i64 w n z e w' := by
  have hmk := run_make_row' (P := Try.prog) 31 3 (.int .i64 0) 8 Try.underlying31 Try.info3 rfl .i64 .i64 n (by omega) (by omega)
  have hnil := fun w => Lib.run_eql_slice_nil (P := Try.prog) w 31 3 (some a) n cap 0 0 Try.underlying31
  simp only [Option.isNone_some] at hnil
  go_enter Try.func24, Try.ntmps24
  go_wp2
  clear hmk hnil
  go_loopw [4] (fun i wr => ∃ k : Nat, k ≤ n ∧ i = .int .i64 k ∧ Below w.heap.size w wr ∧ wr.rowIs w.heap.size 3 n (part1 .i64 z k)) (fun i _ => n - (intOf i).toNat)
  case atStart => exact ⟨0, Nat.zero_le _, rfl, (Below.refl _ _).alloc (Nat.le_refl _) _, (World.rowIs_made w _ n 3).congr (fun j _ => by simp [part1])⟩
  case round =>
    obtain ⟨k, hk, rfl, hb, hrow⟩ := hrel
    by_cases hlt : k < n
    · obtain ⟨b, off, e, h2⟩ := hc k hlt
      simp only [Option.some.injEq] at e
      subst e
      have h3 : wr.cell? ⟨b, off + k, none⟩ = some (.int .i64 (z k)) := (hb.cell (p := ⟨b, off + k, none⟩) (World.block_lt_of_cell? _ _ h2)).trans h2
      have h4 := hrow.cell hlt
      have h5 := hrow.frozen k
      clear hc h2
      go_wp2
      go_roundw
      case rel => exact ⟨k + 1, by omega, by go_num, hb.setCell (Nat.le_refl _) _, (hrow.set k _).congr (fun i _ => part1_step .i64 z k i)⟩
      case measure => simp [intOf]; omega
    · have : k = n := by omega
      subst this
      go_wp2
      go_ret
      exact ⟨some ⟨w.heap.size, 0, none⟩, rfl, rowIs_row hrow, hb⟩

set_option maxHeartbeats 400000 in
theorem clone24_none (w : World) (z : Nat → Int) :
    Calls Try.prog 24 #[.slice none 0 0] w fun e w' => Cloned .i64 w 0 z e w' := by
  have hnil := fun w => Lib.run_eql_slice_nil (P := Try.prog) w 31 3 none 0 0 0 0 Try.underlying31
  simp only [Option.isNone_none] at hnil
  go_enter Try.func24, Try.ntmps24
  go_wp2
  go_ret
  exact ⟨none, rfl, fun j hj => absurd hj (Nat.not_lt_zero _), Below.refl _ _⟩

theorem clone24_any (ao : Option Addr) (n cap : Nat) (z : Nat → Int) (w : World) (hn : n ≤ 1048576) (h0 : ao = none → n = 0 ∧ cap = 0) (hc : RowAt .i64 w ao n z) :
    Calls Try.prog 24 #[.slice ao n cap] w fun e w' => Cloned .i64 w n z e w' := by
  cases ao with
  | none =>
    obtain ⟨rfl, rfl⟩ := h0 rfl
    exact clone24_none w z
  | some a => exact clone24_some a n cap z w hn hc

set_option maxHeartbeats 400000 in
theorem same27 (ao bo : Option Addr) (m c1 c2 : Nat) (z : Nat → Int) (w : World) (hm : m ≤ 1048576) (ha : RowAt .i64 w ao m z) (hb : RowAt .i64 w bo m z) :
    Calls Try.prog 27 #[.slice ao m c1, .slice bo m c2] w fun e w' => e = .returned (.bool true) ∧ Below w.heap.size w w' := by
  go_enter Try.func27, Try.ntmps27
  go_wp2_with fail
  go_loopw [5] (fun i wr => ∃ k : Nat, k ≤ m ∧ i = .int .i64 k ∧ Below w.heap.size w wr) (fun i _ => m - (intOf i).toNat)
  case atStart => exact ⟨0, Nat.zero_le _, rfl, Below.refl _ _⟩
  case round =>
    obtain ⟨k, hk, rfl, hbel⟩ := hrel
    by_cases hlt : k < m
    · obtain ⟨b, off, rfl, h1⟩ := (ha.below hbel) k hlt
      obtain ⟨b', off', rfl, h2⟩ := (hb.below hbel) k hlt
      have hki : (k : Int) < (m : Int) := by omega
      have hk0 : (0 : Int) ≤ (k : Int) := by omega
      have HB : ∀ q, Hid (Below w.heap.size w (wr.drewN q)) := fun q => below_drewN hbel q
      clear ha hb hbel
      generalize z k = x at *
      have g : (x != x) = false := by simp
      go_wp2
      go_quiet (fail)
      go_wp2
      go_roundw
      case rel => exact ⟨k + 1, by omega, by go_num, (HB _).out⟩
      case measure => simp [intOf]; omega
    · go_wp2
      go_ret
      exact ⟨rfl, hbel⟩

end Go.Proofs.Qxb6602024a
