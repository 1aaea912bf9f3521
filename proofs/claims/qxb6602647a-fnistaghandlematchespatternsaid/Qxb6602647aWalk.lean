/-
  The walks of this seat.
-/
import Derived.Test.Qxb6602647aRows
import Derived.Test.Qxb6602647aTag
import Derived.WalkKit
import Derived.WalkSpells
import Derived.WalkLawsBesides
namespace Go.Proofs.Qxb6602647a
open Go.RowKit

theorem ret_bool {a b : Bool} (h : a = b) : Ending.returned (.bool a) = .returned (.bool b) := by rw [h]
def RetBool (e : Ending) : Prop := ∃ t : Bool, e = .returned (.bool t)
theorem RetBool.mk (t : Bool) : RetBool (.returned (.bool t)) := ⟨t, rfl⟩

set_option maxHeartbeats 400000 in
theorem word11 (c : Int) (w : World) : Calls Try.prog 11 #[.int .u8 c] w fun e w' => e = .returned (.bool (isWd c)) ∧ w' = w := by
  have key : ∀ t : Bool, Hid (isWd c = t) → (Calls Try.prog 11 #[.int .u8 c] w fun e w' => e = .returned (.bool t) ∧ w' = w) → Calls Try.prog 11 #[.int .u8 c] w fun e w' => e = .returned (.bool (isWd c)) ∧ w' = w := fun t ht h => by
    rw [ht.out]; exact h
  by_cases c1 : c = 45
  · refine key true (by show isWd c = true; simp [isWd, c1]) ?_
    have g1 : (c == 45) = true := by simp [c1]
    clear c1 key
    go_enter Try.func11, Try.ntmps11
    go_wp2
    go_ret
    exact ⟨rfl, rfl⟩
  have g1 : (c == 45) = false := by simp [c1]
  by_cases c2 : c < 48
  · refine key false (by show isWd c = false; simp [isWd, c1]; omega) ?_
    clear c1 key
    go_enter Try.func11, Try.ntmps11
    go_wp2
    go_ret
    exact ⟨rfl, rfl⟩
  by_cases d0 : c ≤ 57
  · refine key true (by show isWd c = true; simp [isWd, c1]; omega) ?_
    clear c1 key
    go_enter Try.func11, Try.ntmps11
    go_wp2
    go_ret
    exact ⟨rfl, rfl⟩
  by_cases d1 : c < 65
  · refine key false (by show isWd c = false; simp [isWd, c1]; omega) ?_
    clear c1 key
    go_enter Try.func11, Try.ntmps11
    go_wp2
    go_ret
    exact ⟨rfl, rfl⟩
  by_cases d2 : c ≤ 90
  · refine key true (by show isWd c = true; simp [isWd, c1]; omega) ?_
    clear c1 key
    go_enter Try.func11, Try.ntmps11
    go_wp2
    go_ret
    exact ⟨rfl, rfl⟩
  by_cases d3 : c < 97
  · refine key false (by show isWd c = false; simp [isWd, c1]; omega) ?_
    clear c1 key
    go_enter Try.func11, Try.ntmps11
    go_wp2
    go_ret
    exact ⟨rfl, rfl⟩
  by_cases d4 : c ≤ 122
  · refine key true (by show isWd c = true; simp [isWd, c1]; omega) ?_
    clear c1 key
    go_enter Try.func11, Try.ntmps11
    go_wp2
    go_ret
    exact ⟨rfl, rfl⟩
  refine key false (by show isWd c = false; simp [isWd, c1]; omega) ?_
  clear c1 key
  go_enter Try.func11, Try.ntmps11
  go_wp2
  go_ret
  exact ⟨rfl, rfl⟩

set_option maxHeartbeats 400000 in
theorem alpha10 (c : Nat) (w : World) (hc : c < 256) : Calls Try.prog 10 #[.int .u8 (c : Int)] w fun e w' => e = .returned (.bool (isWd c)) ∧ w' = w := by
  go_enter Try.func10, Try.ntmps10
  go_wp2_with fail
  go_loop [3] (fun i => ∃ k : Nat, k ≤ 63 ∧ i = .int .i64 k ∧ Hid (∀ p, p < k → alpha.getD p 0 ≠ c)) (fun i => 63 - (intOf i).toNat)
  case atStart => exact ⟨0, Nat.zero_le _, rfl, fun p hp => absurd hp (Nat.not_lt_zero _)⟩
  case round =>
    obtain ⟨k, hk, rfl, hH⟩ := hrel
    by_cases hlt : k < 63
    · have hx := alpha_get k hlt
      have hH' : Hid (∀ p, p < k → alpha.getD p 0 ≠ c) := hH
      obtain ⟨x, hx'⟩ : ∃ x, alpha.getD k 0 = x := ⟨_, rfl⟩
      rw [hx'] at hx
      have HX : Hid (alpha.getD k 0 = x) := hx'
      clear hx' hH
      by_cases e : x = c
      · have g : ((x : Int) == (c : Int)) = true := by simp; omega
        have HW : Hid (isWd c = true) := by
          show isWd c = true
          rw [alpha_all c hc, List.any_eq_true]
          exact ⟨k, List.mem_range.2 hlt, by simp only [beq_iff_eq]; rw [HX.out, e]⟩
        clear e
        go_wp2_with fail
        go_ret
        exact ⟨ret_bool HW.out.symm, rfl⟩
      · have g : ((x : Int) == (c : Int)) = false := by simp; omega
        have HH : Hid (∀ p, p < k + 1 → alpha.getD p 0 ≠ c) := fun p hp => by
          by_cases e' : p = k
          · subst e'; rw [HX.out]; exact e
          · exact hH'.out p (by omega)
        clear e
        go_wp2_with fail
        go_round
        case rel => exact ⟨k + 1, by omega, by go_num, HH⟩
        case measure => simp [intOf]; omega
    · obtain rfl : k = 63 := by omega
      have HW : Hid (isWd c = false) := by
        show isWd c = false
        rw [alpha_all c hc, List.any_eq_false]
        intro p hp
        simp only [beq_iff_eq]
        exact hH.out p (List.mem_range.1 hp)
      go_wp2_with fail
      go_ret
      exact ⟨ret_bool HW.out.symm, rfl⟩

end Go.Proofs.Qxb6602647a
