/-
  The walk of FnMostPeersIsLargestDegree.
-/
import Derived.Test.Qxb6602022aClone2
namespace Go.Proofs.Qxb6602022a
open Go.RowKit Go.Deep

/-- WHAT A WALK OF A LAW IS TOLD OF A SLICE OF SLICES OF INTS THAT CAME IN. -/
structure MatIn (w : World) (ao : Option Addr) (n cap : Nat) (A : Nat → Option Addr) (L C : Nat → Nat) (Z : Nat → Nat → Int) : Prop where
  mat : Mat w ao n A L C Z
  n_le : n ≤ maxLen
  L_le : ∀ k, k < n → L k ≤ maxLen
  nil : ao = none → n = 0 ∧ cap = 0
  nils : ∀ k, k < n → A k = none → L k = 0 ∧ C k = 0

/-- 'attained' when k rows have been looked at. -/
def att (L : Nat → Nat) (m : Nat) : Nat → Bool
  | 0 => m == 0
  | k + 1 => att L m k || L k == m

theorem att_of (L : Nat → Nat) (m : Nat) : ∀ n, (m = 0 ∨ ∃ k, k < n ∧ L k = m) → att L m n = true
  | 0, h => by
    rcases h with h | ⟨k, hk, _⟩
    · simp [att, h]
    · exact absurd hk (Nat.not_lt_zero _)
  | n + 1, h => by
    simp only [att, Bool.or_eq_true, beq_iff_eq]
    rcases h with h | ⟨k, hk, e⟩
    · exact Or.inl (att_of L m n (Or.inl h))
    · by_cases e' : k = n
      · subst e'; exact Or.inr e
      · exact Or.inl (att_of L m n (Or.inr ⟨k, by omega, e⟩))

theorem val_bool {a b : Bool} (h : a = b) : Value.bool a = .bool b := by rw [h]

theorem ret_bool {a b : Bool} (h : a = b) : Ending.returned (.bool a) = .returned (.bool b) := by rw [h]

def TrueBelow (w : World) (e : Ending) (w' : World) : Prop := e = .returned (.bool true) ∧ Below w.heap.size w w'

set_option maxHeartbeats 800000 in
theorem law3 (ao : Option Addr) (n cap : Nat) (A : Nat → Option Addr) (L C : Nat → Nat) (Z : Nat → Nat → Int) (w : World) (hin : MatIn w ao n cap A L C Z) :
    Calls Try.prog 3 #[.slice ao n cap] w fun e w' => TrueBelow w e w' := by
  go_enter Try.func3, Try.ntmps3
  go_wp2_with fail
  refine (bytes8_any ao n cap A L C _ hin.n_le hin.L_le hin.mat.heads).mono ?_
  rintro e w' ⟨⟨t, rfl⟩, rfl⟩
  cases t
  · go_wp2_with fail
    go_ret
    exact ⟨rfl, Below.refl _ _⟩
  go_wp2_with fail
  refine (size9_any ao n cap A L C _ hin.n_le hin.L_le hin.mat.heads).mono ?_
  rintro e w' ⟨⟨s, rfl, hs⟩, rfl⟩
  by_cases hs1 : 1048576 < s
  · go_wp2_with fail
    go_ret
    exact ⟨rfl, Below.refl _ _⟩
  obtain ⟨hn, hL⟩ := hs.2.2 (by omega)
  go_wp2_with fail
  refine (clone10_any ao n cap A L C Z _ hn hL hin.nil hin.nils hin.mat).mono ?_
  rintro e w1 ⟨ao', A', rfl, hM, hnl, hb⟩
  go_wp2_with fail
  refine (peers11_any ao' n n A' L L _ (by omega) hL hM.heads).mono ?_
  rintro e w2 ⟨rfl, rfl⟩
  have hge := mxL_ge L n
  have hatt := mxL_att L n
  generalize mxL L n = m at *
  have HA : Hid (att L m n = true) := att_of L m n hatt
  have HT : ∀ k, Hid (att L m (k + 1) = (att L m k || L k == m)) := fun _ => rfl
  have H0 : Hid (att L m 0 = (m == 0)) := rfl
  clear hatt
  go_wp2_with fail
  go_loop [4, 5] (fun s i => ∃ k : Nat, k ≤ n ∧ i = .int .i64 k ∧ s = .bool (att L m k)) (fun _ i => n - (intOf i).toNat)
  case atStart => exact ⟨0, Nat.zero_le _, rfl, val_bool (by rw [H0.out, Bool.eq_iff_iff]; simp)⟩
  case round =>
    obtain ⟨k, hk, rfl, rfl⟩ := hrel
    by_cases hlt : k < n
    · have h1 := hL k hlt
      obtain ⟨b, off, rfl, h2⟩ := hM.heads k hlt
      have h3 := hge k hlt
      have HK := HT k
      clear hge HT
      by_cases e : L k = m
      · have h4 : ((L k : Int) == (m : Int)) = true := by simp [e]
        go_wp2
        go_round
        case rel => exact ⟨k + 1, by omega, by go_num, val_bool (by rw [HK.out]; simp [e])⟩
        case measure => simp [intOf]; omega
      · have h4 : ((L k : Int) == (m : Int)) = false := by simp; omega
        go_wp2
        go_round
        case rel => exact ⟨k + 1, by omega, by go_num, val_bool (by rw [HK.out]; simp [e])⟩
        case measure => simp [intOf]; omega
    · have : k = n := by omega
      subst this
      go_wp2
      go_ret
      exact ⟨ret_bool HA.out, hb⟩

end Go.Proofs.Qxb6602022a
