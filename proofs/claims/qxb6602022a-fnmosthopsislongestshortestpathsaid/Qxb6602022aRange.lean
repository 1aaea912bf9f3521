/-
  The walk of zzInRange.
-/
import Derived.Test.Qxb6602022aHopsWalk
namespace Go.Proofs.Qxb6602022a
open Go.RowKit Go.Deep Gr

def RetRange (n : Nat) (L : Nat → Nat) (Z : Nat → Nat → Int) (e : Ending) : Prop := ∃ t : Bool, e = .returned (.bool t) ∧ (t = true → InRange n L Z)
theorem RetRange.no {n : Nat} {L : Nat → Nat} {Z : Nat → Nat → Int} : RetRange n L Z (.returned (.bool false)) := ⟨false, rfl, fun h => by cases h⟩
theorem RetRange.yes {n : Nat} {L : Nat → Nat} {Z : Nat → Nat → Int} (h : InRange n L Z) : RetRange n L Z (.returned (.bool true)) := ⟨true, rfl, fun _ => h⟩

set_option maxHeartbeats 400000 in
theorem range15_any (ao : Option Addr) (n cap : Nat) (A : Nat → Option Addr) (L C : Nat → Nat) (Z : Nat → Nat → Int) (w : World) (hn : n ≤ 65536) (hL : ∀ k, k < n → L k ≤ 131072)
    (hM : Mat w ao n A L C Z) :
    Calls Try.prog 15 #[.slice ao n cap] w fun e w' => RetRange n L Z e ∧ w' = w := by
  go_enter Try.func15, Try.ntmps15
  go_wp2
  go_loop [4] (fun i => ∃ k : Nat, k ≤ n ∧ i = .int .i64 k ∧ Hid (∀ u, u < k → ∀ j, j < L u → 0 ≤ Z u j ∧ Z u j < n)) (fun i => n - (intOf i).toNat)
  case atStart => exact ⟨0, Nat.zero_le _, rfl, fun u hu => absurd hu (Nat.not_lt_zero _)⟩
  case round =>
    obtain ⟨k, hk, rfl, hH⟩ := hrel
    by_cases hlt : k < n
    · obtain ⟨b, off, rfl, h1⟩ := hM.heads k hlt
      obtain ⟨au, hau⟩ : ∃ au, au = A k := ⟨_, rfl⟩
      obtain ⟨lu, hlu⟩ : ∃ lu, lu = L k := ⟨_, rfl⟩
      have h2 := hL k hlt
      have hI : Hid (IntsAt w au lu (Z k)) := by rw [hau, hlu]; exact hM.rows k hlt
      rw [← hau, ← hlu] at h1
      rw [← hlu] at h2
      have HL : Hid (lu = L k) := hlu
      clear hau hlu hL
      go_wp2
      go_loop [5, 6] (fun i _ => ∃ j : Nat, j ≤ lu ∧ i = .int .i64 j ∧ Hid (∀ j', j' < j → 0 ≤ Z k j' ∧ Z k j' < n)) (fun i _ => lu - (intOf i).toNat)
      case atStart => exact ⟨0, Nat.zero_le _, rfl, fun u hu => absurd hu (Nat.not_lt_zero _)⟩
      case round =>
        obtain ⟨j, hj, rfl, hJ⟩ := hrel
        by_cases hlj : j < lu
        · obtain ⟨b', off', rfl, h3⟩ := hI.out j hlj
          have HS : (0 ≤ Z k j → Z k j < n → Hid (∀ j', j' < j + 1 → 0 ≤ Z k j' ∧ Z k j' < n)) := fun h0 h1 j' hj' => by
            by_cases e : j' = j
            · subst e; exact ⟨h0, h1⟩
            · exact hJ.out j' (by omega)
          generalize Z k j = z at *
          by_cases hz0 : z < 0
          · clear HS
            go_wp2
            go_ret
            exact ⟨RetRange.no, rfl⟩
          · have hz0' : decide (z < 0) = false := by simpa using hz0
            by_cases hz1 : (n : Int) ≤ z
            · clear HS
              go_wp2
              go_ret
              exact ⟨RetRange.no, rfl⟩
            · have hz1' : decide ((n : Int) ≤ z) = false := by simpa using hz1
              have HS' := HS (by omega) (by omega)
              clear HS
              go_wp2
              go_round
              case rel => exact ⟨j + 1, by omega, by go_num, HS'⟩
              case measure => simp [intOf]; omega
        · have HS : Hid (∀ u, u < k + 1 → ∀ j, j < L u → 0 ≤ Z u j ∧ Z u j < n) := fun u hu j' hj' => by
            by_cases e : u = k
            · subst e; rw [← HL.out] at hj'; exact hJ.out j' (by omega)
            · exact hH.out u (by omega) j' hj'
          go_wp2
          go_round
          case rel => exact ⟨k + 1, by omega, by go_num, HS⟩
          case measure => simp [intOf]; omega
    · obtain rfl : n = k := by omega
      go_wp2
      go_ret
      exact ⟨RetRange.yes hH.out, rfl⟩

end Go.Proofs.Qxb6602022a
