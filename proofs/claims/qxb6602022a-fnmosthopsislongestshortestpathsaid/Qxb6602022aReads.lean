/-
  The walks of the functions that only read the heads of the rows.
-/
import Derived.Test.Qxb6602022aBase
namespace Go.Proofs.Qxb6602022a
open Go.RowKit Go.Deep

set_option maxHeartbeats 400000 in
theorem bytes8_any (ao : Option Addr) (n cap : Nat) (A : Nat → Option Addr) (L C : Nat → Nat) (w : World) (hn : n ≤ maxLen) (hL : ∀ k, k < n → L k ≤ maxLen)
    (hc : HeadsAt w ao n A L C) :
    Calls Try.prog 8 #[.slice ao n cap] w fun e w' => RetBool e ∧ w' = w := by
  unfold maxLen at hn hL
  go_enter Try.func8, Try.ntmps8
  go_wp2
  · go_ret
    exact ⟨RetBool.mk _, rfl⟩
  · go_loop [3, 4] (fun s i => ∃ k : Nat, ∃ t : Int, k ≤ n ∧ i = .int .i64 k ∧ s = .int .i64 t ∧ 0 ≤ t ∧ t ≤ 1048576) (fun _ i => n - (intOf i).toNat)
    case atStart => exact ⟨0, n, Nat.zero_le _, rfl, rfl, by omega, by omega⟩
    case round =>
      obtain ⟨k, t, hk, rfl, rfl, ht0, ht1⟩ := hrel
      by_cases hlt : k < n
      · have h1 := hL k hlt
        obtain ⟨b, off, rfl, h2⟩ := hc k hlt
        clear hc hL
        go_wp2
        · go_ret
          exact ⟨RetBool.mk _, rfl⟩
        · go_ret
          exact ⟨RetBool.mk _, rfl⟩
        · go_round
          case rel => exact ⟨k + 1, _, by omega, by go_num, rfl, by omega, by omega⟩
          case measure => simp [intOf]; omega
      · go_wp2
        go_ret
        exact ⟨RetBool.mk _, rfl⟩

set_option maxHeartbeats 400000 in
theorem bytes14_any (ao : Option Addr) (n cap : Nat) (A : Nat → Option Addr) (L C : Nat → Nat) (w : World) (hn : n ≤ maxLen) (hL : ∀ k, k < n → L k ≤ maxLen)
    (hc : HeadsAt w ao n A L C) :
    Calls Try.prog 14 #[.slice ao n cap] w fun e w' => RetBool e ∧ w' = w := by
  unfold maxLen at hn hL
  go_enter Try.func14, Try.ntmps14
  go_wp2
  · go_ret
    exact ⟨RetBool.mk _, rfl⟩
  · go_loop [3, 4] (fun s i => ∃ k : Nat, ∃ t : Int, k ≤ n ∧ i = .int .i64 k ∧ s = .int .i64 t ∧ 0 ≤ t ∧ t ≤ 1048576) (fun _ i => n - (intOf i).toNat)
    case atStart => exact ⟨0, n, Nat.zero_le _, rfl, rfl, by omega, by omega⟩
    case round =>
      obtain ⟨k, t, hk, rfl, rfl, ht0, ht1⟩ := hrel
      by_cases hlt : k < n
      · have h1 := hL k hlt
        obtain ⟨b, off, rfl, h2⟩ := hc k hlt
        clear hc hL
        go_wp2
        · go_ret
          exact ⟨RetBool.mk _, rfl⟩
        · go_ret
          exact ⟨RetBool.mk _, rfl⟩
        · go_round
          case rel => exact ⟨k + 1, _, by omega, by go_num, rfl, by omega, by omega⟩
          case measure => simp [intOf]; omega
      · go_wp2
        go_ret
        exact ⟨RetBool.mk _, rfl⟩

set_option maxHeartbeats 400000 in
theorem bytes17_any (ao : Option Addr) (n cap : Nat) (A : Nat → Option Addr) (L C : Nat → Nat) (w : World) (hn : n ≤ maxLen) (hL : ∀ k, k < n → L k ≤ maxLen)
    (hc : HeadsAt w ao n A L C) :
    Calls Try.prog 17 #[.slice ao n cap] w fun e w' => RetBool e ∧ w' = w := by
  unfold maxLen at hn hL
  go_enter Try.func17, Try.ntmps17
  go_wp2
  · go_ret
    exact ⟨RetBool.mk _, rfl⟩
  · go_loop [3, 4] (fun s i => ∃ k : Nat, ∃ t : Int, k ≤ n ∧ i = .int .i64 k ∧ s = .int .i64 t ∧ 0 ≤ t ∧ t ≤ 1048576) (fun _ i => n - (intOf i).toNat)
    case atStart => exact ⟨0, n, Nat.zero_le _, rfl, rfl, by omega, by omega⟩
    case round =>
      obtain ⟨k, t, hk, rfl, rfl, ht0, ht1⟩ := hrel
      by_cases hlt : k < n
      · have h1 := hL k hlt
        obtain ⟨b, off, rfl, h2⟩ := hc k hlt
        clear hc hL
        go_wp2
        · go_ret
          exact ⟨RetBool.mk _, rfl⟩
        · go_ret
          exact ⟨RetBool.mk _, rfl⟩
        · go_round
          case rel => exact ⟨k + 1, _, by omega, by go_num, rfl, by omega, by omega⟩
          case measure => simp [intOf]; omega
      · go_wp2
        go_ret
        exact ⟨RetBool.mk _, rfl⟩

set_option maxHeartbeats 400000 in
theorem bytes12_any (ao : Option Addr) (n cap : Nat) (A : Nat → Option Addr) (L C : Nat → Nat) (po : Option Addr) (m mcap : Nat) (w : World) (hn : n ≤ maxLen) (hL : ∀ k, k < n → L k ≤ maxLen) (hm : m ≤ maxLen)
    (hc : HeadsAt w ao n A L C) :
    Calls Try.prog 12 #[.slice ao n cap, .slice po m mcap] w fun e w' => RetBool e ∧ w' = w := by
  unfold maxLen at hn hL hm
  go_enter Try.func12, Try.ntmps12
  go_wp2
  · go_ret
    exact ⟨RetBool.mk _, rfl⟩
  · go_loop [5, 6] (fun s i => ∃ k : Nat, ∃ t : Int, k ≤ n ∧ i = .int .i64 k ∧ s = .int .i64 t ∧ 0 ≤ t ∧ t ≤ 1048576) (fun _ i => n - (intOf i).toNat)
    case atStart => exact ⟨0, n, Nat.zero_le _, rfl, rfl, by omega, by omega⟩
    case round =>
      obtain ⟨k, t, hk, rfl, rfl, ht0, ht1⟩ := hrel
      by_cases hlt : k < n
      · have h1 := hL k hlt
        obtain ⟨b, off, rfl, h2⟩ := hc k hlt
        clear hc hL
        go_wp2
        · go_ret
          exact ⟨RetBool.mk _, rfl⟩
        · go_ret
          exact ⟨RetBool.mk _, rfl⟩
        · go_round
          case rel => exact ⟨k + 1, _, by omega, by go_num, rfl, by omega, by omega⟩
          case measure => simp [intOf]; omega
      · go_wp2
        all_goals
          go_ret
          exact ⟨RetBool.mk _, rfl⟩

/-- What zzSize says: a size within the bound bounds all lengths. -/
def SizeOk (n : Nat) (L : Nat → Nat) (s : Int) : Prop := 0 ≤ s ∧ s ≤ 2097152 ∧ (s ≤ 1048576 → n ≤ 65536 ∧ ∀ k, k < n → L k ≤ 131072)

theorem SizeOk.big {n : Nat} {L : Nat → Nat} : SizeOk n L 2097152 := ⟨by omega, by omega, fun h => by omega⟩

set_option maxHeartbeats 400000 in
theorem size9_any (ao : Option Addr) (n cap : Nat) (A : Nat → Option Addr) (L C : Nat → Nat) (w : World) (hn : n ≤ maxLen) (hL : ∀ k, k < n → L k ≤ maxLen)
    (hc : HeadsAt w ao n A L C) :
    Calls Try.prog 9 #[.slice ao n cap] w fun e w' => RetInt (SizeOk n L) e ∧ w' = w := by
  unfold maxLen at hn hL
  go_enter Try.func9, Try.ntmps9
  go_wp2
  · go_ret
    exact ⟨RetInt.mk _ SizeOk.big, rfl⟩
  · go_ret
    exact ⟨RetInt.mk _ SizeOk.big, rfl⟩
  · go_loop [3, 4] (fun s i => ∃ k : Nat, ∃ t : Int, k ≤ n ∧ i = .int .i64 k ∧ s = .int .i64 t ∧ 0 ≤ t ∧ t ≤ 1048576 ∧ Hid (∀ j, j < k → L j ≤ 131072)) (fun _ i => n - (intOf i).toNat)
    case atStart => exact ⟨0, 24 * n, Nat.zero_le _, rfl, rfl, by omega, by omega, fun j hj => absurd hj (Nat.not_lt_zero _)⟩
    case round =>
      obtain ⟨k, t, hk, rfl, rfl, ht0, ht1, hH⟩ := hrel
      by_cases hlt : k < n
      · have h1 := hL k hlt
        obtain ⟨b, off, rfl, h2⟩ := hc k hlt
        clear hc hL
        go_wp2
        · go_ret
          exact ⟨RetInt.mk _ SizeOk.big, rfl⟩
        · go_ret
          exact ⟨RetInt.mk _ SizeOk.big, rfl⟩
        · go_round
          case rel =>
            refine ⟨k + 1, _, by omega, by go_num, rfl, by omega, by omega, fun j hj => ?_⟩
            by_cases e : j = k
            · subst e; omega
            · exact hH.out j (by omega)
          case measure => simp [intOf]; omega
      · go_wp2
        go_ret
        exact ⟨RetInt.mk _ ⟨ht0, by omega, fun _ => ⟨by omega, fun j hj => hH.out j (by omega)⟩⟩, rfl⟩

set_option maxHeartbeats 400000 in
theorem peers11_any (ao : Option Addr) (n cap : Nat) (A : Nat → Option Addr) (L C : Nat → Nat) (w : World) (hn : n ≤ 65537) (hL : ∀ k, k < n → L k ≤ 131072)
    (hc : HeadsAt w ao n A L C) :
    Calls Try.prog 11 #[.slice ao n cap] w fun e w' => e = .returned (.int .i64 (mxL L n)) ∧ w' = w := by
  go_enter Try.func11, Try.ntmps11
  go_wp2
  go_loop [3, 5, 8] (fun s _ i => ∃ k : Nat, k ≤ n ∧ i = .int .i64 k ∧ s = .int .i64 (mxL L k)) (fun _ _ i => n - (intOf i).toNat)
  case atStart => exact ⟨0, Nat.zero_le _, rfl, rfl⟩
  case round =>
    obtain ⟨k, hk, rfl, rfl⟩ := hrel
    have hb := mxL_le L 131072 k (fun j hj => hL j (by omega))
    by_cases hlt : k < n
    · have h1 := hL k hlt
      obtain ⟨b, off, rfl, h2⟩ := hc k hlt
      clear hc hL
      have hs : mxL L (k + 1) = max (mxL L k) (L k) := rfl
      have HS : Hid (mxL L (k + 1) = max (mxL L k) (L k)) := hs
      clear hs
      generalize hmm : mxL L k = mm at *
      clear hmm
      by_cases hgt : mm < L k
      · have hgi : (mm : Int) < (L k : Int) := by omega
        go_wp2
        go_round
        case rel => exact ⟨k + 1, by omega, by go_num, val_int (by rw [HS.out]; omega)⟩
        case measure => simp [intOf]; omega
      · have hgi : ¬ (mm : Int) < (L k : Int) := by omega
        go_wp2
        go_round
        case rel => exact ⟨k + 1, by omega, by go_num, val_int (by rw [HS.out]; omega)⟩
        case measure => simp [intOf]; omega
    · have : k = n := by omega
      subst this
      go_wp2
      go_ret
      exact ⟨rfl, rfl⟩

end Go.Proofs.Qxb6602022a
