/-
  The walk of fieldStart, and of the law FnFieldStartIdempotentAndBounded.
-/
import Derived.Test.Qxb6602024aField
namespace Go.Proofs.Qxb6602024a
open Go.RowKit Go.Deep

set_option maxHeartbeats 800000 in
theorem fs33 (ao : Option Addr) (n cap i : Nat) (z : Nat → Int) (w : World) (hn : n ≤ 1048576) (hc : RowAt .u8 w ao n z) :
    Calls Try.prog 33 #[.slice ao n cap, .int .i64 (i : Int)] w fun e w' => RetFs z n i e ∧ w' = w := by
  go_enter Try.func33, Try.ntmps33
  go_wp2_with fail
  go_loop [1, 6, 7] (fun i' s _ => ∃ (k : Nat) (o : Bool), i' = .int .i64 k ∧ s = .bool o ∧ Hid (FsInv z n i k o)) (fun i' _ _ => n - (intOf i').toNat)
  case atStart => exact ⟨i, false, rfl, rfl, FsInv.start z n i⟩
  case round =>
    obtain ⟨k, o, rfl, rfl, hH⟩ := hrel
    by_cases hlt : k < n
    · obtain ⟨b, off, rfl, h2⟩ := hc k hlt
      have HI := hH.out
      have hInv : Hid (FsInv z n i k o) := HI
      clear HI hH
      by_cases c1 : z k = 123
      · have g1 : (z k == 123) = true := by simp [c1]
        have hp : Hid (∀ j, Skipped z n (k + 1) j → FsInv z n i j true) := fun j hS => hInv.out.step hlt hS (Or.inr (Or.inl c1)) (by rw [c1]; rfl) (by simp [c1])
        clear c1
        generalize z k = c at h2 g1
        go_wp2_with fail
        refine (skip36 _ n cap (k + 1) z _ hn (by omega) hc).mono ?_
        rintro e w' ⟨⟨j, rfl, hs⟩, rfl⟩
        have HP : Hid (FsInv z n i j true) := hp.out j hs
        have hj1 := hs.ge
        have hj2 := hs.le
        clear hp hs hInv
        go_wp2_with fail
        go_round
        case rel => exact ⟨j, true, rfl, rfl, HP⟩
        case measure => simp [intOf]; omega
      have g1 : (z k == 123) = false := by simp [c1]
      by_cases c2 : z k = 91
      · have g2 : (z k == 91) = true := by simp [c2]
        have hp : Hid (∀ j, Skipped z n (k + 1) j → FsInv z n i j true) := fun j hS => hInv.out.step hlt hS (Or.inr (Or.inr (Or.inl c2))) (by rw [c2]; rfl) (by simp [c2])
        clear c1 c2
        generalize z k = c at h2 g1 g2
        go_wp2_with fail
        refine (skip36 _ n cap (k + 1) z _ hn (by omega) hc).mono ?_
        rintro e w' ⟨⟨j, rfl, hs⟩, rfl⟩
        have HP : Hid (FsInv z n i j true) := hp.out j hs
        have hj1 := hs.ge
        have hj2 := hs.le
        clear hp hs hInv
        go_wp2_with fail
        go_round
        case rel => exact ⟨j, true, rfl, rfl, HP⟩
        case measure => simp [intOf]; omega
      have g2 : (z k == 91) = false := by simp [c2]
      by_cases c3 : z k = 45
      · have g3 : (z k != 45) = false := by simp [c3]
        by_cases c4 : k + 1 = n
        · have hF : Hid (Fs z n i k o) := hInv.out.stops hlt c1 c2 (fun _ h => by omega)
          have g4 : ((k : Int) + 1 == (n : Int)) = true := by simp; omega
          clear c1 c2 c3 c4 hInv
          generalize z k = c at h2 g1 g2 g3
          go_wp2_with fail
          go_ret2
          exact ⟨RetFs.mk k o hF.out, rfl⟩
        · have hlt1 : k + 1 < n := by omega
          have g4 : ((k : Int) + 1 == (n : Int)) = false := by simp; omega
          have h3 : w.cell? ⟨b, off + (k + 1), none⟩ = some (.int .u8 (z (k + 1))) := by
            obtain ⟨b', off', e, h⟩ := hc (k + 1) hlt1
            simp only [Option.some.injEq, Addr.mk.injEq, and_true] at e
            obtain ⟨rfl, rfl⟩ := e
            exact h
          have hno : Hid (isW (z (k + 1)) = false → Fs z n i k o) := fun hw => hInv.out.stops hlt c1 c2 (fun _ _ => hw)
          have hyes : Hid (isW (z (k + 1)) = true → ∀ j, Skipped z n (k + 1) j → FsInv z n i j o) := fun hw j hS => hInv.out.step hlt hS (Or.inr (Or.inr (Or.inr ⟨c3, hlt1, hw⟩))) (by rw [c3]; rfl) (by simp [c1, c2])
          clear c1 c2 c3 c4 hInv
          generalize z k = c at h2 g1 g2 g3
          go_wp2_with fail
          refine (space35 (z (k + 1)) _).mono ?_
          rintro e w' ⟨rfl, rfl⟩
          cases hw : isW (z (k + 1)) with
          | false =>
            have hF : Hid (Fs z n i k o) := hno.out hw
            clear hw hno hyes
            go_wp2_with fail
            go_ret2
            exact ⟨RetFs.mk k o hF.out, rfl⟩
          | true =>
            have hp : Hid (∀ j, Skipped z n (k + 1) j → FsInv z n i j o) := hyes.out hw
            clear hw hno hyes
            go_wp2_with fail
            refine (skip36 _ n cap (k + 1) z _ hn (by omega) hc).mono ?_
            rintro e w' ⟨⟨j, rfl, hs⟩, rfl⟩
            have HP : Hid (FsInv z n i j o) := hp.out j hs
            have hj1 := hs.ge
            have hj2 := hs.le
            clear hp hs
            go_wp2_with fail
            go_round
            case rel => exact ⟨j, o, rfl, rfl, HP⟩
            case measure => simp [intOf]; omega
      · have hF : Hid (Fs z n i k o) := hInv.out.stops hlt c1 c2 (fun h => absurd h c3)
        have g3 : (z k != 45) = true := by simp [c3]
        clear c1 c2 c3 hInv
        generalize z k = c at h2 g1 g2 g3
        go_wp2_with fail
        go_ret2
        exact ⟨RetFs.mk k o hF.out, rfl⟩
    · have hF : Hid (Fs z n i k o) := hH.out.ends hlt
      go_wp2_with fail
      go_ret2
      exact ⟨RetFs.mk k o hF.out, rfl⟩

set_option maxHeartbeats 400000 in
theorem fs18 (ao : Option Addr) (n cap i : Nat) (z : Nat → Int) (w : World) (hn : n ≤ 1048576) (hc : RowAt .u8 w ao n z) :
    Calls Try.prog 18 #[.slice ao n cap, .int .i64 (i : Int)] w fun e w' => RetFs z n i e ∧ w' = w := by
  go_enter Try.func18, Try.ntmps18
  go_wp2_with fail
  refine (fs33 ao n cap i z _ hn hc).mono ?_
  rintro e w' ⟨⟨j, o, rfl, hF⟩, rfl⟩
  go_wp2_with fail
  go_ret2
  exact ⟨RetFs.mk j o hF, rfl⟩

set_option maxHeartbeats 400000 in
theorem bytes20 (ao : Option Addr) (n cap : Nat) (i : Int) (w : World) (hn : n ≤ maxLen) :
    Calls Try.prog 20 #[.slice ao n cap, .int .i64 i] w fun e w' => RetBool e ∧ w' = w := by
  unfold maxLen at hn
  go_enter Try.func20, Try.ntmps20
  go_wp2
  all_goals
    go_ret
    exact ⟨RetBool.mk _, rfl⟩

set_option maxHeartbeats 400000 in
theorem bytes17 (ao : Option Addr) (n cap : Nat) (i : Int) (w : World) (hn : n ≤ maxLen) :
    Calls Try.prog 17 #[.slice ao n cap, .int .i64 i] w fun e w' => RetBool e ∧ w' = w := by
  unfold maxLen at hn
  go_enter Try.func17, Try.ntmps17
  go_wp2
  all_goals
    go_ret
    exact ⟨RetBool.mk _, rfl⟩

set_option maxHeartbeats 800000 in
theorem law7 (ao : Option Addr) (n cap : Nat) (z : Nat → Int) (i : Int) (w : World) (hin : RowIn .u8 w ao n cap z) (hi : i ≤ 9223372036854775807) :
    Calls Try.prog 7 #[.slice ao n cap, .int .i64 i] w fun e w' => TrueBelow w e w' := by
  have hn63 := hin.n_le
  unfold maxLen at hn63
  go_enter Try.func7, Try.ntmps7
  go_wp2_with fail
  refine (bytes20 ao n cap i _ hin.n_le).mono ?_
  rintro e w' ⟨⟨t, rfl⟩, rfl⟩
  cases t
  · go_wp2_with fail
    go_ret
    exact ⟨rfl, Below.refl _ _⟩
  by_cases hn1 : (1048576 : Int) < (n : Int)
  · go_wp2_with fail
    go_ret
    exact ⟨rfl, Below.refl _ _⟩
  by_cases hi0 : i < 0
  · go_wp2_with fail
    go_ret
    exact ⟨rfl, Below.refl _ _⟩
  obtain ⟨i0, rfl⟩ := Int.eq_ofNat_of_zero_le (show 0 ≤ i by omega)
  go_wp2_with fail
  refine (clone11_any ao n cap z _ (by omega) hin.nil hin.row).mono ?_
  rintro e w1 ⟨ao', rfl, hR, hb⟩
  clear hin
  go_wp2_with fail
  refine (fs18 ao' n n i0 z _ (by omega) hR).mono ?_
  rintro e w2 ⟨⟨j, o, rfl, hF⟩, rfl⟩
  have hge := hF.first.ge
  have hb2 : j ≤ n ∨ j = i0 := by
    by_cases h : n ≤ i0
    · exact Or.inr (hF.first.past h)
    · exact Or.inl (hF.first.le (by omega))
  have hj63 : j ≤ 9223372036854775807 := by omega
  by_cases hjn : (n : Int) < (j : Int)
  · have g1 : ((j : Int) != (i0 : Int)) = false := by simp; omega
    clear hb2
    go_wp2_with fail
    refine (fs18 ao' n n j z _ (by omega) hR).mono ?_
    rintro e w3 ⟨⟨j', o', rfl, hF'⟩, rfl⟩
    obtain ⟨rfl, rfl⟩ := hF.again hF'
    clear hF hF'
    go_wp2_with fail
    go_ret
    exact ⟨ret_bool (by simp), hb⟩
  · have hjn' : decide ((n : Int) < (j : Int)) = false := by simp; omega
    clear hb2
    go_wp2_with fail
    refine (fs18 ao' n n j z _ (by omega) hR).mono ?_
    rintro e w3 ⟨⟨j', o', rfl, hF'⟩, rfl⟩
    obtain ⟨rfl, rfl⟩ := hF.again hF'
    clear hF hF'
    go_wp2_with fail
    go_ret
    exact ⟨ret_bool (by simp), hb⟩

end Go.Proofs.Qxb6602024a
