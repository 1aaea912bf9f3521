/-
  The walks of fsFirstStop and of the law FnFieldStartMatchesFirstStop.
-/
import Derived.Test.Qxb6602024aFsWalk
namespace Go.Proofs.Qxb6602024a
open Go.RowKit Go.Deep

def RetFirst (z : Nat → Int) (n i : Nat) (e : Ending) : Prop := ∃ j : Nat, e = .returned (.int .i64 (j : Int)) ∧ First z n i j
theorem RetFirst.mk {z : Nat → Int} {n i : Nat} (j : Nat) (h : First z n i j) : RetFirst z n i (.returned (.int .i64 (j : Int))) := ⟨j, rfl, h⟩

theorem First.atEnd {z : Nat → Int} {n i : Nat} (h : n ≤ i) : First z n i i := ⟨fun _ => rfl, fun _ _ => rfl, Nat.le_refl _, fun h' => by omega, fun h' => by omega, fun _ h' => by omega⟩
theorem First.onWhite {z : Nat → Int} {n i : Nat} (hi : i < n) (h : isW (z i) = true) : First z n i i :=
  ⟨fun _ => rfl, fun _ _ => rfl, Nat.le_refl _, fun h' => by omega, fun _ _ p h1 h2 => by omega, fun h' => by rw [h] at h'; cases h'⟩
theorem First.found {z : Nat → Int} {n i k : Nat} (hi : i < n) (hw : isW (z i) = false) (hik : i ≤ k) (hk : k ≤ n) (hr : ∀ p, i ≤ p → p < k → Pass z n p) (hs : k < n → ¬ Pass z n k) : First z n i k :=
  ⟨fun h => by omega, fun _ h => by (rw [hw] at h; cases h), hik, fun _ => hk, fun _ _ => hr, fun _ => hs⟩

theorem pass_step {z : Nat → Int} {n i k : Nat} (h : ∀ p, i ≤ p → p < k → Pass z n p) (hp : Pass z n k) : ∀ p, i ≤ p → p < k + 1 → Pass z n p := fun p h1 h2 => by
  by_cases e : p = k
  · subst e; exact hp
  · exact h p h1 (by omega)

theorem not_pass {z : Nat → Int} {n p : Nat} (h0 : isW (z p) = false) (h1 : z p ≠ 123) (h2 : z p ≠ 91) (h3 : z p = 45 → p + 1 < n → isW (z (p + 1)) = false) : ¬ Pass z n p := fun hp => by
  rcases hp with hp | hp | hp | ⟨hp, hp2, hp3⟩
  · rw [h0] at hp; cases hp
  · exact h1 hp
  · exact h2 hp
  · have := h3 hp hp2; rw [hp3] at this; cases this

set_option maxHeartbeats 800000 in
theorem first19 (ao : Option Addr) (n cap i : Nat) (z : Nat → Int) (w : World) (hn : n ≤ 1048576) (hc : RowAt .u8 w ao n z) :
    Calls Try.prog 19 #[.slice ao n cap, .int .i64 (i : Int)] w fun e w' => RetFirst z n i e ∧ w' = w := by
  by_cases hi : n ≤ i
  · have hi' : (n : Int) ≤ (i : Int) := by omega
    go_enter Try.func19, Try.ntmps19
    go_wp2_with fail
    go_ret
    exact ⟨RetFirst.mk i (First.atEnd hi), rfl⟩
  have hi' : decide ((n : Int) ≤ (i : Int)) = false := by simp; omega
  have hin : i < n := by omega
  obtain ⟨b, off, rfl, h0⟩ := hc i hin
  go_enter Try.func19, Try.ntmps19
  go_wp2_with fail
  refine (white30 (z i) _).mono ?_
  rintro e w' ⟨rfl, rfl⟩
  cases hw : isW (z i) with
  | true =>
    have HW : Hid (isW (z i) = true) := hw
    clear hw
    go_wp2_with fail
    go_ret
    exact ⟨RetFirst.mk i (First.onWhite hin HW.out), rfl⟩
  | false =>
    have HW : Hid (isW (z i) = false) := hw
    clear hw hi'
    go_wp2_with fail
    go_loop [5, 6] (fun i' _ => ∃ k : Nat, i ≤ k ∧ k ≤ n ∧ i' = .int .i64 k ∧ Hid (∀ p, i ≤ p → p < k → Pass z n p)) (fun i' _ => n - (intOf i').toNat)
    case atStart => exact ⟨i, Nat.le_refl _, by omega, rfl, fun p h1 h2 => by omega⟩
    case round =>
      clear h0
      obtain ⟨k, hik, hk, rfl, hH⟩ := hrel
      by_cases hlt : k < n
      · have h2 : w'.cell? ⟨b, off + k, none⟩ = some (.int .u8 (z k)) := by
          obtain ⟨b', off', e, h⟩ := hc k hlt
          simp only [Option.some.injEq, Addr.mk.injEq, and_true] at e
          obtain ⟨rfl, rfl⟩ := e
          exact h
        by_cases c3 : z k = 45
        · have g3 : (z k == 45) = true := by simp [c3]
          have hk0 : isW (z k) = false := by rw [c3]; rfl
          have hk1 : z k ≠ 123 := by rw [c3]; decide
          have hk2 : z k ≠ 91 := by rw [c3]; decide
          by_cases c4 : k + 1 = n
          · have g4 : ((k : Int) + 1 == (n : Int)) = true := by simp; omega
            have hF : Hid (First z n i k) := First.found hin HW.out hik (by omega) hH.out (fun _ => not_pass hk0 hk1 hk2 (fun _ h => by omega))
            clear c3 c4 hk0 hk1 hk2 hH
            generalize z k = c at h2 g3
            go_wp2_with fail
            go_ret
            exact ⟨RetFirst.mk k hF.out, rfl⟩
          · have hlt1 : k + 1 < n := by omega
            have g4 : ((k : Int) + 1 == (n : Int)) = false := by simp; omega
            have h3 : w'.cell? ⟨b, off + (k + 1), none⟩ = some (.int .u8 (z (k + 1))) := by
              obtain ⟨b', off', e, h⟩ := hc (k + 1) hlt1
              simp only [Option.some.injEq, Addr.mk.injEq, and_true] at e
              obtain ⟨rfl, rfl⟩ := e
              exact h
            have hno : Hid (isW (z (k + 1)) = false → First z n i k) := fun hw => First.found hin HW.out hik (by omega) hH.out (fun _ => not_pass hk0 hk1 hk2 (fun _ _ => hw))
            have hyes : Hid (isW (z (k + 1)) = true → ∀ p, i ≤ p → p < k + 1 → Pass z n p) := fun hw => pass_step hH.out (Or.inr (Or.inr (Or.inr ⟨c3, hlt1, hw⟩)))
            clear c3 c4 hk0 hk1 hk2 hH
            generalize z k = c at h2 g3
            go_wp2_with fail
            refine (white30 (z (k + 1)) _).mono ?_
            rintro e w3 ⟨rfl, rfl⟩
            cases hw : isW (z (k + 1)) with
            | false =>
              have hF : Hid (First z n i k) := hno.out hw
              clear hw hno hyes
              go_wp2_with fail
              go_ret
              exact ⟨RetFirst.mk k hF.out, rfl⟩
            | true =>
              have HH : Hid (∀ p, i ≤ p → p < k + 1 → Pass z n p) := hyes.out hw
              clear hw hno hyes
              go_wp2_with fail
              go_round
              case rel => exact ⟨k + 1, by omega, by omega, by go_num, HH⟩
              case measure => simp [intOf]; omega
        · have g3 : (z k == 45) = false := by simp [c3]
          by_cases c1 : z k = 123
          · have g1 : (z k != 123) = false := by simp [c1]
            have HH : Hid (∀ p, i ≤ p → p < k + 1 → Pass z n p) := pass_step hH.out (Or.inr (Or.inl c1))
            clear c3 c1 hH
            generalize z k = c at h2 g3 g1
            go_wp2_with fail
            go_round
            case rel => exact ⟨k + 1, by omega, by omega, by go_num, HH⟩
            case measure => simp [intOf]; omega
          · have g1 : (z k != 123) = true := by simp [c1]
            by_cases c2 : z k = 91
            · have g2 : (z k != 91) = false := by simp [c2]
              have HH : Hid (∀ p, i ≤ p → p < k + 1 → Pass z n p) := pass_step hH.out (Or.inr (Or.inr (Or.inl c2)))
              clear c3 c1 c2 hH
              generalize z k = c at h2 g3 g1 g2
              go_wp2_with fail
              go_round
              case rel => exact ⟨k + 1, by omega, by omega, by go_num, HH⟩
              case measure => simp [intOf]; omega
            · have g2 : (z k != 91) = true := by simp [c2]
              have hno : Hid (isW (z k) = false → First z n i k) := fun hw => First.found hin HW.out hik (by omega) hH.out (fun _ => not_pass hw c1 c2 (fun h => absurd h c3))
              have hyes : Hid (isW (z k) = true → ∀ p, i ≤ p → p < k + 1 → Pass z n p) := fun hw => pass_step hH.out (Or.inl hw)
              clear c3 c1 c2 hH
              generalize z k = c at h2 g3 g1 g2 hno hyes
              go_wp2_with fail
              refine (white30 c _).mono ?_
              rintro e w3 ⟨rfl, rfl⟩
              cases hw : isW c with
              | false =>
                have hF : Hid (First z n i k) := hno.out hw
                clear hw hno hyes
                go_wp2_with fail
                go_ret
                exact ⟨RetFirst.mk k hF.out, rfl⟩
              | true =>
                have HH : Hid (∀ p, i ≤ p → p < k + 1 → Pass z n p) := hyes.out hw
                clear hw hno hyes
                go_wp2_with fail
                go_round
                case rel => exact ⟨k + 1, by omega, by omega, by go_num, HH⟩
                case measure => simp [intOf]; omega
      · obtain rfl : n = k := by omega
        go_wp2_with fail
        go_ret
        exact ⟨RetFirst.mk n (First.found hin HW.out (by omega) (Nat.le_refl _) hH.out (fun h => by omega)), rfl⟩

set_option maxHeartbeats 800000 in
theorem law6 (ao : Option Addr) (n cap : Nat) (z : Nat → Int) (i : Int) (w : World) (hin : RowIn .u8 w ao n cap z) (hi : i ≤ 9223372036854775807) :
    Calls Try.prog 6 #[.slice ao n cap, .int .i64 i] w fun e w' => TrueBelow w e w' := by
  have hn63 := hin.n_le
  unfold maxLen at hn63
  go_enter Try.func6, Try.ntmps6
  go_wp2_with fail
  refine (bytes17 ao n cap i _ hin.n_le).mono ?_
  rintro e w' ⟨⟨t, rfl⟩, rfl⟩
  cases t
  · go_wp2_with fail
    go_ret
    exact ⟨rfl, Below.refl _ _⟩
  by_cases hn1 : (1048576 : Int) < (n : Int)
  · go_wp2_with fail
    go_ret
    exact ⟨rfl, Below.refl _ _⟩
  by_cases hi0 : i < 0
  · go_wp2_with fail
    go_ret
    exact ⟨rfl, Below.refl _ _⟩
  obtain ⟨i0, rfl⟩ := Int.eq_ofNat_of_zero_le (show 0 ≤ i by omega)
  go_wp2_with fail
  refine (clone11_any ao n cap z _ (by omega) hin.nil hin.row).mono ?_
  rintro e w1 ⟨ao', rfl, hR, hb⟩
  clear hin
  go_wp2_with fail
  refine (fs18 ao' n n i0 z _ (by omega) hR).mono ?_
  rintro e w2 ⟨⟨j, o, rfl, hF⟩, rfl⟩
  go_wp2_with fail
  refine (first19 ao' n n i0 z _ (by omega) hR).mono ?_
  rintro e w3 ⟨⟨j', rfl, hF'⟩, rfl⟩
  obtain rfl := hF.first.unique hF'
  have hge := hF.first.ge
  have hb2 : j ≤ n ∨ j = i0 := by
    by_cases h : n ≤ i0
    · exact Or.inr (hF.first.past h)
    · exact Or.inl (hF.first.le (by omega))
  have hO : Hid (o = true ↔ Opens z i0 j) := hF.opens
  clear hF hF'
  go_wp2_with fail
  go_loop [8, 9] (fun s i' => ∃ (k : Nat) (t : Bool), i0 ≤ k ∧ k ≤ j ∧ i' = .int .i64 k ∧ s = .bool t ∧ Hid (t = true ↔ Opens z i0 k)) (fun _ i' => j - (intOf i').toNat)
  case atStart => exact ⟨i0, false, Nat.le_refl _, hge, rfl, rfl, ⟨fun h => by (cases h), fun ⟨p, h1, h2, _⟩ => by omega⟩⟩
  case round =>
    obtain ⟨k, t, hk1, hk2, rfl, rfl, hT⟩ := hrel
    by_cases hlt : k < j
    · obtain ⟨b, off, rfl, h2⟩ := hR k (by omega)
      by_cases c1 : z k = 123
      · have g1 : (z k == 123) = true := by simp [c1]
        have HT : Hid (true = true ↔ Opens z i0 (k + 1)) := ⟨fun _ => ⟨k, hk1, by omega, Or.inl c1⟩, fun _ => rfl⟩
        clear c1 hT
        generalize z k = c at h2 g1
        go_wp2
        go_round
        case rel => exact ⟨k + 1, true, by omega, by omega, by go_num, rfl, HT⟩
        case measure => simp [intOf]; omega
      · have g1 : (z k == 123) = false := by simp [c1]
        by_cases c2 : z k = 91
        · have g2 : (z k == 91) = true := by simp [c2]
          have HT : Hid (true = true ↔ Opens z i0 (k + 1)) := ⟨fun _ => ⟨k, hk1, by omega, Or.inr c2⟩, fun _ => rfl⟩
          clear c1 c2 hT
          generalize z k = c at h2 g1 g2
          go_wp2
          go_round
          case rel => exact ⟨k + 1, true, by omega, by omega, by go_num, rfl, HT⟩
          case measure => simp [intOf]; omega
        · have g2 : (z k == 91) = false := by simp [c2]
          have HT : Hid (t = true ↔ Opens z i0 (k + 1)) := hT.out.trans ⟨fun ⟨p, a, b, c⟩ => ⟨p, a, by omega, c⟩, fun ⟨p, a, b, c⟩ => by
            by_cases e : p = k
            · subst e; rcases c with c | c
              · exact absurd c c1
              · exact absurd c c2
            · exact ⟨p, a, by omega, c⟩⟩
          clear c1 c2 hT
          generalize z k = c at h2 g1 g2
          go_wp2
          go_round
          case rel => exact ⟨k + 1, t, by omega, by omega, by go_num, rfl, HT⟩
          case measure => simp [intOf]; omega
    · obtain rfl : j = k := by omega
      have ht : o = t := by rw [Bool.eq_iff_iff]; exact hO.out.trans hT.out.symm
      subst ht
      go_wp2
      go_ret
      exact ⟨ret_bool (by simp), hb⟩

end Go.Proofs.Qxb6602024a
