/-
  The walks of skipOver, skipSpaces, fieldStart, and what they answer.
-/
import Derived.Test.Qxb6602024aBase
namespace Go.Proofs.Qxb6602024a
open Go.RowKit Go.Deep

/-- Where the run of white space that starts at i ends. -/
structure Skipped (z : Nat → Int) (n i j : Nat) : Prop where
  ge : i ≤ j
  le : j ≤ n
  run : ∀ p, i ≤ p → p < j → isW (z p) = true
  stop : j < n → isW (z j) = false

def RetSkip (z : Nat → Int) (n i : Nat) (e : Ending) : Prop := ∃ j : Nat, e = .returned (.int .i64 (j : Int)) ∧ Skipped z n i j
theorem RetSkip.mk {z : Nat → Int} {n i : Nat} (j : Nat) (h : Skipped z n i j) : RetSkip z n i (.returned (.int .i64 (j : Int))) := ⟨j, rfl, h⟩

set_option maxHeartbeats 400000 in
theorem skip47 (ao : Option Addr) (n cap i : Nat) (z : Nat → Int) (w : World) (hn : n ≤ 1048576) (hi : i ≤ n) (hc : RowAt .u8 w ao n z) :
    Calls Try.prog 47 #[.slice ao n cap, .int .i64 (i : Int), .func (Fn.func 35) #[] #[]] w fun e w' => RetSkip z n i e ∧ w' = w := by
  go_enter Try.func47, Try.ntmps47
  go_wp2_with fail
  go_loop [1] (fun i' => ∃ k : Nat, i ≤ k ∧ k ≤ n ∧ i' = .int .i64 k ∧ Hid (∀ p, i ≤ p → p < k → isW (z p) = true)) (fun i' => n - (intOf i').toNat)
  case atStart => exact ⟨i, Nat.le_refl _, hi, rfl, fun p h1 h2 => by omega⟩
  case round =>
    obtain ⟨k, hik, hk, rfl, hH⟩ := hrel
    by_cases hlt : k < n
    · obtain ⟨b, off, rfl, h2⟩ := hc k hlt
      go_wp2_with fail
      refine (space35 (z k) _).mono ?_
      rintro e w' ⟨rfl, rfl⟩
      cases hw : isW (z k) with
      | true =>
        have HH : Hid (∀ p, i ≤ p → p < k + 1 → isW (z p) = true) := fun p h1 h2 => by
          by_cases e : p = k
          · subst e; exact hw
          · exact hH.out p h1 (by omega)
        clear hw hH
        go_wp2_with fail
        go_round
        case rel => exact ⟨k + 1, by omega, by omega, by go_num, HH⟩
        case measure => simp [intOf]; omega
      | false =>
        have HW : Hid (isW (z k) = false) := hw
        clear hw
        go_wp2_with fail
        go_ret
        exact ⟨RetSkip.mk k ⟨hik, by omega, hH.out, fun _ => HW.out⟩, rfl⟩
    · have hlt' : decide ((k : Int) < (n : Int)) = false := by simp; omega
      go_wp2_with fail
      go_ret
      exact ⟨RetSkip.mk k ⟨hik, by omega, hH.out, fun h => absurd h hlt⟩, rfl⟩

set_option maxHeartbeats 400000 in
theorem skip36 (ao : Option Addr) (n cap i : Nat) (z : Nat → Int) (w : World) (hn : n ≤ 1048576) (hi : i ≤ n) (hc : RowAt .u8 w ao n z) :
    Calls Try.prog 36 #[.slice ao n cap, .int .i64 (i : Int)] w fun e w' => RetSkip z n i e ∧ w' = w := by
  go_enter Try.func36, Try.ntmps36
  go_wp2_with fail
  refine (skip47 ao n cap i z _ hn hi hc).mono ?_
  rintro e w' ⟨⟨j, rfl, hs⟩, rfl⟩
  go_wp2_with fail
  go_ret
  exact ⟨RetSkip.mk j hs, rfl⟩

/-- A place that fieldStart passes by. -/
def Pass (z : Nat → Int) (n p : Nat) : Prop := isW (z p) = true ∨ z p = 123 ∨ z p = 91 ∨ (z p = 45 ∧ p + 1 < n ∧ isW (z (p + 1)) = true)

/-- An opening mark lies between i and j. -/
def Opens (z : Nat → Int) (i j : Nat) : Prop := ∃ p, i ≤ p ∧ p < j ∧ (z p = 123 ∨ z p = 91)

/-- j is the first place from i that is not passed by, or the end. -/
structure First (z : Nat → Int) (n i j : Nat) : Prop where
  past : n ≤ i → j = i
  white : i < n → isW (z i) = true → j = i
  ge : i ≤ j
  le : i < n → j ≤ n
  run : i < n → isW (z i) = false → ∀ p, i ≤ p → p < j → Pass z n p
  stop : isW (z i) = false → j < n → ¬ Pass z n j

theorem First.unique {z : Nat → Int} {n i j j' : Nat} (h : First z n i j) (h' : First z n i j') : j = j' := by
  by_cases hi : n ≤ i
  · rw [h.past hi, h'.past hi]
  · cases hw : isW (z i) with
    | true => rw [h.white (by omega) hw, h'.white (by omega) hw]
    | false =>
      have := h.le (by omega)
      have := h'.le (by omega)
      rcases Nat.lt_trichotomy j j' with hl | he | hg
      · exact absurd (h'.run (by omega) hw j h.ge hl) (h.stop hw (by omega))
      · exact he
      · exact absurd (h.run (by omega) hw j' h'.ge hg) (h'.stop hw (by omega))

structure Fs (z : Nat → Int) (n i j : Nat) (o : Bool) : Prop where
  first : First z n i j
  opens : o = true ↔ Opens z i j

/-- Asked again at its own answer it answers the same, and no opening mark. -/
theorem Fs.again {z : Nat → Int} {n i j j' : Nat} {o o' : Bool} (h : Fs z n i j o) (h' : Fs z n j j' o') : j' = j ∧ o' = false := by
  have e : j' = j := by
    by_cases hj : n ≤ j
    · exact h'.first.past hj
    · cases hw : isW (z j) with
      | true => exact h'.first.white (by omega) hw
      | false =>
        have hi : i < n := by have := h.first.ge; omega
        have hwi : isW (z i) = false := by
          cases hwi : isW (z i) with
          | true => have := h.first.white hi hwi; rw [this] at hw; rw [hw] at hwi; cases hwi
          | false => rfl
        have hs := h.first.stop hwi (by omega)
        have hg := h'.first.ge
        by_cases hjj : j < j'
        · exact absurd (h'.first.run (by omega) hw j (Nat.le_refl _) hjj) hs
        · omega
  subst e
  refine ⟨rfl, ?_⟩
  cases ho : o' with
  | false => rfl
  | true =>
    obtain ⟨p, h1, h2, _⟩ := h'.opens.1 ho
    omega

/-- fieldStart in full swing. -/
structure FsInv (z : Nat → Int) (n i k : Nat) (o : Bool) : Prop where
  ge : i ≤ k
  le : i < n → k ≤ n
  same : n ≤ i → k = i
  run : ∀ p, i ≤ p → p < k → Pass z n p
  opens : o = true ↔ Opens z i k
  head : i < k → isW (z i) = false
  here : i < k → k < n → isW (z k) = false

theorem FsInv.start (z : Nat → Int) (n i : Nat) : FsInv z n i i false :=
  ⟨Nat.le_refl _, fun h => by omega, fun _ => rfl, fun p h1 h2 => by omega, ⟨fun h => by (cases h), fun ⟨p, h1, h2, _⟩ => by omega⟩, fun h => by omega, fun h => by omega⟩

theorem FsInv.ends {z : Nat → Int} {n i k : Nat} {o : Bool} (h : FsInv z n i k o) (hk : ¬ k < n) : Fs z n i k o :=
  ⟨⟨h.same, fun hi _ => by have := h.le hi; exact absurd (h.head (by omega)) (by simp_all), h.ge, h.le, fun _ _ => h.run, fun _ hlt => absurd hlt hk⟩, h.opens⟩

theorem FsInv.stops {z : Nat → Int} {n i k : Nat} {o : Bool} (h : FsInv z n i k o) (hk : k < n) (h1 : z k ≠ 123) (h2 : z k ≠ 91) (h3 : z k = 45 → k + 1 < n → isW (z (k + 1)) = false) : Fs z n i k o :=
  ⟨⟨h.same, fun hi hw => by
      by_cases e : i < k
      · have := h.head e; rw [hw] at this; cases this
      · have := h.ge; omega, h.ge, h.le, fun _ _ => h.run, fun hw _ hp => by
      rcases hp with hp | hp | hp | ⟨hp, hp2, hp3⟩
      · by_cases e : i < k
        · have := h.here e hk; rw [hp] at this; cases this
        · have e2 : i = k := by have := h.ge; omega
          subst e2; rw [hw] at hp; cases hp
      · exact h1 hp
      · exact h2 hp
      · have := h3 hp hp2; rw [hp3] at this; cases this⟩, h.opens⟩

theorem FsInv.step {z : Nat → Int} {n i k j : Nat} {o o' : Bool} (h : FsInv z n i k o) (hk : k < n) (hS : Skipped z n (k + 1) j) (hp : Pass z n k) (hnw : isW (z k) = false)
    (ho : o' = true ↔ (o = true ∨ z k = 123 ∨ z k = 91)) : FsInv z n i j o' := by
  have h1 := hS.ge
  have h2 := hS.le
  have hge := h.ge
  have hnb : ∀ p, isW (z p) = true → ¬ (z p = 123 ∨ z p = 91) := fun p hw hb => by
    rcases hb with hb | hb <;> rw [hb] at hw <;> simp [isW] at hw
  refine ⟨by omega, fun _ => h2, fun hn => by omega, fun p a b => ?_, ?_, fun _ => ?_, fun _ hj => hS.stop hj⟩
  · by_cases e : p < k
    · exact h.run p a e
    · by_cases e2 : p = k
      · subst e2; exact hp
      · exact Or.inl (hS.run p (by omega) b)
  · constructor
    · intro hx
      rcases ho.1 hx with hx | hx
      · obtain ⟨p, a, b, c⟩ := h.opens.1 hx
        exact ⟨p, a, by omega, c⟩
      · exact ⟨k, hge, by omega, hx⟩
    · rintro ⟨p, a, b, c⟩
      apply ho.2
      by_cases e : p < k
      · exact Or.inl (h.opens.2 ⟨p, a, e, c⟩)
      · by_cases e2 : p = k
        · subst e2; exact Or.inr c
        · exact absurd c (hnb p (hS.run p (by omega) b))
  · by_cases e : i < k
    · exact h.head e
    · have e2 : i = k := by omega
      subst e2; exact hnw

def RetFs (z : Nat → Int) (n i : Nat) (e : Ending) : Prop := ∃ (j : Nat) (o : Bool), e = .returned (.tuple #[.int .i64 (j : Int), .bool o]) ∧ Fs z n i j o
theorem RetFs.mk {z : Nat → Int} {n i : Nat} (j : Nat) (o : Bool) (h : Fs z n i j o) : RetFs z n i (.returned (.tuple #[.int .i64 (j : Int), .bool o])) := ⟨j, o, rfl, h⟩

end Go.Proofs.Qxb6602024a
