/-
  Plain: tag handles, word characters, the automaton. Nothing of Go.
-/
namespace Go.Proofs.Qxb6602647a

/-- '-', a digit, a letter. -/
def isWd (c : Int) : Bool := c == 45 || (decide (48 ≤ c) && decide (c ≤ 57)) || (decide (97 ≤ c) && decide (c ≤ 122)) || (decide (65 ≤ c) && decide (c ≤ 90))

theorem isWd_bang : isWd 33 = false := by decide

/-- The automaton's states. -/
def step (s : Nat) (c : Int) : Nat :=
  if s = 0 then (if c = 33 then 1 else 4)
  else if s = 1 ∨ s = 2 then (if c = 33 then 3 else if isWd c = true then 2 else 4)
  else 4

def st (f : Nat → Int) : Nat → Nat
  | 0 => 0
  | k + 1 => step (st f k) (f k)

/-- The bytes from 1 to below k are word characters behind an opening mark. -/
def Inside (f : Nat → Int) (k : Nat) : Prop := f 0 = 33 ∧ ∀ p, 1 ≤ p → p < k → isWd (f p) = true

theorem st_spec (f : Nat → Int) : ∀ k, (st f (k + 1) = 1 ↔ k = 0 ∧ f 0 = 33) ∧ (st f (k + 1) = 2 ↔ 1 ≤ k ∧ Inside f (k + 1)) ∧ (st f (k + 1) = 3 ↔ 1 ≤ k ∧ f k = 33 ∧ Inside f k) ∧ st f (k + 1) ≠ 0 := by
  intro k
  induction k with
  | zero =>
    simp only [st, step, if_true]
    by_cases h : f 0 = 33
    · simp [h]
    · simp [h]
  | succ k ih =>
    obtain ⟨h1, h2, h3, h0⟩ := ih
    have e : st f (k + 1 + 1) = step (st f (k + 1)) (f (k + 1)) := rfl
    have hin : ∀ m, Inside f (m + 1 + 1) ↔ Inside f (m + 1) ∧ isWd (f (m + 1)) = true := fun m => by
      constructor
      · intro ⟨a, b⟩
        exact ⟨⟨a, fun p h h' => b p h (by omega)⟩, b (m + 1) (by omega) (by omega)⟩
      · intro ⟨⟨a, b⟩, c⟩
        refine ⟨a, fun p h h' => ?_⟩
        by_cases e : p = m + 1
        · subst e; exact c
        · exact b p h (by omega)
    have h12 : (st f (k + 1) = 1 ∨ st f (k + 1) = 2) ↔ Inside f (k + 1) := by
      constructor
      · rintro (h | h)
        · obtain ⟨rfl, hf⟩ := h1.1 h
          exact ⟨hf, fun p a b => by omega⟩
        · exact (h2.1 h).2
      · intro h
        by_cases hk : k = 0
        · left; exact h1.2 ⟨hk, h.1⟩
        · right; exact h2.2 ⟨by omega, h⟩
    rw [e]
    unfold step
    rw [if_neg h0]
    by_cases hh : st f (k + 1) = 1 ∨ st f (k + 1) = 2
    · rw [if_pos hh]
      have hI := h12.1 hh
      by_cases hc : f (k + 1) = 33
      · rw [if_pos hc]
        refine ⟨by simp, ⟨fun h => by omega, fun h => ?_⟩, ⟨fun _ => ⟨by omega, hc, hI⟩, fun _ => rfl⟩, by simp⟩
        have := ((hin k).1 h.2).2
        rw [hc, isWd_bang] at this
        cases this
      · rw [if_neg hc]
        by_cases hw : isWd (f (k + 1)) = true
        · rw [if_pos hw]
          exact ⟨by simp, ⟨fun _ => ⟨by omega, (hin k).2 ⟨hI, hw⟩⟩, fun _ => rfl⟩, ⟨fun h => by omega, fun h => absurd h.2.1 hc⟩, by simp⟩
        · rw [if_neg hw]
          exact ⟨by simp, ⟨fun h => by omega, fun h => absurd ((hin k).1 h.2).2 hw⟩, ⟨fun h => by omega, fun h => absurd h.2.1 hc⟩, by simp⟩
    · rw [if_neg hh]
      have hI : ¬ Inside f (k + 1) := fun h => hh (h12.2 h)
      exact ⟨by simp, ⟨fun h => by omega, fun h => absurd ((hin k).1 h.2).1 hI⟩, ⟨fun h => by omega, fun h => absurd h.2.2 hI⟩, by simp⟩

/-- What isTagHandle accepts. -/
def Hnd (f : Nat → Int) (n : Nat) : Prop := (n = 1 ∧ f 0 = 33) ∨ (2 ≤ n ∧ f 0 = 33 ∧ f (n - 1) = 33 ∧ ∀ p, 1 ≤ p → p < n - 1 → isWd (f p) = true)

theorem hnd_iff (f : Nat → Int) (n : Nat) : (st f n = 1 ∨ st f n = 3) ↔ Hnd f n := by
  cases n with
  | zero => simp [st, Hnd]
  | succ k =>
    obtain ⟨h1, _, h3, _⟩ := st_spec f k
    rw [h1, h3]
    unfold Hnd Inside
    constructor
    · rintro (⟨a, b⟩ | ⟨a, b, c, d⟩)
      · left; exact ⟨by omega, b⟩
      · right; exact ⟨by omega, c, b, d⟩
    · rintro (⟨a, b⟩ | ⟨a, b, c, d⟩)
      · left; exact ⟨by omega, b⟩
      · right; exact ⟨by omega, c, b, d⟩

theorem step_lt (s : Nat) (c : Int) : step s c ≤ 4 := by
  unfold step
  split
  · split <;> omega
  · split
    · split
      · omega
      · split <;> omega
    · omega

theorem st_le (f : Nat → Int) : ∀ k, st f k ≤ 4
  | 0 => Nat.zero_le _
  | _ + 1 => step_lt _ _

/-- The alphabet, byte by byte. -/
def alpha : List Nat := [45, 48, 49, 50, 51, 52, 53, 54, 55, 56, 57, 65, 66, 67, 68, 69, 70, 71, 72, 73, 74, 75, 76, 77, 78, 79, 80, 81, 82, 83, 84, 85, 86, 87, 88, 89, 90, 97, 98, 99, 100, 101, 102, 103, 104, 105, 106, 107, 108, 109, 110, 111, 112, 113, 114, 115, 116, 117, 118, 119, 120, 121, 122]

theorem alpha_get : ∀ k, (h : k < 63) → ((ByteArray.mk #[45, 48, 49, 50, 51, 52, 53, 54, 55, 56, 57, 65, 66, 67, 68, 69, 70, 71, 72, 73, 74, 75, 76, 77, 78, 79, 80, 81, 82, 83, 84, 85, 86, 87, 88, 89, 90, 97, 98, 99, 100, 101, 102, 103, 104, 105, 106, 107, 108, 109, 110, 111, 112, 113, 114, 115, 116, 117, 118, 119, 120, 121, 122])[k]'h).toNat = alpha.getD k 0 := by decide +kernel

theorem alpha_all : ∀ c, c < 256 → isWd (c : Nat) = (List.range 63).any (fun k => alpha.getD k 0 == c) := by decide +kernel

end Go.Proofs.Qxb6602647a
