/-
  Plain mathematics of the rendering: the model's scan over doubled coordinates, the merged groups of sorted spans, the counting of coverage. Nothing of Go.
-/
namespace Go.Proofs.Qxb6602024a.Rd

/-- The text that stands for a redacted span. -/
def red : List UInt8 := [91, 82, 69, 68, 65, 67, 84, 69, 68, 93]

/-- The bytes from a to below b. -/
def slc (zb : Nat → UInt8) (a b : Nat) : List UInt8 := (List.range (b - a)).map (fun i => zb (a + i))

theorem slc_len (zb : Nat → UInt8) (a b : Nat) : (slc zb a b).length = b - a := by simp [slc]
theorem slc_nil (zb : Nat → UInt8) (a : Nat) : slc zb a a = [] := by simp [slc]
theorem slc_snoc (zb : Nat → UInt8) {a b : Nat} (h : a ≤ b) : slc zb a (b + 1) = slc zb a b ++ [zb b] := by
  unfold slc
  rw [show b + 1 - a = (b - a) + 1 by omega, List.range_succ, List.map_append]
  simp only [List.map_cons, List.map_nil]
  rw [show a + (b - a) = b by omega]

/-- One point of the scan. -/
def mstep (cov : Nat → Bool) (zb : Nat → UInt8) (p : Nat) (s : List UInt8 × List Nat) : List UInt8 × List Nat :=
  let s1 := if cov p = true ∧ (p = 0 ∨ cov (p - 1) = false) then (s.1 ++ red, s.2 ++ [s.1.length]) else s
  if p % 2 = 1 ∧ cov p = false then (s1.1 ++ [zb (p / 2)], s1.2) else s1

/-- The scan over the first p points. -/
def M (cov : Nat → Bool) (zb : Nat → UInt8) : Nat → List UInt8 × List Nat
  | 0 => ([], [])
  | p + 1 => mstep cov zb p (M cov zb p)

theorem mstep_open {cov : Nat → Bool} {zb : Nat → UInt8} {p : Nat} (s : List UInt8 × List Nat) (h : cov p = true) (h' : p = 0 ∨ cov (p - 1) = false) : mstep cov zb p s = (s.1 ++ red, s.2 ++ [s.1.length]) := by
  simp [mstep, h, h']
theorem mstep_in {cov : Nat → Bool} {zb : Nat → UInt8} {p : Nat} (s : List UInt8 × List Nat) (h : cov p = true) (h0 : p ≠ 0) (h' : cov (p - 1) = true) : mstep cov zb p s = s := by
  simp [mstep, h, h', h0]
theorem mstep_byte {cov : Nat → Bool} {zb : Nat → UInt8} {p : Nat} (s : List UInt8 × List Nat) (h : cov p = false) (hp : p % 2 = 1) : mstep cov zb p s = (s.1 ++ [zb (p / 2)], s.2) := by
  simp [mstep, h, hp]
theorem mstep_gap {cov : Nat → Bool} {zb : Nat → UInt8} {p : Nat} (s : List UInt8 × List Nat) (h : cov p = false) (hp : p % 2 ≠ 1) : mstep cov zb p s = s := by
  simp [mstep, h, hp]

theorem M_len (cov : Nat → Bool) (zb : Nat → UInt8) : ∀ p, (M cov zb p).1.length ≤ 11 * p ∧ (M cov zb p).2.length ≤ p
  | 0 => by simp [M]
  | p + 1 => by
    have ih := M_len cov zb p
    have e : M cov zb (p + 1) = mstep cov zb p (M cov zb p) := rfl
    rw [e]
    cases hc : cov p with
    | true =>
      by_cases h : p = 0 ∨ cov (p - 1) = false
      · rw [mstep_open _ hc h]; simp [red]; omega
      · rw [mstep_in _ hc (fun e => h (Or.inl e)) (by simpa using fun e => h (Or.inr e))]; omega
    | false =>
      by_cases h : p % 2 = 1
      · rw [mstep_byte _ hc h]; simp; omega
      · rw [mstep_gap _ hc h]; omega

/-- Where the scan stands behind the place 'at': behind the point 2 at; or at the very start. -/
def Stand (P at' : Nat) : Prop := P = 2 * at' + 1 ∨ (P = 0 ∧ at' = 0)

theorem M_gap {cov : Nat → Bool} {zb : Nat → UInt8} {P a : Nat} (hS : Stand P a) : ∀ Q, P ≤ Q → (∀ p, P ≤ p → p < Q → cov p = false) → M cov zb Q = ((M cov zb P).1 ++ slc zb a (Q / 2), (M cov zb P).2) := by
  intro Q hPQ
  obtain ⟨d, rfl⟩ : ∃ d, Q = P + d := ⟨Q - P, by omega⟩
  clear hPQ
  induction d with
  | zero =>
    intro _
    have e : (P + 0) / 2 = a := by rcases hS with h | ⟨h, h'⟩ <;> omega
    rw [e, slc_nil]
    simp
  | succ d ih =>
    intro hg
    have ih' := ih (fun p h1 h2 => hg p h1 (by omega))
    have hc := hg (P + d) (by omega) (by omega)
    have ha : a ≤ (P + d) / 2 := by rcases hS with h | ⟨h, h'⟩ <;> omega
    have e : M cov zb (P + (d + 1)) = mstep cov zb (P + d) (M cov zb (P + d)) := rfl
    rw [e, ih']
    by_cases h : (P + d) % 2 = 1
    · rw [mstep_byte _ hc h, show (P + (d + 1)) / 2 = (P + d) / 2 + 1 by omega, slc_snoc zb ha]
      simp
    · rw [mstep_gap _ hc h, show (P + (d + 1)) / 2 = (P + d) / 2 by omega]

theorem M_inside {cov : Nat → Bool} {zb : Nat → UInt8} {P : Nat} (h0 : 0 < P) : ∀ d, (∀ p, P - 1 ≤ p → p < P + d → cov p = true) → M cov zb (P + d) = M cov zb P := by
  intro d
  induction d with
  | zero => intro _; rfl
  | succ d ih =>
    intro hg
    have e : M cov zb (P + (d + 1)) = mstep cov zb (P + d) (M cov zb (P + d)) := rfl
    rw [e, ih (fun p h1 h2 => hg p h1 (by omega))]
    exact mstep_in _ (hg (P + d) (by omega) (by omega)) (by omega) (hg (P + d - 1) (by omega) (by omega))

/-- ONE GROUP: a gap, then the points from 2 s to 2 e covered. -/
theorem M_group {cov : Nat → Bool} {zb : Nat → UInt8} {P a s e : Nat} (hS : Stand P a) (hP : P ≤ 2 * s) (hse : s ≤ e) (hgap : ∀ p, P ≤ p → p < 2 * s → cov p = false) (hin : ∀ p, 2 * s ≤ p → p ≤ 2 * e → cov p = true) :
    M cov zb (2 * e + 1) = ((M cov zb P).1 ++ slc zb a s ++ red, (M cov zb P).2 ++ [(M cov zb P).1.length + (s - a)]) := by
  have h1 := M_gap (zb := zb) hS (2 * s) hP hgap
  rw [show 2 * s / 2 = s by omega] at h1
  have h2 : M cov zb (2 * s + 1) = mstep cov zb (2 * s) (M cov zb (2 * s)) := rfl
  rw [h1, mstep_open _ (hin (2 * s) (Nat.le_refl _) (by omega)) (by
    by_cases h : 2 * s = 0
    · exact Or.inl h
    · right
      refine hgap (2 * s - 1) ?_ (by omega)
      rcases hS with h' | ⟨h', _⟩ <;> omega)] at h2
  have h3 := M_inside (zb := zb) (cov := cov) (P := 2 * s + 1) (by omega) (2 * e - 2 * s) (fun p a b => hin p (by omega) (by omega))
  rw [show 2 * s + 1 + (2 * e - 2 * s) = 2 * e + 1 by omega, h2] at h3
  rw [h3]
  simp [slc_len]

/-- The coverage by m spans. -/
def Cov (m : Nat) (f : Nat → Nat × Nat) (p : Nat) : Prop := ∃ k, k < m ∧ 2 * (f k).1 ≤ p ∧ p ≤ 2 * (f k).2

/-- Sorted spans inside n bytes, and their coverage. -/
structure Spans (n m : Nat) (f : Nat → Nat × Nat) (cov : Nat → Bool) : Prop where
  cov_iff : ∀ p, cov p = true ↔ Cov m f p
  fit : ∀ k, k < m → (f k).1 ≤ (f k).2 ∧ (f k).2 ≤ n
  sorted : ∀ i j, i < j → j < m → (f i).1 ≤ (f j).1

theorem Spans.bare {n m : Nat} {f : Nat → Nat × Nat} {cov : Nat → Bool} (h : Spans n m f cov) {p : Nat} (hn : ¬ Cov m f p) : cov p = false := by
  cases hc : cov p with
  | false => rfl
  | true => exact absurd ((h.cov_iff p).1 hc) hn

/-- The outer loop of rendered: i spans are through, 'out' and 'marks' are the scan's at P. -/
structure Outer (n m : Nat) (f : Nat → Nat × Nat) (cov : Nat → Bool) (zb : Nat → UInt8) (i a : Nat) (out : List UInt8) (marks : List Nat) : Prop where
  ex : ∃ P, Stand P a ∧ M cov zb P = (out, marks) ∧ ((i = 0 ∧ P = 0) ∨ (P = 2 * a + 1 ∧ (∀ k, k < i → (f k).2 ≤ a) ∧ (i < m → a < (f i).1)))
  le : a ≤ n
  i_le : i ≤ m

theorem Outer.start (n m : Nat) (f : Nat → Nat × Nat) (cov : Nat → Bool) (zb : Nat → UInt8) : Outer n m f cov zb 0 0 [] [] :=
  ⟨⟨0, Or.inr ⟨rfl, rfl⟩, rfl, Or.inl ⟨rfl, rfl⟩⟩, Nat.zero_le _, Nat.zero_le _⟩

/-- The inner loop: the group begun at i0 reaches to e. -/
structure Inner (n m : Nat) (f : Nat → Nat × Nat) (cov : Nat → Bool) (i0 i e : Nat) : Prop where
  lt : i0 < i
  i_le : i ≤ m
  se : (f i0).1 ≤ e
  le : e ≤ n
  ends : ∀ k, i0 ≤ k → k < i → (f k).2 ≤ e
  full : ∀ p, 2 * (f i0).1 ≤ p → p ≤ 2 * e → cov p = true

theorem Inner.start {n m : Nat} {f : Nat → Nat × Nat} {cov : Nat → Bool} (h : Spans n m f cov) {i0 : Nat} (hi : i0 < m) : Inner n m f cov i0 (i0 + 1) (f i0).2 :=
  ⟨by omega, by omega, (h.fit i0 hi).1, (h.fit i0 hi).2, fun k h1 h2 => by (have e : k = i0 := by omega); rw [e]; exact Nat.le_refl _, fun p h1 h2 => (h.cov_iff p).2 ⟨i0, hi, h1, h2⟩⟩

theorem Inner.step {n m : Nat} {f : Nat → Nat × Nat} {cov : Nat → Bool} (h : Spans n m f cov) {i0 i e : Nat} (a : Inner n m f cov i0 i e) (hi : i < m) (hle : (f i).1 ≤ e) : Inner n m f cov i0 (i + 1) (max e (f i).2) := by
  have hf := h.fit i hi
  have hse := a.se
  have hel := a.le
  refine ⟨by have := a.lt; omega, by omega, by omega, by omega, fun k h1 h2 => ?_, fun p h1 h2 => ?_⟩
  · by_cases e' : k = i
    · subst e'; omega
    · have := a.ends k h1 (by omega); omega
  · by_cases hp : p ≤ 2 * e
    · exact a.full p h1 hp
    · exact (h.cov_iff p).2 ⟨i, hi, by omega, by omega⟩

theorem Outer.group {n m : Nat} {f : Nat → Nat × Nat} {cov : Nat → Bool} {zb : Nat → UInt8} (h : Spans n m f cov) {i0 i a e : Nat} {out : List UInt8} {marks : List Nat} (o : Outer n m f cov zb i0 a out marks) (g : Inner n m f cov i0 i e)
    (hx : i < m → e < (f i).1) :
    Outer n m f cov zb i e (out ++ slc zb a (f i0).1 ++ red) (marks ++ [out.length + ((f i0).1 - a)]) ∧ a ≤ (f i0).1 := by
  obtain ⟨P, hS, hM, hc⟩ := o.ex
  have hi0 : i0 < m := by have := g.lt; have := g.i_le; omega
  have hP : P ≤ 2 * (f i0).1 ∧ a ≤ (f i0).1 := by
    rcases hc with ⟨_, h0⟩ | ⟨hP, _, hlt⟩
    · rcases hS with h' | ⟨_, h'⟩ <;> omega
    · have := hlt hi0; omega
  have hgap : ∀ p, P ≤ p → p < 2 * (f i0).1 → cov p = false := fun p h1 h2 => h.bare (fun ⟨k, hk, c1, c2⟩ => by
    by_cases hki : k < i0
    · rcases hc with ⟨h0, _⟩ | ⟨hP, hends, _⟩
      · omega
      · have := hends k hki; omega
    · by_cases e' : k = i0
      · subst e'; omega
      · have := h.sorted i0 k (by omega) hk; omega)
  have hg := M_group (zb := zb) hS hP.1 g.se hgap g.full
  rw [hM] at hg
  refine ⟨⟨⟨2 * e + 1, Or.inl rfl, hg, Or.inr ⟨rfl, fun k hk => ?_, hx⟩⟩, g.le, g.i_le⟩, hP.2⟩
  by_cases hki : k < i0
  · rcases hc with ⟨h0, _⟩ | ⟨_, hends, hlt⟩
    · omega
    · have := hends k hki; have := hlt hi0; have := g.se; omega
  · exact g.ends k (by omega) hk

theorem Outer.finish {n m : Nat} {f : Nat → Nat × Nat} {cov : Nat → Bool} {zb : Nat → UInt8} (h : Spans n m f cov) {a : Nat} {out : List UInt8} {marks : List Nat} (o : Outer n m f cov zb m a out marks) :
    M cov zb (2 * n + 1) = (out ++ slc zb a n, marks) := by
  obtain ⟨P, hS, hM, hc⟩ := o.ex
  have hle := o.le
  have hg := M_gap (zb := zb) (cov := cov) hS (2 * n + 1) (by rcases hS with h' | ⟨h', _⟩ <;> omega) (fun p h1 h2 => h.bare (fun ⟨k, hk, c1, c2⟩ => by
    rcases hc with ⟨h0, _⟩ | ⟨hP, hends, _⟩
    · omega
    · have := hends k hk; omega))
  rw [hM, show (2 * n + 1) / 2 = n by omega] at hg
  exact hg

/-! ### The model's counting -/

def updI (f : Nat → Int) (v : Nat) (x : Int) : Nat → Int := fun i => if i = v then x else f i
theorem updI_same (f : Nat → Int) (v : Nat) (x : Int) : updI f v x v = x := by simp [updI]
theorem updI_other (f : Nat → Int) {v i : Nat} (x : Int) (h : i ≠ v) : updI f v x i = f i := by simp [updI, h]

def sm (g : Nat → Int) : Nat → Int
  | 0 => 0
  | p + 1 => sm g p + g p

theorem sm_upd (g : Nat → Int) (a : Nat) (x : Int) : ∀ P, sm (updI g a x) P = sm g P + (if a < P then x - g a else 0)
  | 0 => by simp [sm]
  | P + 1 => by
    simp only [sm]
    rw [sm_upd g a x P]
    by_cases h : a = P
    · subst h
      rw [updI_same, if_neg (by omega), if_pos (by omega)]
      omega
    · rw [updI_other g x (fun e => h e.symm)]
      by_cases h2 : a < P
      · rw [if_pos h2, if_pos (by omega)]; omega
      · rw [if_neg h2, if_neg (by omega)]; omega

/-- The differences behind k spans. -/
def dl (S T : Nat → Nat) : Nat → Nat → Int
  | 0 => fun _ => 0
  | k + 1 => updI (updI (dl S T k) (2 * S k) (dl S T k (2 * S k) + 1)) (2 * T k + 1) (dl S T k (2 * T k + 1) - 1)

def cn (S T : Nat → Nat) (p : Nat) : Nat → Nat
  | 0 => 0
  | k + 1 => cn S T p k + (if 2 * S k ≤ p ∧ p ≤ 2 * T k then 1 else 0)

theorem cn_le (S T : Nat → Nat) (p : Nat) : ∀ k, cn S T p k ≤ k
  | 0 => Nat.le_refl _
  | k + 1 => by have := cn_le S T p k; simp only [cn]; split <;> omega

theorem cn_pos (S T : Nat → Nat) (p : Nat) : ∀ k, 0 < cn S T p k ↔ ∃ k', k' < k ∧ 2 * S k' ≤ p ∧ p ≤ 2 * T k'
  | 0 => ⟨fun h => absurd h (Nat.lt_irrefl _), fun ⟨_, h, _⟩ => absurd h (Nat.not_lt_zero _)⟩
  | k + 1 => by
    have ih := cn_pos S T p k
    simp only [cn]
    by_cases h : 2 * S k ≤ p ∧ p ≤ 2 * T k
    · rw [if_pos h]
      exact ⟨fun _ => ⟨k, by omega, h⟩, fun _ => by omega⟩
    · rw [if_neg h, Nat.add_zero, ih]
      constructor
      · rintro ⟨k', a, b⟩; exact ⟨k', by omega, b⟩
      · rintro ⟨k', a, b⟩
        by_cases e : k' = k
        · subst e; exact absurd b h
        · exact ⟨k', by omega, b⟩

theorem dl_step (S T : Nat → Nat) (k : Nat) : dl S T (k + 1) = updI (updI (dl S T k) (2 * S k) (dl S T k (2 * S k) + 1)) (2 * T k + 1) (updI (dl S T k) (2 * S k) (dl S T k (2 * S k) + 1) (2 * T k + 1) - 1) := by
  rw [updI_other _ _ (show 2 * T k + 1 ≠ 2 * S k by omega)]
  rfl

theorem sm_dl (S T : Nat → Nat) (p : Nat) : ∀ k, (∀ k', k' < k → S k' ≤ T k') → sm (dl S T k) (p + 1) = (cn S T p k : Int)
  | 0, _ => by
    have h : ∀ P, sm (fun _ => (0 : Int)) P = 0 := fun P => by
      induction P with
      | zero => rfl
      | succ P ih => simp only [sm, ih]; rfl
    exact h (p + 1)
  | k + 1, hle => by
    have ih := sm_dl S T p k (fun k' hk => hle k' (by omega))
    have hk := hle k (by omega)
    rw [dl_step, sm_upd, sm_upd, ih]
    simp only [cn]
    rw [updI_other _ _ (show 2 * T k + 1 ≠ 2 * S k by omega)]
    by_cases h1 : 2 * S k ≤ p
    · rw [if_pos (show 2 * S k < p + 1 by omega)]
      by_cases h2 : p ≤ 2 * T k
      · rw [if_neg (by omega), if_pos ⟨h1, h2⟩]; omega
      · rw [if_pos (by omega), if_neg (by omega)]; omega
    · rw [if_neg (by omega), if_neg (by omega), if_neg (by omega)]; omega

theorem dl_bd (S T : Nat → Nat) : ∀ (k p : Nat), -(k : Int) ≤ dl S T k p ∧ dl S T k p ≤ k
  | 0, _ => by simp [dl]
  | k + 1, p => by
    have h1 := dl_bd S T k p
    have h2 := dl_bd S T k (2 * S k)
    have h3 := dl_bd S T k (2 * T k + 1)
    simp only [dl]
    by_cases e1 : p = 2 * T k + 1
    · rw [e1, updI_same]; omega
    · rw [updI_other _ _ e1]
      by_cases e2 : p = 2 * S k
      · rw [e2, updI_same]; omega
      · rw [updI_other _ _ e2]; omega

end Go.Proofs.Qxb6602024a.Rd
