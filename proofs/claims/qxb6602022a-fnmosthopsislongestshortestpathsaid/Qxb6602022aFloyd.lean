/-
  Plain mathematics: the algorithm of Floyd and Warshall on a flat matrix, in place, with a ceiling for 'not reached'. Nothing of Go.
-/
import Derived.Test.Qxb6602022aGraph
namespace Go.Proofs.Qxb6602022a.Gr

theorem wk_cat {E : Nat → Nat → Prop} {u x : Nat} {a : Nat} (h : Wk E u x a) : ∀ b v, Wk E x v b → Wk E u v (a + b) := by
  intro b
  induction b with
  | zero => intro v hw; have e : x = v := hw; subst e; exact h
  | succ b ih =>
    intro v hw
    obtain ⟨y, hy, he⟩ := hw
    exact ⟨y, ih y hy, he⟩

/-- A walk all of whose inner nodes lie below m. -/
def WkM (E : Nat → Nat → Prop) (m u : Nat) : Nat → Nat → Prop
  | v, 0 => u = v
  | v, d + 1 => ∃ x, WkM E m u x d ∧ (d = 0 ∨ x < m) ∧ E x v

theorem wkM_one {E : Nat → Nat → Prop} {m u v : Nat} (h : E u v) : WkM E m u v 1 := ⟨u, rfl, Or.inl rfl, h⟩

theorem wkM_split {E : Nat → Nat → Prop} {m u : Nat} : ∀ d v, WkM E (m + 1) u v d → WkM E m u v d ∨ ∃ d1 d2, d1 + d2 ≤ d ∧ WkM E m u m d1 ∧ WkM E m m v d2 := by
  intro d
  induction d with
  | zero => intro v h; exact Or.inl h
  | succ d ih =>
    intro v h
    obtain ⟨x, hx, hin, he⟩ := h
    rcases ih x hx with hA | ⟨d1, d2, hle, h1, h2⟩
    · rcases hin with h0 | hlt
      · exact Or.inl ⟨x, hA, Or.inl h0, he⟩
      · by_cases e : x = m
        · subst e
          exact Or.inr ⟨d, 1, Nat.le_refl _, hA, wkM_one he⟩
        · exact Or.inl ⟨x, hA, Or.inr (by omega), he⟩
    · by_cases e : x = m
      · subst e
        exact Or.inr ⟨d1, 1, by omega, h1, wkM_one he⟩
      · cases d2 with
        | zero => exact absurd (show m = x from h2).symm e
        | succ d2 =>
          have hlt : x < m := by
            rcases hin with h0 | hlt
            · omega
            · omega
          exact Or.inr ⟨d1, d2 + 1 + 1, by omega, h1, ⟨x, h2, Or.inr hlt, he⟩⟩

theorem wkM_of_wk {E : Nat → Nat → Prop} {n u : Nat} (hE : ∀ u v, E u v → v < n) : ∀ d v, Wk E u v d → WkM E n u v d := by
  intro d
  induction d with
  | zero => intro v h; exact h
  | succ d ih =>
    intro v h
    obtain ⟨x, hx, he⟩ := h
    refine ⟨x, ih x hx, ?_, he⟩
    cases d with
    | zero => exact Or.inl rfl
    | succ d => obtain ⟨y, _, hy⟩ := hx; exact Or.inr (hE _ _ hy)

theorem flat_inj {n a b i j : Nat} (hb : b < n) (hj : j < n) (h : a * n + b = i * n + j) : a = i ∧ b = j := by
  have h1 : (a * n + b) / n = a := by rw [Nat.mul_comm, Nat.mul_add_div (by omega), Nat.div_eq_of_lt hb, Nat.add_zero]
  have h2 : (i * n + j) / n = i := by rw [Nat.mul_comm, Nat.mul_add_div (by omega), Nat.div_eq_of_lt hj, Nat.add_zero]
  have e : a = i := by rw [← h1, ← h2, h]
  subst e
  exact ⟨rfl, by omega⟩

theorem flat_lt {n i j : Nat} (hi : i < n) (hj : j < n) : i * n + j < n * n := by
  have h : (i + 1) * n ≤ n * n := Nat.mul_le_mul_right n (by omega)
  rw [Nat.succ_mul] at h
  omega

theorem flat_of {n p : Nat} (hp : p < n * n) : p / n < n ∧ p % n < n ∧ p = p / n * n + p % n := by
  have hn : 0 < n := by
    rcases Nat.eq_zero_or_pos n with e | h
    · subst e; omega
    · exact h
  refine ⟨(Nat.div_lt_iff_lt_mul hn).2 hp, Nat.mod_lt _ hn, ?_⟩
  have := Nat.div_add_mod p n
  rw [Nat.mul_comm] at this
  exact this.symm

/-- THE MATRIX g IN STAGE m: rows below i, and of row i the columns below j, are through. -/
structure FwS (n : Nat) (E : Nat → Nat → Prop) (m i j : Nat) (g : Nat → Int) : Prop where
  top : ∀ a b, a < n → b < n → 0 ≤ g (a * n + b) ∧ g (a * n + b) ≤ n + 1
  sound : ∀ a b, a < n → b < n → g (a * n + b) < n + 1 → Wk E a b (g (a * n + b)).toNat
  low : ∀ a b d, a < n → b < n → WkM E m a b d → g (a * n + b) ≤ d
  done : ∀ a b d, a < n → b < n → (a < i ∨ (a = i ∧ b < j)) → WkM E (m + 1) a b d → g (a * n + b) ≤ d

theorem FwS.skipRow {n : Nat} {E : Nat → Nat → Prop} {m i : Nat} {g : Nat → Int} (h : FwS n E m i 0 g) (hm : m < n) (hinf : g (i * n + m) = n + 1) : FwS n E m (i + 1) 0 g :=
  ⟨h.top, h.sound, h.low, fun a b d ha hb hab hw => by
    by_cases e : a = i
    · subst e
      rcases wkM_split d b hw with hA | ⟨d1, d2, hle, h1, h2⟩
      · exact h.low a b d ha hb hA
      · have := h.low a m d1 ha hm h1
        have := (h.top a b ha hb).2
        omega
    · exact h.done a b d ha hb (by omega) hw⟩

theorem FwS.skipCol {n : Nat} {E : Nat → Nat → Prop} {m i j : Nat} {g : Nat → Int} (h : FwS n E m i j g) (hm : m < n) (hinf : g (m * n + j) = n + 1) : FwS n E m i (j + 1) g :=
  ⟨h.top, h.sound, h.low, fun a b d ha hb hab hw => by
    by_cases e : a = i ∧ b = j
    · obtain ⟨rfl, rfl⟩ := e
      rcases wkM_split d b hw with hA | ⟨d1, d2, hle, h1, h2⟩
      · exact h.low a b d ha hb hA
      · have := h.low m b d2 hm hb h2
        have := (h.top a b ha hb).2
        omega
    · exact h.done a b d ha hb (by omega) hw⟩

theorem FwS.keep {n : Nat} {E : Nat → Nat → Prop} {m i j : Nat} {g : Nat → Int} (h : FwS n E m i j g) (hm : m < n) (hle : g (i * n + j) ≤ g (i * n + m) + g (m * n + j)) : FwS n E m i (j + 1) g :=
  ⟨h.top, h.sound, h.low, fun a b d ha hb hab hw => by
    by_cases e : a = i ∧ b = j
    · obtain ⟨rfl, rfl⟩ := e
      rcases wkM_split d b hw with hA | ⟨d1, d2, hd, h1, h2⟩
      · exact h.low a b d ha hb hA
      · have := h.low m b d2 hm hb h2
        have := h.low a m d1 ha hm h1
        omega
    · exact h.done a b d ha hb (by omega) hw⟩

theorem FwS.put {n : Nat} {E : Nat → Nat → Prop} {m i j : Nat} {g : Nat → Int} (h : FwS n E m i j g) (hm : m < n) (hi : i < n) (hj : j < n) (h1 : g (i * n + m) < n + 1) (h2 : g (m * n + j) < n + 1)
    (hlt : g (i * n + m) + g (m * n + j) < g (i * n + j)) : FwS n E m i (j + 1) (updI g (i * n + j) (g (i * n + m) + g (m * n + j))) := by
  have t1 := h.top i m hi hm
  have t2 := h.top m j hm hj
  have t3 := h.top i j hi hj
  have hat : ∀ a b, a < n → b < n → (a = i ∧ b = j → updI g (i * n + j) (g (i * n + m) + g (m * n + j)) (a * n + b) = g (i * n + m) + g (m * n + j)) ∧ (¬ (a = i ∧ b = j) → updI g (i * n + j) (g (i * n + m) + g (m * n + j)) (a * n + b) = g (a * n + b)) := fun a b _ hb =>
    ⟨fun e => by rw [e.1, e.2, updI_same], fun e => updI_other g _ (fun e' => e (flat_inj hb hj e'))⟩
  have hle : ∀ a b, a < n → b < n → updI g (i * n + j) (g (i * n + m) + g (m * n + j)) (a * n + b) ≤ g (a * n + b) := fun a b ha hb => by
    by_cases e : a = i ∧ b = j
    · rw [(hat a b ha hb).1 e, e.1, e.2]; omega
    · rw [(hat a b ha hb).2 e]; exact Int.le_refl _
  refine ⟨fun a b ha hb => ?_, fun a b ha hb hf => ?_, fun a b d ha hb hw => ?_, fun a b d ha hb hab hw => ?_⟩
  · by_cases e : a = i ∧ b = j
    · rw [(hat a b ha hb).1 e]; omega
    · rw [(hat a b ha hb).2 e]; exact h.top a b ha hb
  · by_cases e : a = i ∧ b = j
    · rw [(hat a b ha hb).1 e]
      have w1 := h.sound i m hi hm h1
      have w2 := h.sound m j hm hj h2
      have := wk_cat w1 _ _ w2
      rw [e.1, e.2, show (g (i * n + m) + g (m * n + j)).toNat = (g (i * n + m)).toNat + (g (m * n + j)).toNat by omega]
      exact this
    · rw [(hat a b ha hb).2 e] at hf ⊢; exact h.sound a b ha hb hf
  · have := h.low a b d ha hb hw
    have := hle a b ha hb
    omega
  · by_cases e : a = i ∧ b = j
    · rw [(hat a b ha hb).1 e]
      obtain ⟨rfl, rfl⟩ := e
      rcases wkM_split d b hw with hA | ⟨d1, d2, hd, g1, g2⟩
      · have := h.low a b d ha hb hA; omega
      · have := h.low m b d2 hm hb g2
        have := h.low a m d1 ha hm g1
        omega
    · have := h.done a b d ha hb (by omega) hw
      have := hle a b ha hb
      omega

theorem FwS.row {n : Nat} {E : Nat → Nat → Prop} {m i : Nat} {g : Nat → Int} (h : FwS n E m i n g) : FwS n E m (i + 1) 0 g :=
  ⟨h.top, h.sound, h.low, fun a b d ha hb hab hw => h.done a b d ha hb (by omega) hw⟩

theorem FwS.stage {n : Nat} {E : Nat → Nat → Prop} {m : Nat} {g : Nat → Int} (h : FwS n E m n 0 g) : FwS n E (m + 1) 0 0 g :=
  ⟨h.top, h.sound, fun a b d ha hb hw => h.done a b d ha hb (Or.inl ha) hw, fun a b d ha hb hab _ => by omega⟩

/-- BEFORE THE FIRST STAGE: the ceiling, zeros on the diagonal, ones for the links of rows below k and for the links of row k in 'Q'. -/
structure FwI (n : Nat) (E : Nat → Nat → Prop) (k : Nat) (Q : Nat → Prop) (g : Nat → Int) : Prop where
  diag : ∀ a, a < n → g (a * n + a) = 0
  vals : ∀ a b, a < n → b < n → a ≠ b → g (a * n + b) = n + 1 ∨ (g (a * n + b) = 1 ∧ E a b)
  link : ∀ a b, a < n → b < n → a ≠ b → E a b → (a < k ∨ (a = k ∧ Q b)) → g (a * n + b) = 1

theorem FwI.less {n : Nat} {E : Nat → Nat → Prop} {k k' : Nat} {Q Q' : Nat → Prop} {g : Nat → Int} (h : FwI n E k Q g) (hQ : ∀ a b, a ≠ b → E a b → (a < k' ∨ (a = k' ∧ Q' b)) → (a < k ∨ (a = k ∧ Q b))) : FwI n E k' Q' g :=
  ⟨h.diag, h.vals, fun a b ha hb hab he hh => h.link a b ha hb hab he (hQ a b hab he hh)⟩

theorem FwI.put {n : Nat} {E : Nat → Nat → Prop} {k v : Nat} {Q : Nat → Prop} {g : Nat → Int} (h : FwI n E k Q g) (hv : v < n) (hkv : k ≠ v) (he : E k v) : FwI n E k (fun x => Q x ∨ x = v) (updI g (k * n + v) 1) := by
  have hat : ∀ a b, a < n → b < n → (a = k ∧ b = v → updI g (k * n + v) 1 (a * n + b) = 1) ∧ (¬ (a = k ∧ b = v) → updI g (k * n + v) 1 (a * n + b) = g (a * n + b)) := fun a b _ hb =>
    ⟨fun e => by rw [e.1, e.2, updI_same], fun e => updI_other g _ (fun e' => e (flat_inj hb hv e'))⟩
  refine ⟨fun a ha => ?_, fun a b ha hb hab => ?_, fun a b ha hb hab hE hh => ?_⟩
  · rw [(hat a a ha ha).2 (by omega)]; exact h.diag a ha
  · by_cases e : a = k ∧ b = v
    · right; exact ⟨(hat a b ha hb).1 e, by rw [e.1, e.2]; exact he⟩
    · rw [(hat a b ha hb).2 e]; exact h.vals a b ha hb hab
  · by_cases e : a = k ∧ b = v
    · exact (hat a b ha hb).1 e
    · rw [(hat a b ha hb).2 e]
      refine h.link a b ha hb hab hE ?_
      rcases hh with h1 | ⟨h1, h2 | h2⟩
      · exact Or.inl h1
      · exact Or.inr ⟨h1, h2⟩
      · exact absurd ⟨h1, h2⟩ e

theorem FwI.start {n : Nat} {E : Nat → Nat → Prop} {g : Nat → Int} (hd : ∀ a, a < n → g (a * n + a) = 0) (hi : ∀ a b, a < n → b < n → a ≠ b → g (a * n + b) = n + 1) : FwI n E 0 (fun _ => False) g :=
  ⟨hd, fun a b ha hb hab => Or.inl (hi a b ha hb hab), fun a b _ _ _ _ hh => by
    rcases hh with h | ⟨_, h⟩
    · omega
    · exact h.elim⟩

theorem FwI.done {n : Nat} {E : Nat → Nat → Prop} {Q : Nat → Prop} {g : Nat → Int} (h : FwI n E n Q g) : FwS n E 0 0 0 g := by
  have hn1 : ∀ a : Nat, a < n → (1 : Int) < n + 1 := fun a ha => by omega
  refine ⟨fun a b ha hb => ?_, fun a b ha hb hf => ?_, fun a b d ha hb hw => ?_, fun a b d ha hb hab _ => by omega⟩
  · by_cases e : a = b
    · subst e; rw [h.diag a ha]; omega
    · rcases h.vals a b ha hb e with h1 | ⟨h1, _⟩ <;> rw [h1] <;> omega
  · by_cases e : a = b
    · subst e; rw [h.diag a ha]; exact rfl
    · rcases h.vals a b ha hb e with h1 | ⟨h1, h2⟩
      · omega
      · rw [h1]; exact ⟨a, rfl, h2⟩
  · by_cases e : a = b
    · subst e; rw [h.diag a ha]; omega
    · match d, hw with
      | 0, hw => exact absurd hw e
      | 1, hw =>
        obtain ⟨x, hx, _, he⟩ := hw
        have hax : a = x := hx
        subst hax
        rw [h.link a b ha hb e he (Or.inl ha)]
        omega
      | d + 2, hw =>
        obtain ⟨x, _, hin, _⟩ := hw
        omega

/-- 'want' when p cells have been looked at. -/
structure Want (n : Nat) (g : Nat → Int) (p : Nat) (h : Nat) : Prop where
  ub : ∀ q, q < p → g q < n + 1 → g q ≤ h
  att : h = 0 ∨ ∃ q, q < p ∧ g q = h ∧ g q < n + 1

theorem Want.zero (n : Nat) (g : Nat → Int) : Want n g 0 0 := ⟨fun _ hq => absurd hq (Nat.not_lt_zero _), Or.inl rfl⟩

theorem Want.skip {n : Nat} {g : Nat → Int} {p h : Nat} (a : Want n g p h) (hs : ¬ (g p < n + 1 ∧ (h : Int) < g p)) : Want n g (p + 1) h :=
  ⟨fun q hq hf => by
    by_cases e : q = p
    · subst e; omega
    · exact a.ub q (by omega) hf, a.att.elim Or.inl (fun ⟨q, hq, e⟩ => Or.inr ⟨q, by omega, e⟩)⟩

theorem Want.take {n : Nat} {g : Nat → Int} {p h x : Nat} (a : Want n g p h) (h1 : g p < n + 1) (h2 : (h : Int) < g p) (hx : g p = x) : Want n g (p + 1) x :=
  ⟨fun q hq hf => by
    by_cases e : q = p
    · subst e; omega
    · have := a.ub q (by omega) hf; omega, Or.inr ⟨p, by omega, hx, h1⟩⟩

/-- THE TWO AGREE. -/
theorem Want.over {n : Nat} {E : Nat → Nat → Prop} {g : Nat → Int} {x h : Nat} (a : Want n g (n * n) x) (hF : FwS n E n 0 0 g) (hE : ∀ u v, E u v → v < n) (hD : Diam n E h) (hh : h ≤ n - 1) : h = x := by
  refine hD.unique ⟨fun u v d hu hd => ?_, ?_⟩
  · have hv : v < n := by
      have hw := hd.1
      cases d with
      | zero => have e : u = v := hw; omega
      | succ d => obtain ⟨y, _, hy⟩ := hw; exact hE _ _ hy
    have h1 := hD.ub u v d hu hd
    have h2 := hF.low u v d hu hv (wkM_of_wk hE d v hd.1)
    have h3 := hF.sound u v hu hv (by omega)
    have h4 := hd.le h3
    have h5 := (hF.top u v hu hv).1
    have h6 := a.ub (u * n + v) (flat_lt hu hv) (by omega)
    omega
  · rcases a.att with e | ⟨q, hq, e1, e2⟩
    · exact Or.inl e
    · obtain ⟨f1, f2, f3⟩ := flat_of hq
      right
      refine ⟨q / n, q % n, f1, ?_⟩
      rw [f3] at e1 e2
      have w1 := hF.sound _ _ f1 f2 e2
      rw [e1] at w1
      refine ⟨by simpa using w1, fun d' hd' hw' => ?_⟩
      have := hF.low _ _ d' f1 f2 (wkM_of_wk hE d' _ hw')
      omega

end Go.Proofs.Qxb6602022a.Gr
