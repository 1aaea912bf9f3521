/-
  Plain mathematics: walks, distances, breadth-first search in a directed graph given by an edge relation. Nothing of Go.
-/
namespace Go.Proofs.Qxb6602022a.Gr

/-- A walk of d steps from u to v. -/
def Wk (E : Nat → Nat → Prop) (u : Nat) : Nat → Nat → Prop
  | v, 0 => u = v
  | v, d + 1 => ∃ x, Wk E u x d ∧ E x v

/-- The distance from u to v is d. -/
def Dist (E : Nat → Nat → Prop) (u v d : Nat) : Prop := Wk E u v d ∧ ∀ d', d' < d → ¬ Wk E u v d'

theorem Dist.unique {E : Nat → Nat → Prop} {u v d d' : Nat} (h : Dist E u v d) (h' : Dist E u v d') : d = d' := by
  rcases Nat.lt_trichotomy d d' with hl | he | hg
  · exact absurd h.1 (h'.2 d hl)
  · exact he
  · exact absurd h'.1 (h.2 d' hg)

theorem Dist.le {E : Nat → Nat → Prop} {u v d d' : Nat} (h : Dist E u v d) (h' : Wk E u v d') : d ≤ d' := by
  rcases Nat.lt_or_ge d' d with hl | hg
  · exact absurd h' (h.2 d' hl)
  · exact hg

/-- What is reached is reached at some distance. -/
theorem dist_of_wk {E : Nat → Nat → Prop} {u v : Nat} : ∀ d, Wk E u v d → ∃ d', d' ≤ d ∧ Dist E u v d' := by
  intro d
  induction d using Nat.strongRecOn with
  | ind d ih =>
    intro h
    by_cases hx : ∃ d', d' < d ∧ Wk E u v d'
    · obtain ⟨d', hd, hw⟩ := hx
      obtain ⟨d2, h2, h3⟩ := ih d' hd hw
      exact ⟨d2, by omega, h3⟩
    · exact ⟨d, Nat.le_refl _, h, fun d' hd hw => hx ⟨d', hd, hw⟩⟩

/-- h is the greatest of all distances between nodes below n (0 where there is none). -/
structure Diam (n : Nat) (E : Nat → Nat → Prop) (h : Nat) : Prop where
  ub : ∀ u v d, u < n → Dist E u v d → d ≤ h
  att : h = 0 ∨ ∃ u v, u < n ∧ Dist E u v h

theorem Diam.unique {n : Nat} {E : Nat → Nat → Prop} {h h' : Nat} (a : Diam n E h) (b : Diam n E h') : h = h' := by
  have h1 : h ≤ h' := by
    rcases a.att with e | ⟨u, v, hu, hd⟩
    · omega
    · exact b.ub u v h hu hd
  have h2 : h' ≤ h := by
    rcases b.att with e | ⟨u, v, hu, hd⟩
    · omega
    · exact a.ub u v h' hu hd
  omega

/-- How many nodes below n have a mark that is not negative. -/
def cnt (f : Nat → Int) : Nat → Nat
  | 0 => 0
  | n + 1 => cnt f n + if 0 ≤ f n then 1 else 0

theorem cnt_le (f : Nat → Int) : ∀ n, cnt f n ≤ n
  | 0 => Nat.le_refl _
  | n + 1 => by
    have := cnt_le f n
    simp only [cnt]
    split <;> omega

theorem cnt_lt (f : Nat → Int) : ∀ n v, v < n → f v < 0 → cnt f n < n
  | 0, _, h, _ => absurd h (Nat.not_lt_zero _)
  | n + 1, v, h, hf => by
    have := cnt_le f n
    simp only [cnt]
    by_cases e : v = n
    · subst e
      rw [if_neg (by omega)]
      omega
    · have := cnt_lt f n v (by omega) hf
      split <;> omega

def updI (f : Nat → Int) (v : Nat) (x : Int) : Nat → Int := fun i => if i = v then x else f i

theorem updI_same (f : Nat → Int) (v : Nat) (x : Int) : updI f v x v = x := by simp [updI]
theorem updI_other (f : Nat → Int) {v i : Nat} (x : Int) (h : i ≠ v) : updI f v x i = f i := by simp [updI, h]

theorem cnt_upd (f : Nat → Int) (v : Nat) (x : Int) (hx : 0 ≤ x) (hf : f v < 0) : ∀ n, cnt (updI f v x) n = cnt f n + if v < n then 1 else 0
  | 0 => by simp [cnt]
  | n + 1 => by
    have ih := cnt_upd f v x hx hf n
    simp only [cnt]
    by_cases e : v = n
    · subst e
      rw [updI_same, if_pos hx, if_neg (show ¬ 0 ≤ f v by omega), ih, if_neg (by omega), if_pos (by omega)]
    · rw [updI_other f x (fun h => e h.symm), ih]
      by_cases hlt : v < n
      · have h2 : v < n + 1 := by omega
        simp only [hlt, h2, if_true]; omega
      · have h2 : ¬ v < n + 1 := by omega
        simp only [hlt, h2, if_false]; omega

theorem cnt_none (f : Nat → Int) : ∀ n, (∀ v, v < n → f v < 0) → cnt f n = 0
  | 0, _ => rfl
  | n + 1, h => by
    simp only [cnt]
    rw [cnt_none f n (fun v hv => h v (by omega)), if_neg (by have := h n (by omega); omega)]

/-- BREADTH-FIRST SEARCH FROM s IN FULL SWING: m nodes q 0, .., q (m-1) are reached; the first i of them are done; of node q i the successors marked by 'D' are done. -/
structure Bfs (n : Nat) (E : Nat → Nat → Prop) (s : Nat) (f : Nat → Int) (q : Nat → Nat) (m i : Nat) (D : Nat → Prop) : Prop where
  start : 0 ≤ f s ∧ f s ≤ 0 ∧ s < n
  dist : ∀ v, v < n → 0 ≤ f v → Dist E s v (f v).toNat
  que : ∀ k, k < m → q k < n ∧ 0 ≤ f (q k)
  all : ∀ v, v < n → 0 ≤ f v → ∃ k, k < m ∧ q k = v
  mono : ∀ k l, k ≤ l → l < m → f (q k) ≤ f (q l)
  near : ∀ k, k < m → i < m → f (q k) ≤ f (q i) + 1
  done : ∀ k v, k < i → k < m → E (q k) v → 0 ≤ f v ∧ f v ≤ f (q k) + 1
  half : ∀ v, i < m → E (q i) v → D v → 0 ≤ f v ∧ f v ≤ f (q i) + 1
  size : m = cnt f n
  low : ∀ k, k < m → f (q k) ≤ k

theorem Bfs.cong {n : Nat} {E : Nat → Nat → Prop} {s : Nat} {f f' : Nat → Int} {q q' : Nat → Nat} {m i : Nat} {D D' : Nat → Prop} (h : Bfs n E s f q m i D) (hE : ∀ u v, E u v → v < n)
    (hf : ∀ v, v < n → f v = f' v) (hq : ∀ k, k < m → q k = q' k) (hD : ∀ v, D' v → D v) (hc : cnt f n = cnt f' n) : Bfs n E s f' q' m i D' := by
  have hqn : ∀ k, k < m → f' (q' k) = f (q k) := fun k hk => by
    rw [← hq k hk, ← hf (q k) (h.que k hk).1]
  refine ⟨?_, ?_, ?_, ?_, ?_, ?_, ?_, ?_, ?_, fun k hk => by rw [hqn k hk]; exact h.low k hk⟩
  · rw [← hf s h.start.2.2]; exact h.start
  · intro v hv h0
    rw [← hf v hv] at h0 ⊢
    exact h.dist v hv h0
  · intro k hk
    rw [hqn k hk, ← hq k hk]
    exact h.que k hk
  · intro v hv h0
    rw [← hf v hv] at h0
    obtain ⟨k, hk, e⟩ := h.all v hv h0
    exact ⟨k, hk, by rw [← hq k hk]; exact e⟩
  · intro k l hkl hl
    rw [hqn k (by omega), hqn l hl]
    exact h.mono k l hkl hl
  · intro k hk hi
    rw [hqn k hk, hqn i hi]
    exact h.near k hk hi
  · intro k v hki hkm he
    rw [hqn k hkm]
    rw [← hq k hkm] at he
    have := h.done k v hki hkm he
    rw [hf v (hE _ _ he)] at this
    exact this
  · intro v hi he hd
    rw [hqn i hi]
    rw [← hq i hi] at he
    have := h.half v hi he (hD v hd)
    rw [hf v (hE _ _ he)] at this
    exact this
  · rw [← hc]; exact h.size

/-- A node not yet reached is at a distance greater than that of the node under work. -/
theorem Bfs.far {n : Nat} {E : Nat → Nat → Prop} {s : Nat} {f : Nat → Int} {q : Nat → Nat} {m i : Nat} {D : Nat → Prop} (h : Bfs n E s f q m i D) (hE : ∀ u v, E u v → v < n) :
    ∀ d v, Wk E s v d → (d : Int) ≤ f (q i) → 0 ≤ f v := by
  intro d
  induction d with
  | zero => intro v hw _; have e : s = v := hw; subst e; exact h.start.1
  | succ d ih =>
    intro v hw hle
    obtain ⟨x, hx, he⟩ := hw
    have hfx := ih x hx (by omega)
    have hxn : x < n := by
      cases d with
      | zero => have e : s = x := hx; subst e; exact h.start.2.2
      | succ d => obtain ⟨y, _, hy⟩ := hx; exact hE _ _ hy
    have hdx := h.dist x hxn hfx
    have hle2 : (f x).toNat ≤ d := hdx.le hx
    obtain ⟨k, hk, e⟩ := h.all x hxn hfx
    have hki : k < i := by
      rcases Nat.lt_or_ge k i with hl | hg
      · exact hl
      · have := h.mono i k hg hk
        rw [e] at this
        omega
    rw [← e] at he
    exact (h.done k v hki hk he).1

/-- A NEW NODE v, a successor of the node under work, IS REACHED. -/
theorem Bfs.reach {n : Nat} {E : Nat → Nat → Prop} {s : Nat} {f : Nat → Int} {q : Nat → Nat} {m i : Nat} {D : Nat → Prop} (h : Bfs n E s f q m i D) (hE : ∀ u v, E u v → v < n) (hi : i < m)
    {v : Nat} (he : E (q i) v) (hv : f v < 0) :
    Bfs n E s (updI f v (f (q i) + 1)) (fun k => if k = m then v else q k) (m + 1) i (fun x => D x ∨ x = v) ∧ m < n := by
  have hvn : v < n := hE _ _ he
  have hqi := h.que i hi
  have hx0 : 0 ≤ f (q i) + 1 := by omega
  have hqv : ∀ k, k < m → q k ≠ v := fun k hk e => by have := (h.que k hk).2; rw [e] at this; omega
  have hsv : s ≠ v := fun e => by have := h.start.1; rw [e] at this; omega
  have hfq : ∀ k, k < m → updI f v (f (q i) + 1) (q k) = f (q k) := fun k hk => updI_other f _ (hqv k hk)
  have hq : ∀ k, k < m → (if k = m then v else q k) = q k := fun k hk => by rw [if_neg (by omega)]
  have hqm : (if m = m then v else q m) = v := by rw [if_pos rfl]
  have hdv : Dist E s v (f (q i) + 1).toNat := by
    have hdi := h.dist (q i) hqi.1 hqi.2
    have e1 : (f (q i) + 1).toNat = (f (q i)).toNat + 1 := by omega
    rw [e1]
    refine ⟨⟨q i, hdi.1, he⟩, fun d' hd hw => ?_⟩
    have := h.far hE d' v hw (by omega)
    omega
  have hup : ∀ x, 0 ≤ f x → updI f v (f (q i) + 1) x = f x := fun x hx => updI_other f _ (fun e => by rw [e] at hx; omega)
  refine ⟨⟨?_, ?_, ?_, ?_, ?_, ?_, ?_, ?_, ?_, ?_⟩, ?_⟩
  · rw [updI_other f _ hsv]; exact h.start
  · intro x hx h0
    by_cases e : x = v
    · subst e; rw [updI_same]; exact hdv
    · rw [updI_other f _ e] at h0 ⊢; exact h.dist x hx h0
  · intro k hk
    by_cases e : k = m
    · subst e; simp only [if_true]; rw [updI_same]; exact ⟨hvn, hx0⟩
    · have hk' : k < m := by omega
      simp only [hq k hk']
      rw [hfq k hk']; exact h.que k hk'
  · intro x hx h0
    by_cases e : x = v
    · subst e; exact ⟨m, by omega, by simp⟩
    · rw [updI_other f _ e] at h0
      obtain ⟨k, hk, e2⟩ := h.all x hx h0
      exact ⟨k, by omega, by simp only [hq k hk]; exact e2⟩
  · intro k l hkl hl
    by_cases el : l = m
    · subst el
      simp only [if_true]
      rw [updI_same]
      by_cases ek : k = l
      · subst ek; simp only [if_true]; rw [updI_same]; exact Int.le_refl _
      · have hk' : k < l := by omega
        simp only [hq k hk']
        rw [hfq k hk']
        exact h.near k hk' hi
    · have hl' : l < m := by omega
      simp only [hq k (by omega), hq l hl']
      rw [hfq k (by omega), hfq l hl']
      exact h.mono k l hkl hl'
  · intro k hk _
    simp only [hq i hi]
    rw [hfq i hi]
    by_cases e : k = m
    · subst e; simp only [if_true]; rw [updI_same]; exact Int.le_refl _
    · have hk' : k < m := by omega
      simp only [hq k hk']
      rw [hfq k hk']; exact h.near k hk' hi
  · intro k x hki hkm hex
    have hk' : k < m := by omega
    simp only [hq k hk'] at hex ⊢
    rw [hfq k hk']
    have := h.done k x hki hk' hex
    rw [hup x this.1]
    exact this
  · intro x _ hex hD
    simp only [hq i hi] at hex ⊢
    rw [hfq i hi]
    by_cases e : x = v
    · subst e; rw [updI_same]; exact ⟨hx0, Int.le_refl _⟩
    · rcases hD with hD | hD
      · have := h.half x hi hex hD
        rw [hup x this.1]
        exact this
      · exact absurd hD e
  · rw [cnt_upd f v _ hx0 hv n, if_pos hvn, h.size]
  · intro k hk
    by_cases e : k = m
    · subst e; simp only [if_true]; rw [updI_same]; have := h.low i hi; omega
    · have hk' : k < m := by omega
      simp only [hq k hk']
      rw [hfq k hk']; exact h.low k hk'
  · rw [h.size]; exact cnt_lt f n v hvn hv

/-- A successor that was reached already. -/
theorem Bfs.seen {n : Nat} {E : Nat → Nat → Prop} {s : Nat} {f : Nat → Int} {q : Nat → Nat} {m i : Nat} {D : Nat → Prop} (h : Bfs n E s f q m i D) (hi : i < m)
    {v : Nat} (hvn : v < n) (hv : 0 ≤ f v) : Bfs n E s f q m i (fun x => D x ∨ x = v) :=
  ⟨h.start, h.dist, h.que, h.all, h.mono, h.near, h.done, fun x _ he hD => by
    rcases hD with hD | hD
    · exact h.half x hi he hD
    · subst hD
      obtain ⟨k, hk, e⟩ := h.all x hvn hv
      have := h.near k hk hi
      rw [e] at this
      exact ⟨hv, this⟩, h.size, h.low⟩

theorem Bfs.less {n : Nat} {E : Nat → Nat → Prop} {s : Nat} {f : Nat → Int} {q : Nat → Nat} {m i : Nat} {D D' : Nat → Prop} (h : Bfs n E s f q m i D) (hD : ∀ v, D' v → D v) : Bfs n E s f q m i D' :=
  ⟨h.start, h.dist, h.que, h.all, h.mono, h.near, h.done, fun x hi he hx => h.half x hi he (hD x hx), h.size, h.low⟩

/-- The node under work is done. -/
theorem Bfs.next {n : Nat} {E : Nat → Nat → Prop} {s : Nat} {f : Nat → Int} {q : Nat → Nat} {m i : Nat} {D : Nat → Prop} (h : Bfs n E s f q m i D) (hi : i < m)
    (hD : ∀ v, E (q i) v → D v) : Bfs n E s f q m (i + 1) (fun _ => False) :=
  ⟨h.start, h.dist, h.que, h.all, h.mono, fun k hk hi1 => by
    have h1 := h.near k hk hi
    have h2 := h.mono i (i + 1) (by omega) hi1
    omega, fun k v hk hkm he => by
    by_cases e : k = i
    · subst e; exact h.half v hi he (hD v he)
    · exact h.done k v (by omega) hkm he, fun _ _ _ hF => hF.elim, h.size, h.low⟩

/-- The search begins. -/
theorem Bfs.init {n : Nat} {E : Nat → Nat → Prop} {s : Nat} (hs : s < n) (f : Nat → Int) (hf : ∀ v, v < n → f v < 0) (q : Nat → Nat) (hq : q 0 = s) : Bfs n E s (updI f s 0) q 1 0 (fun _ => False) := by
  have hv : ∀ v, v < n → 0 ≤ updI f s 0 v → v = s := fun v hv h0 => by
    by_cases e : v = s
    · exact e
    · rw [updI_other f _ e] at h0; have := hf v hv; omega
  have hss := updI_same f s 0
  refine ⟨⟨by omega, by omega, hs⟩, ?_, ?_, ?_, ?_, ?_, ?_, ?_, ?_, ?_⟩
  · intro v hvn h0
    obtain rfl := hv v hvn h0
    rw [hss]
    exact ⟨rfl, fun d' hd => absurd hd (Nat.not_lt_zero _)⟩
  · intro k hk
    obtain rfl : k = 0 := by omega
    rw [hq]
    exact ⟨hs, by omega⟩
  · intro v hvn h0
    exact ⟨0, by omega, by rw [hq]; exact (hv v hvn h0).symm⟩
  · intro k l hkl hl
    obtain rfl : l = 0 := by omega
    obtain rfl : k = 0 := by omega
    exact Int.le_refl _
  · intro k hk _
    obtain rfl : k = 0 := by omega
    omega
  · intro k v hk; omega
  · intro v _ _ hF; exact hF.elim
  · rw [cnt_upd f s 0 (Int.le_refl _) (hf s hs) n, if_pos hs, cnt_none f n hf]
  · intro k hk
    obtain rfl : k = 0 := by omega
    rw [hq]
    omega

/-- The search is over: every node that can be reached has its distance. -/
theorem Bfs.over {n : Nat} {E : Nat → Nat → Prop} {s : Nat} {f : Nat → Int} {q : Nat → Nat} {m : Nat} {D : Nat → Prop} (h : Bfs n E s f q m m D) (hE : ∀ u v, E u v → v < n) :
    ∀ d v, Wk E s v d → v < n ∧ 0 ≤ f v ∧ f v ≤ d := by
  intro d
  induction d with
  | zero => intro v hw; have e : s = v := hw; subst e; exact ⟨h.start.2.2, h.start.1, by have := h.start.2.1; omega⟩
  | succ d ih =>
    intro v hw
    obtain ⟨x, hx, he⟩ := hw
    obtain ⟨hxn, hfx, hle⟩ := ih x hx
    obtain ⟨k, hk, e⟩ := h.all x hxn hfx
    rw [← e] at he
    have := h.done k v hk hk he
    rw [e] at this
    exact ⟨hE _ _ he, this.1, by omega⟩

/-- 'most' so far: sources below 'fr' are through; of the source fr itself the marks f count. -/
structure Most (n : Nat) (E : Nat → Nat → Prop) (fr : Nat) (f : Nat → Int) (h : Nat) : Prop where
  ub : ∀ u v d, u < fr → Dist E u v d → d ≤ h
  cur : ∀ v, v < n → f v ≤ h
  att : h = 0 ∨ ∃ u v, u < n ∧ Dist E u v h

theorem Most.begin {n : Nat} {E : Nat → Nat → Prop} {fr : Nat} {f f' : Nat → Int} {h : Nat} (a : Most n E fr f h) (hf : ∀ v, v < n → f' v ≤ 0) : Most n E fr f' h :=
  ⟨a.ub, fun v hv => by have := hf v hv; omega, a.att⟩

theorem Most.cong {n : Nat} {E : Nat → Nat → Prop} {fr : Nat} {f f' : Nat → Int} {h : Nat} (a : Most n E fr f h) (hf : ∀ v, v < n → f v = f' v) : Most n E fr f' h :=
  ⟨a.ub, fun v hv => by rw [← hf v hv]; exact a.cur v hv, a.att⟩

theorem Most.reach {n : Nat} {E : Nat → Nat → Prop} {fr : Nat} {f : Nat → Int} {h : Nat} (a : Most n E fr f h) {v x : Nat} (hfr : fr < n) (hd : Dist E fr v x) : Most n E fr (updI f v x) (max h x) :=
  ⟨fun u w d hu hw => by have := a.ub u w d hu hw; omega, fun w hw => by
    by_cases e : w = v
    · subst e; rw [updI_same]; omega
    · rw [updI_other f _ e]; have := a.cur w hw; omega, by
    by_cases hx : h ≤ x
    · right; exact ⟨fr, v, hfr, by rw [Nat.max_eq_right hx]; exact hd⟩
    · rw [Nat.max_eq_left (by omega)]; exact a.att⟩

theorem Most.next {n : Nat} {E : Nat → Nat → Prop} {fr : Nat} {f : Nat → Int} {h : Nat} (a : Most n E fr f h) (ho : ∀ d v, Wk E fr v d → v < n ∧ 0 ≤ f v ∧ f v ≤ d) (hd : ∀ v, v < n → 0 ≤ f v → Dist E fr v (f v).toNat) : Most n E (fr + 1) f h :=
  ⟨fun u v d hu hw => by
    by_cases e : u = fr
    · subst e
      obtain ⟨hv, h0, _⟩ := ho d v hw.1
      have h1 := hd v hv h0
      have := h1.unique hw
      have := a.cur v hv
      omega
    · exact a.ub u v d (by omega) hw, a.cur, a.att⟩

theorem Most.over {n : Nat} {E : Nat → Nat → Prop} {f : Nat → Int} {h : Nat} (a : Most n E n f h) : Diam n E h := ⟨a.ub, a.att⟩

end Go.Proofs.Qxb6602022a.Gr
