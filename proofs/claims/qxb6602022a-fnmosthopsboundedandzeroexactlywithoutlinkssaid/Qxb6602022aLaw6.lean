/-
  The walk of FnMostHopsBoundedAndZeroExactlyWithoutLinks.
-/
import Derived.Test.Qxb6602022aRange
import Derived.Test.Qxb6602022aLaw3
namespace Go.Proofs.Qxb6602022a
open Go.RowKit Go.Deep Gr

/-- Some node below k links to a node other than itself. -/
def Lk (k : Nat) (L : Nat → Nat) (Z : Nat → Nat → Int) : Prop := ∃ u, u < k ∧ ∃ j, j < L u ∧ Z u j ≠ (u : Int)

theorem wk_self {E : Nat → Nat → Prop} (h : ∀ u v, E u v → u = v) {u : Nat} : ∀ d v, Wk E u v d → u = v := by
  intro d
  induction d with
  | zero => intro v hw; exact hw
  | succ d ih =>
    intro v hw
    obtain ⟨x, hx, he⟩ := hw
    rw [ih x hx]; exact h _ _ he

theorem pos_iff {n : Nat} {L : Nat → Nat} {Z : Nat → Nat → Int} {h : Nat} (hR : InRange n L Z) (hD : Diam n (Ed n L Z) h) : 0 < h ↔ Lk n L Z := by
  constructor
  · intro hp
    rcases hD.att with e | ⟨u, v, hu, hd⟩
    · omega
    · by_cases hl : Lk n L Z
      · exact hl
      · exfalso
        have e := wk_self (E := Ed n L Z) (fun a b ⟨ha, j, hj, e⟩ => by
          by_cases hab : a = b
          · exact hab
          · exact absurd ⟨a, ha, j, hj, by omega⟩ hl) h v hd.1
        exact hd.2 0 hp e
  · rintro ⟨u, hu, j, hj, hne⟩
    obtain ⟨h0, h1⟩ := hR u hu j hj
    obtain ⟨v, hv⟩ : ∃ v : Nat, Z u j = (v : Int) := ⟨(Z u j).toNat, by omega⟩
    have hw : Wk (Ed n L Z) u v 1 := ⟨u, rfl, hu, j, hj, hv⟩
    have hd : Dist (Ed n L Z) u v 1 := ⟨hw, fun d' hd' hw' => by
      obtain rfl : d' = 0 := by omega
      have e : u = v := hw'
      subst e
      exact hne hv⟩
    have := hD.ub u v 1 hu hd
    omega

theorem Lk.peers {n : Nat} {L : Nat → Nat} {Z : Nat → Nat → Int} (h : Lk n L Z) : 1 ≤ mxL L n := by
  obtain ⟨u, hu, j, hj, _⟩ := h
  have := mxL_ge L n u hu
  omega

theorem Lk.zero (L : Nat → Nat) (Z : Nat → Nat → Int) : ¬ Lk 0 L Z := fun ⟨_, hu, _⟩ => absurd hu (Nat.not_lt_zero _)

/-- .. or one of the first j links of node k does. -/
def Lk2 (k j : Nat) (L : Nat → Nat) (Z : Nat → Nat → Int) : Prop := Lk k L Z ∨ ∃ j', j' < j ∧ Z k j' ≠ (k : Int)

theorem Lk2.zero {k : Nat} {L : Nat → Nat} {Z : Nat → Nat → Int} : Lk2 k 0 L Z ↔ Lk k L Z :=
  ⟨fun h => h.elim id (fun ⟨_, hj, _⟩ => absurd hj (Nat.not_lt_zero _)), Or.inl⟩

theorem Lk2.hit {k j : Nat} {L : Nat → Nat} {Z : Nat → Nat → Int} (h : Z k j ≠ (k : Int)) : Lk2 k (j + 1) L Z := Or.inr ⟨j, by omega, h⟩

theorem Lk2.miss {k j : Nat} {L : Nat → Nat} {Z : Nat → Nat → Int} (h : Z k j = (k : Int)) : Lk2 k (j + 1) L Z ↔ Lk2 k j L Z :=
  ⟨fun a => a.elim Or.inl (fun ⟨j', hj, e⟩ => by
    by_cases e' : j' = j
    · subst e'; exact absurd h e
    · exact Or.inr ⟨j', by omega, e⟩), fun a => a.elim Or.inl (fun ⟨j', hj, e⟩ => Or.inr ⟨j', by omega, e⟩)⟩

theorem Lk2.full {k : Nat} {L : Nat → Nat} {Z : Nat → Nat → Int} : Lk2 k (L k) L Z ↔ Lk (k + 1) L Z :=
  ⟨fun a => a.elim (fun ⟨u, hu, r⟩ => ⟨u, by omega, r⟩) (fun ⟨j, hj, e⟩ => ⟨k, by omega, j, hj, e⟩), fun ⟨u, hu, j, hj, e⟩ => by
    by_cases e' : u = k
    · subst e'; exact Or.inr ⟨j, hj, e⟩
    · exact Or.inl ⟨u, by omega, j, hj, e⟩⟩

set_option maxHeartbeats 1000000 in
theorem law6 (ao : Option Addr) (n cap : Nat) (A : Nat → Option Addr) (L C : Nat → Nat) (Z : Nat → Nat → Int) (w : World) (hin : MatIn w ao n cap A L C Z) :
    Calls Try.prog 6 #[.slice ao n cap] w fun e w' => TrueBelow w e w' := by
  have hn63 := hin.n_le
  unfold maxLen at hn63
  go_enter Try.func6, Try.ntmps6
  go_wp2_with fail
  refine (bytes17_any ao n cap A L C _ hin.n_le hin.L_le hin.mat.heads).mono ?_
  rintro e w' ⟨⟨t, rfl⟩, rfl⟩
  cases t
  · go_wp2_with fail
    go_ret
    exact ⟨rfl, Below.refl _ _⟩
  go_wp2_with fail
  refine (size9_any ao n cap A L C _ hin.n_le hin.L_le hin.mat.heads).mono ?_
  rintro e w' ⟨⟨s, rfl, hs⟩, rfl⟩
  by_cases hs1 : 1048576 < s
  · go_wp2_with fail
    go_ret
    exact ⟨rfl, Below.refl _ _⟩
  have hs2 : decide (1048576 < s) = false := by simpa using hs1
  obtain ⟨hn, hL⟩ := hs.2.2 (by omega)
  by_cases hn1 : (256 : Int) < (n : Int)
  · go_wp2_with fail
    go_ret
    exact ⟨rfl, Below.refl _ _⟩
  have hn2 : decide ((256 : Int) < (n : Int)) = false := by simpa using hn1
  go_wp2_with fail
  refine (range15_any ao n cap A L C Z _ hn hL hin.mat).mono ?_
  rintro e w' ⟨⟨t, rfl, hR⟩, rfl⟩
  cases t
  · go_wp2_with fail
    go_ret
    exact ⟨rfl, Below.refl _ _⟩
  have hR' := hR rfl
  clear hR
  go_wp2_with fail
  refine (clone10_any ao n cap A L C Z _ hn hL hin.nil hin.nils hin.mat).mono ?_
  rintro e w1 ⟨ao', A', rfl, hM, hnl, hb⟩
  go_wp2_with fail
  refine (hops16_some ao' n n A' L L Z _ hn hL hM hR').mono ?_
  rintro e w2 ⟨h, rfl, hD, hh, hb2⟩
  have hM2 := hM.below hb2
  have hbb := hb.trans (hb2.mono hb.size)
  have hp : Hid (0 < h ↔ Lk n L Z) := pos_iff hR' hD
  clear hD hR' hM hb hb2 hnl hin hs hs2
  have hpe : Hid (Lk n L Z → 1 ≤ mxL L n) := Lk.peers
  have hh2 : (h : Int) ≤ 65536 := by omega
  by_cases hn0 : n < 1
  · have hz : ¬ 0 < h := by omega
    have hz' : decide (0 < (h : Int)) = false := by simp; omega
    go_wp2_with fail
    go_loop [5, 6, 7] (fun s i _ => i = .int .i64 0 ∧ s = .bool false) (fun _ i _ => n - (intOf i).toNat)
    case atStart => exact ⟨rfl, rfl⟩
    case round =>
      obtain ⟨rfl, rfl⟩ := hrel
      go_wp2
      go_ret
      exact ⟨rfl, hbb⟩
  · go_wp2_with fail
    go_loop [5, 6, 7] (fun s i _ => ∃ (k : Nat) (t : Bool), k ≤ n ∧ i = .int .i64 k ∧ s = .bool t ∧ Hid (t = true ↔ Lk k L Z)) (fun _ i _ => n - (intOf i).toNat)
    case atStart => exact ⟨0, false, Nat.zero_le _, rfl, rfl, ⟨fun h => by (cases h), fun h => absurd h (Lk.zero L Z)⟩⟩
    case round =>
      obtain ⟨k, t, hk, rfl, rfl, hT⟩ := hrel
      by_cases hlt : k < n
      · obtain ⟨b, off, rfl, h1⟩ := hM2.heads k hlt
        obtain ⟨au, hau⟩ : ∃ au, au = A' k := ⟨_, rfl⟩
        obtain ⟨lu, hlu⟩ : ∃ lu, lu = L k := ⟨_, rfl⟩
        have h2 := hL k hlt
        have hI : Hid (IntsAt w2 au lu (Z k)) := by rw [hau, hlu]; exact hM2.rows k hlt
        rw [← hau, ← hlu] at h1
        rw [← hlu] at h2
        have HL : Hid (lu = L k) := hlu
        clear hau hlu
        go_wp2
        go_loop [5, 7] (fun s i => ∃ (j : Nat) (t : Bool), j ≤ lu ∧ i = .int .i64 j ∧ s = .bool t ∧ Hid (t = true ↔ Lk2 k j L Z)) (fun _ i => lu - (intOf i).toNat)
        case atStart => exact ⟨0, t, Nat.zero_le _, rfl, rfl, hT.out.trans Lk2.zero.symm⟩
        case round =>
          clear hT
          obtain ⟨j, t, hj, rfl, rfl, hT⟩ := hrel
          by_cases hlj : j < lu
          · obtain ⟨b', off', rfl, h3⟩ := hI.out j hlj
            by_cases hz : Z k j = (k : Int)
            · have HT : Hid (t = true ↔ Lk2 k (j + 1) L Z) := hT.out.trans (Lk2.miss hz).symm
              have hz1 : (Z k j != (k : Int)) = false := by simp [hz]
              clear hz hT
              generalize Z k j = z at *
              go_wp2
              go_round
              case rel => exact ⟨j + 1, t, by omega, by go_num, rfl, HT⟩
              case measure => simp [intOf]; omega
            · have HT : Hid (true = true ↔ Lk2 k (j + 1) L Z) := ⟨fun _ => Lk2.hit hz, fun _ => rfl⟩
              have hz1 : (Z k j != (k : Int)) = true := by simp [hz]
              clear hz hT
              generalize Z k j = z at *
              go_wp2
              go_round
              case rel => exact ⟨j + 1, true, by omega, by go_num, rfl, HT⟩
              case measure => simp [intOf]; omega
          · have HT : Hid (t = true ↔ Lk (k + 1) L Z) := hT.out.trans (by rw [show j = L k by rw [← HL.out]; omega]; exact Lk2.full)
            clear hT
            go_wp2
            go_round
            case rel => exact ⟨k + 1, t, by omega, by go_num, rfl, HT⟩
            case measure => simp [intOf]; omega
      · obtain rfl : n = k := by omega
        cases t
        · have hz : ¬ 0 < h := fun hx => by have := hT.out.2 (hp.out.1 hx); cases this
          have hz' : decide (0 < (h : Int)) = false := by simp; omega
          go_wp2
          go_ret
          exact ⟨rfl, hbb⟩
        · have hl := hT.out.1 rfl
          have hz : 0 < h := hp.out.2 hl
          have hz' : decide (0 < (h : Int)) = true := by simp; omega
          have hm1 := hpe.out hl
          clear hl
          go_wp2_with fail
          refine (peers11_any ao' n n A' L L _ (by omega) hL hM2.heads).mono ?_
          rintro e w3 ⟨rfl, rfl⟩
          generalize mxL L n = mm at *
          have hm2 : ¬ (mm : Int) < 1 := by omega
          go_wp2
          go_ret
          exact ⟨rfl, hbb⟩

end Go.Proofs.Qxb6602022a
