/-
  The walks of isTagHandle and of the automaton.
-/
import Derived.Test.Qxb6602647aWalk
namespace Go.Proofs.Qxb6602647a
open Go.RowKit

/-- The bytes as numbers. -/
def bf (s : ByteArray) (k : Nat) : Int := ((s.data.toList.getD k 0).toNat : Int)

theorem bf_get (s : ByteArray) (k : Nat) (h : k < s.size) : ((s[k]'h).toNat : Int) = bf s k := by
  unfold bf
  have h' : k < s.data.toList.length := by simpa using h
  rw [List.getD_eq_getElem?_getD, List.getElem?_eq_getElem h']
  rfl

theorem bf_nat (s : ByteArray) (k : Nat) : ∃ c : Nat, bf s k = (c : Int) ∧ c < 256 := ⟨_, rfl, UInt8.toNat_lt _⟩

theorem byte_eq (a : UInt8) : a = 33 ↔ (a.toNat : Int) = 33 := by
  constructor
  · intro h; rw [h]; rfl
  · intro h
    apply UInt8.toNat_inj.1
    show a.toNat = 33
    omega

theorem one_iff (s : ByteArray) : (s.toList == [33]) = true ↔ s.size = 1 ∧ bf s 0 = 33 := by
  rw [beq_iff_eq, ByteArray.toList_eq]
  unfold bf
  have hs : s.size = s.data.toList.length := by simp
  rw [hs]
  generalize s.data.toList = l
  match l with
  | [] => simp
  | [a] => simp; exact byte_eq a
  | a :: b :: r => simp

theorem two_iff (s : ByteArray) : (s.toList == [33, 33]) = true ↔ s.size = 2 ∧ bf s 0 = 33 ∧ bf s 1 = 33 := by
  rw [beq_iff_eq, ByteArray.toList_eq]
  unfold bf
  have hs : s.size = s.data.toList.length := by simp
  rw [hs]
  generalize s.data.toList = l
  match l with
  | [] => simp
  | [a] => simp
  | [a, b] => simp; exact and_congr (byte_eq a) (byte_eq b)
  | a :: b :: c :: r => simp

def RetHnd (s : ByteArray) (e : Ending) : Prop := ∃ t : Bool, e = .returned (.bool t) ∧ (t = true ↔ Hnd (bf s) s.size)
theorem RetHnd.yes {s : ByteArray} (h : Hnd (bf s) s.size) : RetHnd s (.returned (.bool true)) := ⟨true, rfl, fun _ => h, fun _ => rfl⟩
theorem RetHnd.no {s : ByteArray} (h : ¬ Hnd (bf s) s.size) : RetHnd s (.returned (.bool false)) := ⟨false, rfl, fun h => (by cases h), fun h' => absurd h' h⟩

set_option maxHeartbeats 400000 in
theorem hnd9 (s : ByteArray) (w : World) (hn : s.size ≤ 1048576) :
    Calls Try.prog 9 #[.string s] w fun e w' => RetHnd s e ∧ w' = w := by
  cases h1 : (s.toList == [33]) with
  | true =>
    have H : Hid (Hnd (bf s) s.size) := Or.inl ((one_iff s).1 h1)
    go_enter Try.func9, Try.ntmps9
    go_wp2_with fail
    go_ret
    exact ⟨RetHnd.yes H.out, rfl⟩
  | false =>
  cases h2 : (s.toList == [33, 33]) with
  | true =>
    have H : Hid (Hnd (bf s) s.size) := by
      obtain ⟨a, b, c⟩ := (two_iff s).1 h2
      exact Or.inr ⟨by omega, b, by rw [a]; exact c, fun p hp hp' => by omega⟩
    go_enter Try.func9, Try.ntmps9
    go_wp2_with fail
    go_ret
    exact ⟨RetHnd.yes H.out, rfl⟩
  | false =>
  have n1 : Hid (¬ (s.size = 1 ∧ bf s 0 = 33)) := fun h => by rw [(one_iff s).2 h] at h1; cases h1
  have n2 : Hid (¬ (s.size = 2 ∧ bf s 0 = 33 ∧ bf s 1 = 33)) := fun h => by rw [(two_iff s).2 h] at h2; cases h2
  by_cases h3 : (s.size : Int) < 3
  · have H : Hid (¬ Hnd (bf s) s.size) := fun h => by
      rcases h with h | ⟨a, b, c, d⟩
      · exact n1.out h
      · have e : s.size = 2 := by omega
        rw [e] at c
        exact n2.out ⟨e, b, c⟩
    clear n1 n2
    go_enter Try.func9, Try.ntmps9
    go_wp2_with fail
    go_ret
    exact ⟨RetHnd.no H.out, rfl⟩
  have h3' : decide ((s.size : Int) < 3) = false := by simp; omega
  have hs0 : 0 < s.size := by omega
  have hs1 : s.size - 1 < s.size := by omega
  obtain ⟨c0, e0⟩ : ∃ c0, ((s[0]'hs0).toNat : Int) = c0 := ⟨_, rfl⟩
  obtain ⟨c1, e1⟩ : ∃ c1, ((s[s.size - 1]'hs1).toNat : Int) = c1 := ⟨_, rfl⟩
  have E0 : Hid (bf s 0 = c0) := by show _ = _; rw [← e0, bf_get]
  have E1 : Hid (bf s (s.size - 1) = c1) := by show _ = _; rw [← e1, bf_get]
  clear n1 n2
  by_cases h4 : c0 = 33
  · have h4' : (c0 != 33) = false := by simp [h4]
    have B0 : Hid (bf s 0 = 33) := by show _ = _; rw [E0.out, h4]
    clear h4
    by_cases h5 : c1 = 33
    · have h5' : (c1 != 33) = false := by simp [h5]
      have B1 : Hid (bf s (s.size - 1) = 33) := by show _ = _; rw [E1.out, h5]
      clear h5 E0 E1
      go_enter Try.func9, Try.ntmps9
      go_wp2_with fail
      go_loop [3] (fun i => ∃ k : Nat, 1 ≤ k ∧ k ≤ s.size - 1 ∧ i = .int .i64 k ∧ Hid (∀ p, 1 ≤ p → p < k → isWd (bf s p) = true)) (fun i => s.size - (intOf i).toNat)
      case atStart => exact ⟨1, Nat.le_refl _, by omega, rfl, fun p a b => by omega⟩
      case round =>
        obtain ⟨k, hk1, hk2, rfl, hH⟩ := hrel
        by_cases hlt : k < s.size - 1
        · have hks : k < s.size := by omega
          have hlti : (k : Int) < (s.size : Int) - 1 := by omega
          obtain ⟨c, ec⟩ : ∃ c, ((s[k]'hks).toNat : Int) = c := ⟨_, rfl⟩
          have EC : Hid (bf s k = c) := by show _ = _; rw [← ec, bf_get]
          clear e0 e1
          go_wp2_with fail
          refine (word11 c _).mono ?_
          rintro e w' ⟨rfl, rfl⟩
          cases hw : isWd c with
          | true =>
            have HH : Hid (∀ p, 1 ≤ p → p < k + 1 → isWd (bf s p) = true) := fun p a b => by
              by_cases e : p = k
              · subst e; rw [EC.out]; exact hw
              · exact hH.out p a (by omega)
            clear hw hH ec
            go_wp2_with fail
            go_round
            case rel => exact ⟨k + 1, by omega, by omega, by go_num, HH⟩
            case measure => simp [intOf]; omega
          | false =>
            have H : Hid (¬ Hnd (bf s) s.size) := fun h => by
              rcases h with h | ⟨_, _, _, d⟩
              · omega
              · have := d k hk1 hlt
                rw [EC.out, hw] at this
                cases this
            clear hw hH ec
            go_wp2_with fail
            go_ret
            exact ⟨RetHnd.no H.out, rfl⟩
        · have hlti : ¬ (k : Int) < (s.size : Int) - 1 := by omega
          have H : Hid (Hnd (bf s) s.size) := Or.inr ⟨by omega, B0.out, B1.out, fun p a b => hH.out p a (by omega)⟩
          go_wp2_with fail
          go_ret
          exact ⟨RetHnd.yes H.out, rfl⟩
    · have h5' : (c1 != 33) = true := by simp [h5]
      have H : Hid (¬ Hnd (bf s) s.size) := fun h => by
        rcases h with h | ⟨_, _, c, _⟩
        · omega
        · rw [E1.out] at c; exact h5 c
      clear h5 E0 E1
      go_enter Try.func9, Try.ntmps9
      go_wp2_with fail
      go_ret
      exact ⟨RetHnd.no H.out, rfl⟩
  · have h4' : (c0 != 33) = true := by simp [h4]
    have H : Hid (¬ Hnd (bf s) s.size) := fun h => by
      rcases h with h | ⟨_, b, _, _⟩
      · omega
      · rw [E0.out] at b; exact h4 b
    clear h4 E0 E1
    go_enter Try.func9, Try.ntmps9
    go_wp2_with fail
    go_ret
    exact ⟨RetHnd.no H.out, rfl⟩

set_option maxHeartbeats 400000 in
theorem hnd6 (s : ByteArray) (w : World) (hn : s.size ≤ 1048576) :
    Calls Try.prog 6 #[.string s] w fun e w' => RetHnd s e ∧ w' = w := by
  go_enter Try.func6, Try.ntmps6
  go_wp2_with fail
  refine (hnd9 s _ hn).mono ?_
  rintro e w' ⟨⟨t, rfl, ht⟩, rfl⟩
  go_wp2_with fail
  go_ret
  exact ⟨⟨t, rfl, ht⟩, rfl⟩

/-- The automaton's state as the walk holds it. -/
theorem step0 {c : Int} (h : c = 33) : step 0 c = 1 := by simp [step, h]
theorem step0' {c : Int} (h : ¬ c = 33) : step 0 c = 4 := by simp [step, h]
theorem step12 {s : Nat} {c : Int} (hs : s = 1 ∨ s = 2) (h : c = 33) : step s c = 3 := by rcases hs with rfl | rfl <;> simp [step, h]
theorem step12w {s : Nat} {c : Int} (hs : s = 1 ∨ s = 2) (h : ¬ c = 33) (hw : isWd c = true) : step s c = 2 := by rcases hs with rfl | rfl <;> simp [step, h, hw]
theorem step12n {s : Nat} {c : Int} (hs : s = 1 ∨ s = 2) (h : ¬ c = 33) (hw : isWd c = false) : step s c = 4 := by rcases hs with rfl | rfl <;> simp [step, h, hw]
theorem step34 {s : Nat} {c : Int} (h0 : s ≠ 0) (h1 : s ≠ 1) (h2 : s ≠ 2) : step s c = 4 := by simp [step, h0, h1, h2]

set_option maxHeartbeats 800000 in
theorem model7 (s : ByteArray) (w : World) (hn : s.size ≤ 1048576) :
    Calls Try.prog 7 #[.string s] w fun e w' => RetHnd s e ∧ w' = w := by
  go_enter Try.func7, Try.ntmps7
  go_wp2_with fail
  go_loop [3, 4, 5] (fun t i _ => ∃ (k q : Nat), k ≤ s.size ∧ q ≤ 4 ∧ i = .int .i64 k ∧ t = .int .i64 q ∧ Hid (q = st (bf s) k)) (fun _ i _ => s.size - (intOf i).toNat)
  case atStart => exact ⟨0, 0, Nat.zero_le _, by omega, rfl, rfl, rfl⟩
  case round =>
    obtain ⟨k, q, hk, hq, rfl, rfl, hQ⟩ := hrel
    by_cases hlt : k < s.size
    · obtain ⟨c, ec, hc⟩ : ∃ c : Nat, (s[k]'hlt).toNat = c ∧ c < 256 := ⟨_, rfl, UInt8.toNat_lt _⟩
      have EC : Hid (∀ r, r = step q (c : Int) → r = st (bf s) (k + 1)) := fun r hr => by
        have e : bf s k = (c : Int) := by rw [← bf_get s k hlt, ec]
        rw [hr, hQ.out, ← e]; rfl
      clear hQ
      by_cases q0 : q = 0
      · subst q0
        by_cases h33 : c = 33
        · have g : ((c : Int) == 33) = true := by simp; omega
          have HR : Hid (1 = st (bf s) (k + 1)) := EC.out 1 (step0 (by omega)).symm
          clear h33 EC
          go_wp2_with fail
          go_round
          case rel => exact ⟨k + 1, 1, by omega, by omega, by go_num, rfl, HR⟩
          case measure => simp [intOf]; omega
        · have g : ((c : Int) == 33) = false := by simp; omega
          have HR : Hid (4 = st (bf s) (k + 1)) := EC.out 4 (step0' (by omega)).symm
          clear h33 EC
          go_wp2_with fail
          go_round
          case rel => exact ⟨k + 1, 4, by omega, by omega, by go_num, rfl, HR⟩
          case measure => simp [intOf]; omega
      have g0 : ((q : Int) == 0) = false := by simp; omega
      by_cases q12 : q = 1 ∨ q = 2
      · have hway : (((q : Int) == 1) = true) ∨ (((q : Int) == 1) = false ∧ ((q : Int) == 2) = true) := by
          rcases q12 with h | h
          · left; simp; omega
          · right; constructor <;> simp <;> omega
        by_cases h33 : c = 33
        · have g : ((c : Int) == 33) = true := by simp; omega
          have HR : Hid (3 = st (bf s) (k + 1)) := EC.out 3 (step12 q12 (by omega)).symm
          clear h33 EC q12 q0
          rcases hway with h1 | ⟨h1, h2⟩
          all_goals
            go_wp2_with fail
            go_round
            case rel => exact ⟨k + 1, 3, by omega, by omega, by go_num, rfl, HR⟩
            case measure => simp [intOf]; omega
        · have g : ((c : Int) == 33) = false := by simp; omega
          have HY : Hid (isWd (c : Int) = true → 2 = st (bf s) (k + 1)) := fun hw => EC.out 2 (step12w q12 (by omega) hw).symm
          have HN : Hid (isWd (c : Int) = false → 4 = st (bf s) (k + 1)) := fun hw => EC.out 4 (step12n q12 (by omega) hw).symm
          clear h33 EC q12 q0
          rcases hway with h1 | ⟨h1, h2⟩
          all_goals
            go_wp2_with fail
            refine (alpha10 c _ hc).mono ?_
            rintro e w' ⟨rfl, rfl⟩
            cases hw : isWd (c : Int) with
            | true =>
              have HR : Hid (2 = st (bf s) (k + 1)) := HY.out hw
              clear hw HY HN
              go_wp2_with fail
              go_round
              case rel => exact ⟨k + 1, 2, by omega, by omega, by go_num, rfl, HR⟩
              case measure => simp [intOf]; omega
            | false =>
              have HR : Hid (4 = st (bf s) (k + 1)) := HN.out hw
              clear hw HY HN
              go_wp2_with fail
              go_round
              case rel => exact ⟨k + 1, 4, by omega, by omega, by go_num, rfl, HR⟩
              case measure => simp [intOf]; omega
      · have g1 : ((q : Int) == 1) = false := by simp; omega
        have g2 : ((q : Int) == 2) = false := by simp; omega
        have HR : Hid (4 = st (bf s) (k + 1)) := EC.out 4 (step34 q0 (fun h => q12 (Or.inl h)) (fun h => q12 (Or.inr h))).symm
        clear EC q12 q0
        go_wp2_with fail
        go_round
        case rel => exact ⟨k + 1, 4, by omega, by omega, by go_num, rfl, HR⟩
        case measure => simp [intOf]; omega
    · have e : k = s.size := by omega
      have HF : Hid ((q = 1 ∨ q = 3) ↔ Hnd (bf s) s.size) := by
        have := hnd_iff (bf s) s.size
        rw [← e, ← hQ.out] at this
        show _ ↔ _
        rw [← e]
        exact this
      clear e hQ
      by_cases q1 : q = 1
      · have g1 : ((q : Int) == 1) = true := by simp; omega
        have H : Hid (Hnd (bf s) s.size) := HF.out.1 (Or.inl q1)
        clear q1
        go_wp2_with fail
        go_ret
        exact ⟨RetHnd.yes H.out, rfl⟩
      · have g1 : ((q : Int) == 1) = false := by simp; omega
        by_cases q3 : q = 3
        · have g3 : ((q : Int) == 3) = true := by simp; omega
          have H : Hid (Hnd (bf s) s.size) := HF.out.1 (Or.inr q3)
          clear q1 q3
          go_wp2_with fail
          go_ret
          exact ⟨RetHnd.yes H.out, rfl⟩
        · have g3 : ((q : Int) == 3) = false := by simp; omega
          have H : Hid (¬ Hnd (bf s) s.size) := fun h => by
            rcases HF.out.2 h with h | h
            · exact q1 h
            · exact q3 h
          clear q1 q3
          go_wp2_with fail
          go_ret
          exact ⟨RetHnd.no H.out, rfl⟩

set_option maxHeartbeats 400000 in
theorem bytes5 (s : ByteArray) (w : World) (hn : s.size ≤ maxLen) : Calls Try.prog 5 #[.string s] w fun e w' => RetBool e ∧ w' = w := by
  unfold maxLen at hn
  go_enter Try.func5, Try.ntmps5
  go_wp2
  all_goals
    go_ret
    exact ⟨RetBool.mk _, rfl⟩

set_option maxHeartbeats 400000 in
theorem law3 (s : ByteArray) (w : World) (hn : s.size ≤ maxLen) : Calls Try.prog 3 #[.string s] w fun e w' => e = .returned (.bool true) ∧ Grown w w' := by
  have hn63 := hn
  unfold maxLen at hn63
  go_enter Try.func3, Try.ntmps3
  go_wp2_with fail
  refine (bytes5 s _ hn).mono ?_
  rintro e w' ⟨⟨t, rfl⟩, rfl⟩
  cases t
  · go_wp2_with fail
    go_ret
    exact ⟨rfl, Grown.refl _⟩
  by_cases hn1 : (1048576 : Int) < (s.size : Int)
  · go_wp2_with fail
    go_ret
    exact ⟨rfl, Grown.refl _⟩
  go_wp2_with fail
  refine (hnd6 s _ (by omega)).mono ?_
  rintro e w' ⟨⟨t, rfl, ht⟩, rfl⟩
  go_wp2_with fail
  refine (model7 s _ (by omega)).mono ?_
  rintro e w' ⟨⟨t', rfl, ht'⟩, rfl⟩
  have e : t = t' := by rw [Bool.eq_iff_iff]; exact ht.trans ht'.symm
  subst e
  clear ht ht'
  go_wp2_with fail
  go_ret
  exact ⟨ret_bool (by simp), Grown.refl _⟩

end Go.Proofs.Qxb6602647a
