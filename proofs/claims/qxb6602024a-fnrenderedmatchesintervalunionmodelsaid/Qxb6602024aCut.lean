/-
  bytes.Equal, HasSuffix, CutSuffix at the suffix that is one newline.
-/
import Derived.Test.Qxb6602024aBuilder
namespace Go.Proofs.Qxb6602024a
open Go.RowKit Go.Deep Rd

set_option maxHeartbeats 400000 in
theorem equal52 (pa qa : Option Addr) (k c k2 c2 : Nat) (s t : ByteArray) (r : Bool) (w : World) (h1 : (convert 22 9 (.slice pa k c)).run Try.prog w = .ok (.string s) w) (h2 : (convert 22 9 (.slice qa k2 c2)).run Try.prog w = .ok (.string t) w) (hr : (s.toList == t.toList) = r) :
    Calls Try.prog 52 #[.slice pa k c, .slice qa k2 c2] w fun e w' => e = .returned (.bool r) ∧ w' = w := by
  go_enter Try.func52, Try.ntmps52
  go_wp2
  go_ret
  exact ⟨rfl, rfl⟩

theorem toList_one (c : UInt8) : (⟨#[c]⟩ : ByteArray).toList = [c] := by
  unfold ByteArray.toList
  unfold ByteArray.toList.loop
  rw [if_pos (by show 0 < 1; decide)]
  unfold ByteArray.toList.loop
  rw [if_neg (by show ¬ 0 + 1 < 1; decide)]
  rfl

theorem one_eq (c : UInt8) : ((⟨#[c]⟩ : ByteArray).toList == (⟨#[10]⟩ : ByteArray).toList) = (c == 10) := by
  rw [toList_one, toList_one]
  simp

theorem conv_one (W : World) (b off cap : Nat) (c : UInt8) (h : W.cell? ⟨b, off, none⟩ = some (.int .u8 (c.toNat : Int))) : (convert 22 9 (.slice (some ⟨b, off, none⟩) 1 cap)).run Try.prog W = .ok (.string ⟨#[c]⟩) W :=
  conv_list W (some ⟨b, off, none⟩) cap [c] (Or.inr ⟨b, off, rfl, fun i hi => by
    have : i = 0 := by simp at hi; omega
    subst this
    simpa using h⟩)

set_option maxHeartbeats 400000 in
theorem has48 (b off M cap sb : Nat) (c : UInt8) (r : Bool) (w : World) (hM : M ≤ 65536) (hcap : M + 1 ≤ cap) (hc : w.cell? ⟨b, off + M, none⟩ = some (.int .u8 (c.toNat : Int))) (hs : w.cell? ⟨sb, 0, none⟩ = some (.int .u8 10)) (hr : (c == 10) = r) :
    Calls Try.prog 48 #[.slice (some ⟨b, off, none⟩) (M + 1) cap, .slice (some ⟨sb, 0, none⟩) 1 1] w fun e w' => e = .returned (.bool r) ∧ w' = w := by
  have hge : (1 : Int) ≤ (M : Int) + 1 := by omega
  have e1 := conv_one w b (off + M) (cap - M) c hc
  have e2 := conv_one w sb 0 1 10 hs
  rw [← one_eq] at hr
  go_enter Try.func48, Try.ntmps48
  go_wp2_with fail
  refine (equal52 _ _ _ _ _ _ _ _ _ _ e1 e2 hr).mono ?_
  rintro e w' ⟨rfl, rfl⟩
  go_wp2
  go_ret
  exact ⟨rfl, rfl⟩

set_option maxHeartbeats 400000 in
theorem has48_short (ao qa : Option Addr) (cap : Nat) (w : World) :
    Calls Try.prog 48 #[.slice ao 0 cap, .slice qa 1 1] w fun e w' => e = .returned (.bool false) ∧ w' = w := by
  go_enter Try.func48, Try.ntmps48
  go_wp2_with fail
  go_ret
  exact ⟨rfl, rfl⟩

set_option maxHeartbeats 400000 in
theorem cut39_short (ao qa : Option Addr) (cap : Nat) (w : World) :
    Calls Try.prog 39 #[.slice ao 0 cap, .slice qa 1 1] w fun e w' => e = .returned (.tuple #[.slice ao 0 cap, .bool false]) ∧ w' = w := by
  go_enter Try.func39, Try.ntmps39
  go_wp2_with fail
  refine (has48_short _ _ _ _).mono ?_
  rintro e w' ⟨rfl, rfl⟩
  go_wp2
  go_ret2
  exact ⟨rfl, rfl⟩

set_option maxHeartbeats 400000 in
theorem cut39_yes (b off M cap sb : Nat) (c : UInt8) (w : World) (hM : M ≤ 65536) (hcap : M + 1 ≤ cap) (hc : w.cell? ⟨b, off + M, none⟩ = some (.int .u8 (c.toNat : Int))) (hs : w.cell? ⟨sb, 0, none⟩ = some (.int .u8 10)) (hr : (c == 10) = true) :
    Calls Try.prog 39 #[.slice (some ⟨b, off, none⟩) (M + 1) cap, .slice (some ⟨sb, 0, none⟩) 1 1] w fun e w' => e = .returned (.tuple #[.slice (some ⟨b, off, none⟩) M cap, .bool true]) ∧ w' = w := by
  have hmc : (M : Int) ≤ (cap : Int) := by omega
  go_enter Try.func39, Try.ntmps39
  go_wp2_with fail
  refine (has48 _ _ _ _ _ _ _ _ hM hcap hc hs hr).mono ?_
  rintro e w' ⟨rfl, rfl⟩
  go_wp2
  go_ret2
  exact ⟨rfl, rfl⟩

set_option maxHeartbeats 400000 in
theorem cut39_no (b off M cap sb : Nat) (c : UInt8) (w : World) (hM : M ≤ 65536) (hcap : M + 1 ≤ cap) (hc : w.cell? ⟨b, off + M, none⟩ = some (.int .u8 (c.toNat : Int))) (hs : w.cell? ⟨sb, 0, none⟩ = some (.int .u8 10)) (hr : (c == 10) = false) :
    Calls Try.prog 39 #[.slice (some ⟨b, off, none⟩) (M + 1) cap, .slice (some ⟨sb, 0, none⟩) 1 1] w fun e w' => e = .returned (.tuple #[.slice (some ⟨b, off, none⟩) (M + 1) cap, .bool false]) ∧ w' = w := by
  go_enter Try.func39, Try.ntmps39
  go_wp2_with fail
  refine (has48 _ _ _ _ _ _ _ _ hM hcap hc hs hr).mono ?_
  rintro e w' ⟨rfl, rfl⟩
  go_wp2
  go_ret2
  exact ⟨rfl, rfl⟩

/-- What CutSuffix answers. -/
def CutTo (w : World) (zb : Nat → UInt8) (N : Nat) (e : Ending) : Prop :=
  ∃ bo n bc, e = .returned (.tuple #[.slice bo n bc, .bool (decide (n < N))]) ∧ BodyLen (nums zb) N n ∧ BodyIn w bo n bc zb

theorem byte_ten (c : UInt8) : ((c.toNat : Nat) : Int) = 10 ↔ c = 10 := by
  constructor
  · intro h
    have h' : c.toNat = 10 := by omega
    exact UInt8.toNat_inj.1 h'
  · rintro rfl; rfl

theorem cut39 (ao : Option Addr) (N sb : Nat) (zb : Nat → UInt8) (w0 w : World) (hN : N ≤ 65536) (ha : RowAt .u8 w0 ao N (nums zb)) (hb : Below w0.heap.size w0 w) (hs : w.cell? ⟨sb, 0, none⟩ = some (.int .u8 10)) :
    Calls Try.prog 39 #[.slice ao N N, .slice (some ⟨sb, 0, none⟩) 1 1] w fun e w' => CutTo w0 zb N e ∧ w' = w := by
  cases N with
  | zero =>
    refine (cut39_short _ _ _ _).mono ?_
    rintro e w' ⟨rfl, rfl⟩
    refine ⟨⟨ao, 0, 0, rfl, Or.inl ⟨rfl, fun h => absurd h.1 (Nat.lt_irrefl _)⟩, Nat.le_refl _, ?_⟩, rfl⟩
    cases ao with
    | none => exact Or.inl ⟨rfl, rfl⟩
    | some a => exact Or.inr ⟨a, rfl, fun j hj => absurd hj (Nat.not_lt_zero _)⟩
  | succ M =>
    obtain ⟨b, off, rfl, hc⟩ := ha.addr (Nat.succ_pos M)
    have hcell : ∀ j, j < M + 1 → w0.cell? (Addr.add ⟨b, off, none⟩ j) = some (.int .u8 ((zb j).toNat : Int)) := fun j hj => by
      rw [show Addr.add ⟨b, off, none⟩ j = ⟨b, off + j, none⟩ by unfold Addr.add; split <;> simp [*]]
      exact hc j hj
    have hM := hc M (by omega)
    have hM' : w.cell? ⟨b, off + M, none⟩ = some (.int .u8 ((zb M).toNat : Int)) := (hb.cell (p := ⟨b, off + M, none⟩) (World.block_lt_of_cell? _ _ hM)).trans hM
    by_cases h10 : zb M = 10
    · refine (cut39_yes b off M (M + 1) sb (zb M) w (by omega) (by omega) hM' hs (by simp [h10])).mono ?_
      rintro e w' ⟨rfl, rfl⟩
      refine ⟨⟨_, M, M + 1, ?_, Or.inr ⟨by omega, (byte_ten _).2 h10, rfl⟩, by omega, Or.inr ⟨_, rfl, fun j hj => hcell j (by omega)⟩⟩, rfl⟩
      rw [decide_eq_true (by omega)]
    · refine (cut39_no b off M (M + 1) sb (zb M) w (by omega) (by omega) hM' hs (by simp [h10])).mono ?_
      rintro e w' ⟨rfl, rfl⟩
      refine ⟨⟨_, M + 1, M + 1, ?_, Or.inl ⟨rfl, fun h => h10 ((byte_ten _).1 h.2)⟩, by omega, Or.inr ⟨_, rfl, fun j hj => hcell j hj⟩⟩, rfl⟩
      rw [decide_eq_false (by omega)]

end Go.Proofs.Qxb6602024a
