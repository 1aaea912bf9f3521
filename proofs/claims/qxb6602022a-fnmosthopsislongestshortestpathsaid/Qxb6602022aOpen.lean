/-
  From the form's reading of a [][]int argument to what the laws' walks are told.
-/
import Derived.Test.Qxb6602022aLaw3
import Derived.ProofKit
import Derived.OpenShut
import Derived.ShutString
import Derived.ChangeOld
import Derived.Deep.Matrix
namespace Go.Proofs.Qxb6602022a
open Go.ChangeShapes Go.WideShapes Go.ChangeAt Go.RowKit Go.Deep

theorem own : ownKnob Try.prog.godebug = none := by kernel_rfl
theorem laidOut : laidOutB Try.prog = true := by kernel_rfl
theorem Try.cells28 : Try.prog.cellsOf 28 = 1 := by kernel_rfl
theorem Try.cells3 : Try.prog.cellsOf 3 = 1 := by kernel_rfl

theorem matIn_of {H : Type} {enc : TypeId × Value → H} {W : World} {base fuel : Nat} {held : Bool} {ao : Option Addr} {n cap : Nat} {x : DataW H × List MemPlace}
    (h : DataW.trod enc Try.prog W base (fun _ => true) held fuel 22 [.slice ao n cap] = some x) : ∃ A L C Z, MatIn W ao n cap A L C Z := by
  rcases open_int_rows Try.underlying22 Try.underlying28 Try.underlying3 Try.cells28 Try.cells3 h with ⟨hcs, _⟩ | ⟨a, len, cap', A, L, C, Z, hcs, _, hl, hm, _, hr⟩
  · simp at hcs
    obtain ⟨rfl, rfl, rfl⟩ := hcs
    exact ⟨fun _ => none, fun _ => 0, fun _ => 0, fun _ _ => 0, ⟨fun k hk => absurd hk (Nat.not_lt_zero _), fun k hk => absurd hk (Nat.not_lt_zero _)⟩, Nat.zero_le _, fun k hk => absurd hk (Nat.not_lt_zero _), fun _ => ⟨rfl, rfl⟩, fun k hk => absurd hk (Nat.not_lt_zero _)⟩
  · simp at hcs
    obtain ⟨rfl, rfl, rfl⟩ := hcs
    refine ⟨A, L, C, fun k j => (Z k).getD j 0, ⟨fun k hk => ?_, fun k hk j hj => ?_⟩, by omega, fun k hk => ?_, fun h => by (cases h), fun k hk e => ?_⟩
    · obtain ⟨h1, _⟩ := hr k (by omega)
      obtain ⟨b, off, spot⟩ := a
      have hspot : spot = none := by simpa [Addr.add] using World.cell?_spot (hr 0 (by omega)).1
      subst hspot
      exact ⟨b, off, rfl, by rw [← add_plain]; exact h1⟩
    · obtain ⟨_, h2, _, _, _, h6, h7⟩ := hr k (by omega)
      cases hA : A k with
      | none => have := h6 hA; omega
      | some a' =>
        have h8 := (h7 a' hA).2 j (by omega)
        have h9 := (h7 a' hA).2 0 (by omega)
        obtain ⟨b, off, spot⟩ := a'
        have hspot : spot = none := by simpa [Addr.add] using World.cell?_spot h9
        subst hspot
        exact ⟨b, off, rfl, by rw [← add_plain]; exact h8⟩
    · obtain ⟨_, h2, h3, _⟩ := hr k (by omega)
      omega
    · obtain ⟨_, h2, _, _, _, h6, _⟩ := hr k (by omega)
      have := h6 e
      omega

end Go.Proofs.Qxb6602022a
