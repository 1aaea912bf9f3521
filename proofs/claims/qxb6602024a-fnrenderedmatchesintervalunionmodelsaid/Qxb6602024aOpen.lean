/-
  From the form's reading of a slice of integers to what the laws' walks are told.
-/
import Derived.Test.Qxb6602024aBase
import Derived.ProofKit
import Derived.OpenShut
import Derived.ShutString
import Derived.ChangeOld
namespace Go.Proofs.Qxb6602024a
open Go.ChangeShapes Go.WideShapes Go.ChangeAt Go.RowKit Go.Deep

theorem own : ownKnob Try.prog.godebug = none := by kernel_rfl
theorem laidOut : laidOutB Try.prog = true := by kernel_rfl
theorem Try.cells3 : Try.prog.cellsOf 3 = 1 := by kernel_rfl
theorem Try.cells5 : Try.prog.cellsOf 5 = 1 := by kernel_rfl

theorem rowIn_of {H : Type} {enc : TypeId × Value → H} {W : World} {base fuel : Nat} {held : Bool} {ao : Option Addr} {n cap : Nat} {x : DataW H × List MemPlace} {t e : TypeId} {k : IntKind}
    (ht : Try.prog.underlying t = some (.slice e)) (he : Try.prog.underlying e = some (.int k)) (ce : Try.prog.cellsOf e = 1)
    (h : DataW.trod enc Try.prog W base (fun _ => true) held fuel t [.slice ao n cap] = some x) : ∃ z, RowIn k W ao n cap z := by
  rcases open_ints ht he ce h with ⟨hcs, _⟩ | ⟨a, l, c, zs, hcs, _, hl, hm, hz, _, hcell, hwz⟩
  · simp at hcs
    obtain ⟨rfl, rfl, rfl⟩ := hcs
    exact ⟨fun _ => 0, fun k hk => absurd hk (Nat.not_lt_zero _), Nat.zero_le _, fun _ => ⟨rfl, rfl⟩, fun k hk => absurd hk (Nat.not_lt_zero _)⟩
  · simp at hcs
    obtain ⟨rfl, rfl, rfl⟩ := hcs
    simp only [if_true] at hz
    refine ⟨fun j => zs.getD j 0, fun j hj => ?_, by omega, fun h => by (cases h), fun j hj => hwz _ (by
      have hlt : j < zs.length := by omega
      simp [List.getD, hlt])⟩
    have h8 := hcell j (by omega)
    have h9 := hcell 0 (by omega)
    obtain ⟨b, off, spot⟩ := a
    have hspot : spot = none := by simpa [Addr.add] using World.cell?_spot h9
    subst hspot
    exact ⟨b, off, rfl, by rw [← add_plain]; exact h8⟩

end Go.Proofs.Qxb6602024a
