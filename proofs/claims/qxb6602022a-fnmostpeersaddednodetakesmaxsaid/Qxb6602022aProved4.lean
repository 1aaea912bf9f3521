/-
  'Rows.FnMostPeersAddedNodeTakesMaxSaid', proved: the row's step round the walk 'law4'.
-/
import Derived.Test.Qxb6602022aOpen
import Derived.Test.Qxb6602022aLaw4
namespace Go.Proofs.Qxb6602022a
open Go.ChangeShapes Go.WideShapes Go.ChangeAt Go.RowKit Go.Deep
set_option linter.unusedVariables false

theorem rowIn_of {H : Type} {enc : TypeId × Value → H} {W : World} {base fuel : Nat} {held : Bool} {ao : Option Addr} {n cap : Nat} {x : DataW H × List MemPlace}
    (h : DataW.trod enc Try.prog W base (fun _ => true) held fuel 28 [.slice ao n cap] = some x) : ∃ z, RowIn W ao n cap z := by
  rcases open_ints Try.underlying28 Try.underlying3 Try.cells3 h with ⟨hcs, _⟩ | ⟨a, l, c, zs, hcs, _, hl, hm, hz, _, hcell, hwz⟩
  · simp at hcs
    obtain ⟨rfl, rfl, rfl⟩ := hcs
    exact ⟨fun _ => 0, fun k hk => absurd hk (Nat.not_lt_zero _), Nat.zero_le _, fun _ => ⟨rfl, rfl⟩⟩
  · simp at hcs
    obtain ⟨rfl, rfl, rfl⟩ := hcs
    simp only [if_true] at hz
    refine ⟨fun j => zs.getD j 0, fun j hj => ?_, by omega, fun h => by (cases h)⟩
    have h8 := hcell j (by omega)
    have h9 := hcell 0 (by omega)
    obtain ⟨b, off, spot⟩ := a
    have hspot : spot = none := by simpa [Addr.add] using World.cell?_spot h9
    subst hspot
    exact ⟨b, off, rfl, by rw [← add_plain]; exact h8⟩

set_option maxRecDepth 100000 in
theorem lifted4 (os : Os) (started : os.Started) (H : Type) (enc : TypeId × Value → H) :
    ReturnsInHanded {} Try.checked os 4 .any (Rows.fnMostPeersAddedNodeTakesMaxSpec.pre6 enc Try.prog Try.f4 Rows.fnMostPeersAddedNodeTakesMaxRow.domain false) (Rows.fnMostPeersAddedNodeTakesMaxSpec.post enc Try.prog Try.f4 false true false false) := by
  refine returnsInHanded_of_change (C := Try.checked) own started (by kernel_rfl) Try.func4
    (ChangeSpec.witness6 (enc := enc) (C := Try.checked) false ⟨#[], #[.slice none 0 0, .slice none 0 0], []⟩ 8 (by kernel_rfl) (by kernel_rfl) (by kernel_rfl) (by kernel_rfl)) ?_
  intro W base args ds gs before hval0 hW hcnd _
  have hval : ∀ (j : Nat) t v, Try.f4.params[j]? = some t → args[j]? = some v → Value.okWide Try.prog W .any base t v := hval0
  have hW' := hW
  obtain ⟨p, q, hA0, hV, rfl, hfz, hnd⟩ := hW
  have hA : DataW.TrodAll enc Try.prog W 0 (fun _ => true) true Try.f4.params.toList args.toList ds p := hA0
  rw [Try.params4] at hA hval
  obtain ⟨v0, vs0, d0, ds0, p0, q0, hargs, rfl, rfl, h0, r0⟩ := trodAll_cons hA
  obtain ⟨v1, vs1, d1, ds1, p1, q1, rfl, rfl, rfl, h1, r1⟩ := trodAll_cons r0
  obtain ⟨rfl, rfl, rfl⟩ := trodAll_nil r1
  obtain rfl : args = #[v0, v1] := by cases args; simp_all
  obtain ⟨rfl, rfl⟩ := trodVars_none hV
  obtain ⟨a0, len0, cap0, rfl⟩ := okWide_slice Try.underlying22 (hval 0 22 v0 rfl rfl)
  obtain ⟨a1, len1, cap1, rfl⟩ := okWide_slice Try.underlying28 (hval 1 28 v1 rfl rfl)
  have k0 := h0
  have k1 := h1
  have lt0 : ∀ x ∈ p0, x.block < W.heap.size := by obtain ⟨m, hm⟩ := k0; exact DataW.trod_lt m _ _ _ hm
  have lt1 : ∀ x ∈ p1, x.block < W.heap.size := by obtain ⟨m, hm⟩ := k1; exact DataW.trod_lt m _ _ _ hm
  obtain ⟨A, L, C, Z, hin⟩ : ∃ A L C Z, MatIn W a0 len0 cap0 A L C Z := by
    obtain ⟨fuel, hf⟩ := h0
    exact matIn_of hf
  obtain ⟨z, hz⟩ : ∃ z, RowIn W a1 len1 cap1 z := by
    obtain ⟨fuel, hf⟩ := h1
    exact rowIn_of hf
  clear hA0 hval0
  refine (law4 a0 len0 cap0 A L C Z a1 len1 cap1 z W hin hz).mono fun e W' ⟨he, bel⟩ => ?_
  subst he
  exact ⟨_, rfl, _, _, _, [], _, [], hW', trodAll_mk1 (shut_bool Try.underlying4 _), (trodAll_cons_mk (Below.trod laidOut (by kernel_rfl) (of_decide_eq_true (by kernel_rfl)) k0 bel lt0) (trodAll_cons_mk (Below.trod laidOut (by kernel_rfl) (of_decide_eq_true (by kernel_rfl)) k1 bel lt1) trodAll_mk0)), rfl, bel.frame _, fun h => by cases h⟩

theorem over4 : Rows.fnMostPeersAddedNodeTakesMaxRow.holds Try.pinned (OpenSpec.ofChange Rows.fnMostPeersAddedNodeTakesMaxSpec) :=
  OpenClaim.holds_of_wide 4 Try.f4 rfl rfl rfl rfl rfl rfl rfl ⟨rfl, rfl, rfl, rfl, rfl⟩ rfl rfl rfl rfl rfl (by kernel_rfl) Try.func4 (by kernel_rfl)
    (of_decide_eq_true (by kernel_rfl)) (by unfold Func.isWrapper; first | (rw [if_pos (by decide +kernel)]; kernel_rfl) | (rw [if_neg (by decide +kernel)]; exact ⟨rfl, rfl⟩))
    (fun os started H enc _ => lifted4 os started H enc)

theorem proved4 : Rows.FnMostPeersAddedNodeTakesMaxSaid := over4
end Go.Proofs.Qxb6602022a
