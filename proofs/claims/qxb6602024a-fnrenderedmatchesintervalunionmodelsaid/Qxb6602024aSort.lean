/-
  slices.SortFunc at []span, by the shelf's contract (its laying as the kit's tool prints it in plain words), and the closure.
-/
import Derived.Test.Qxb6602024aBase
import Derived.Shelf.SlSortCmp.WholeK
namespace Go.Proofs.Qxb6602024a
open Go.Shelf Go.RowKit

def sortRen : Go.Shelf.Ren := ⟨fun | 6 => 40 | 15 => 50 | 14 => 49 | 28 => 61 | 29 => 62 | 20 => 53 | 21 => 54 | 22 => 55 | 23 => 56 | 24 => 57 | 25 => 58 | 26 => 59 | 27 => 60 | 46 => 64 | 47 => 65 | 48 => 66 | 49 => 67 | 50 => 68 | 57 => 69 | n => n, fun | 22 => 42 | 24 => 44 | 25 => 52 | 3 => 3 | 39 => 68 | 0 => 0 | 53 => 78 | 55 => 80 | 4 => 4 | 46 => 72 | 45 => 71 | 50 => 28 | 5 => 5 | 9 => 9 | 66 => 83 | 70 => 87 | 76 => 89 | 77 => 90 | n => n, fun | n => n⟩
theorem sortLays : SlLaysF0.n6 Try.prog sortRen := {
  mixed := by kernel_rfl
  f6 := ⟨Try.f40.name, by decide, Try.func40.trans (congrArg some (by kernel_rfl))⟩
  f14 := ⟨Try.f49.name, by decide, Try.func49.trans (congrArg some (by kernel_rfl))⟩
  f15 := Try.func50.trans (congrArg some (by kernel_rfl))
  f20 := ⟨Try.f53.name, by decide, Try.func53.trans (congrArg some (by kernel_rfl))⟩
  f21 := ⟨Try.f54.name, by decide, Try.func54.trans (congrArg some (by kernel_rfl))⟩
  f22 := ⟨Try.f55.name, by decide, Try.func55.trans (congrArg some (by kernel_rfl))⟩
  f23 := ⟨Try.f56.name, by decide, Try.func56.trans (congrArg some (by kernel_rfl))⟩
  f24 := ⟨Try.f57.name, by decide, Try.func57.trans (congrArg some (by kernel_rfl))⟩
  f25 := ⟨Try.f58.name, by decide, Try.func58.trans (congrArg some (by kernel_rfl))⟩
  f26 := ⟨Try.f59.name, by decide, Try.func59.trans (congrArg some (by kernel_rfl))⟩
  f27 := ⟨Try.f60.name, by decide, Try.func60.trans (congrArg some (by kernel_rfl))⟩
  f28 := Try.func61.trans (congrArg some (by kernel_rfl))
  f29 := Try.func62.trans (congrArg some (by kernel_rfl))
  f46 := ⟨Try.f64.name, by decide, Try.func64.trans (congrArg some (by kernel_rfl))⟩
  f47 := Try.func65.trans (congrArg some (by kernel_rfl))
  f48 := Try.func66.trans (congrArg some (by kernel_rfl))
  f49 := ⟨Try.f67.name, by decide, Try.func67.trans (congrArg some (by kernel_rfl))⟩
  f50 := ⟨Try.f68.name, by decide, Try.func68.trans (congrArg some (by kernel_rfl))⟩
  f57 := ⟨Try.f69.name, by decide, Try.func69.trans (congrArg some (by kernel_rfl))⟩
  t0 := Try.underlying0
  a0 := Try.isAgg0
  z0 := Try.sizeOf0
  v0 := Try.zeroValue0
  t3 := Try.underlying3
  a3 := Try.isAgg3
  z3 := Try.sizeOf3
  v3 := Try.zeroValue3
  t4 := Try.underlying4
  a4 := Try.isAgg4
  z4 := Try.sizeOf4
  v4 := Try.zeroValue4
  t5 := Try.underlying5
  a5 := Try.isAgg5
  z5 := Try.sizeOf5
  v5 := Try.zeroValue5
  t9 := Try.underlying9
  a9 := Try.isAgg9
  z9 := Try.sizeOf9
  v9 := Try.zeroValue9
  t22 := Try.underlying42
  a22 := Try.isAgg42
  z22 := Try.sizeOf42
  v22 := Try.zeroValue42
  t25 := Try.underlying52
  a25 := Try.isAgg52
  z25 := Try.sizeOf52
  v25 := Try.zeroValue52
  t39 := Try.underlying68
  a39 := Try.isAgg68
  z39 := Try.sizeOf68
  v39 := Try.zeroValue68
  t45 := Try.underlying71
  a45 := Try.isAgg71
  z45 := Try.sizeOf71
  v45 := Try.zeroValue71
  t46 := Try.underlying72
  a46 := Try.isAgg72
  z46 := Try.sizeOf72
  v46 := Try.zeroValue72
  t50 := Try.underlying28
  a50 := Try.isAgg28
  z50 := Try.sizeOf28
  v50 := Try.zeroValue28
  t53 := Try.underlying78
  a53 := Try.isAgg78
  z53 := Try.sizeOf78
  v53 := Try.zeroValue78
  t55 := Try.underlying80
  a55 := Try.isAgg80
  z55 := Try.sizeOf80
  v55 := Try.zeroValue80
  t66 := Try.underlying83
  a66 := Try.isAgg83
  z66 := Try.sizeOf83
  v66 := Try.zeroValue83
  t70 := Try.underlying87
  a70 := Try.isAgg87
  z70 := Try.sizeOf87
  v70 := Try.zeroValue87
  t76 := Try.underlying89
  a76 := Try.isAgg89
  z76 := Try.sizeOf89
  v76 := Try.zeroValue89
  t77 := Try.underlying90
  a77 := Try.isAgg90
  z77 := Try.sizeOf90
  v77 := Try.zeroValue90 }

/-- m spans of two cells each at block blk. -/
def SpansAt (w : World) (blk m : Nat) (f : Nat → Nat × Nat) : Prop :=
  ∀ i, i < m → (w.cell? ⟨blk, 2 * i, none⟩ = some (.int .i64 ((f i).1 : Int)) ∧ w.cell? ⟨blk, 2 * i + 1, none⟩ = some (.int .i64 ((f i).2 : Int))) ∧ w.frozen? ⟨blk, 2 * i, none⟩ = false ∧ w.frozen? ⟨blk, 2 * i + 1, none⟩ = false

abbrev Sp := Fin 65537 × Fin 65537
def encS (x : Sp) : List Value := [.int .i64 (x.1.val : Int), .int .i64 (x.2.val : Int)]
def cfS (x y : Sp) : Int := (x.1.val : Int) - (y.1.val : Int)

theorem ltS (x y : Sp) : ltOf cfS x y = decide (x.1.val < y.1.val) := by
  unfold ltOf cfS
  by_cases h : x.1.val < y.1.val
  · rw [decide_eq_true h, decide_eq_true (by omega)]
  · rw [decide_eq_false h, decide_eq_false (by omega)]

theorem swoS : Sort.SWO (ltOf cfS) := ⟨fun x => by rw [ltS]; simp, fun x y z h1 h2 => by
  rw [ltS] at *
  simp only [decide_eq_true_eq] at *
  omega, fun x y z h1 h2 => by
  rw [ltS] at *
  simp only [decide_eq_false_iff_not] at *
  omega⟩

set_option maxHeartbeats 400000 in
/-- The closure: 'a.start - b.start'; its two parameters are boxed. -/
theorem closure41 (a b c d : Int) (W : World) (ha : 0 ≤ a ∧ a ≤ 65536) (hc : 0 ≤ c ∧ c ≤ 65536) :
    Calls Try.prog 41 #[.agg #[.int .i64 a, .int .i64 b], .agg #[.int .i64 c, .int .i64 d]] W fun e w' => e = .returned (.int .i64 (a - c)) ∧ ∃ q os', w' = Sort.grow (W.drewN q) os' := by
  obtain ⟨ha0, ha1⟩ := ha
  obtain ⟨hc0, hc1⟩ := hc
  go_enter Try.func41, Try.ntmps41
  go_wp2
  go_ret
  exact ⟨rfl, 0, _, by rw [Sort.alloc_eq_grow, Sort.alloc_eq_grow, Sort.grow_grow]; rfl⟩

theorem cmpS (blk size : Nat) (w : World) : CmpLays Try.prog 41 #[] encS 2 cfS blk 0 size w := fun _ _ _ _ x y =>
  closure41 (x.1.val : Int) (x.2.val : Int) (y.1.val : Int) (y.2.val : Int) _ (by have := x.1.isLt; omega) (by have := y.1.isLt; omega)

def arrS (m : Nat) (f : Nat → Nat × Nat) : Array Sp := (Array.range m).map fun i => (Fin.ofNat 65537 (f i).1, Fin.ofNat 65537 (f i).2)

theorem arrS_size (m : Nat) (f : Nat → Nat × Nat) : (arrS m f).size = m := by simp [arrS]
theorem arrS_get (m : Nat) (f : Nat → Nat × Nat) (i : Nat) (hi : i < m) : (arrS m f)[i]! = (Fin.ofNat 65537 (f i).1, Fin.ofNat 65537 (f i).2) := by
  rw [getElem!_pos _ i (by rw [arrS_size]; exact hi)]
  simp [arrS]

def SortedAs (w : World) (blk m : Nat) (f : Nat → Nat × Nat) (w' : World) : Prop :=
  ∃ f' : Nat → Nat × Nat, SpansAt w' blk m f' ∧ (∀ x, (∃ i, i < m ∧ f' i = x) ↔ ∃ i, i < m ∧ f i = x) ∧ (∀ i j, i < j → j < m → (f' i).1 ≤ (f' j).1) ∧ w.grownBy w' (some blk)

theorem holdsS {w : World} {blk m : Nat} {f : Nat → Nat × Nat} (hf : ∀ i, i < m → (f i).1 ≤ 65536 ∧ (f i).2 ≤ 65536) (hS : SpansAt w blk m f) : Sort.HoldsK encS 2 w blk 0 (arrS m f) := fun j hj => by
  rw [Sort.size_flatK, arrS_size] at hj
  have hd : j / 2 < m := by omega
  obtain ⟨⟨h1, h2⟩, h3, h4⟩ := hS (j / 2) hd
  obtain ⟨b1, b2⟩ := hf (j / 2) hd
  rw [Sort.get_flatK _ _ _ _ (by rw [arrS_size]; exact hj), arrS_get m f _ hd, Nat.zero_add]
  have e1 : (Fin.ofNat 65537 (f (j / 2)).1).val = (f (j / 2)).1 := by simp [Fin.ofNat]; omega
  have e2 : (Fin.ofNat 65537 (f (j / 2)).2).val = (f (j / 2)).2 := by simp [Fin.ofNat]; omega
  by_cases hp : j % 2 = 0
  · rw [hp]
    have ej : 2 * (j / 2) = j := by omega
    rw [ej] at h1 h3
    refine ⟨?_, h3⟩
    rw [h1]
    simp only [encS, id, e1]
    rfl
  · have hp1 : j % 2 = 1 := by omega
    rw [hp1]
    have ej : 2 * (j / 2) + 1 = j := by omega
    rw [ej] at h2 h4
    refine ⟨?_, h4⟩
    rw [h2]
    simp only [encS, id, e2]
    rfl

theorem grownS (w : World) (blk n : Nat) (d : Array Sp) (os : Array Obj) : w.grownBy (sortWorldK encS 2 w blk 0 n d os) (some blk) := by
  refine ⟨rfl, rfl, rfl, ?_, fun k hk hne => ?_⟩
  · unfold sortWorldK Sort.putRowK Sort.putRow Sort.mapBlock
    rw [Sort.size_grow]
    simp only [Array.size_modify]
    show w.heap.size ≤ w.heap.size + os.size
    omega
  · unfold sortWorldK Sort.putRowK Sort.putRow Sort.mapBlock
    rw [Sort.heap_grow_old _ _ (by simp only [Array.size_modify]; exact hk)]
    simp only [Array.getElem?_modify]
    rw [if_neg (fun e => hne (by rw [e]))]
    rfl

theorem memS (d : Array Sp) (m : Nat) (hd : d.size = m) (x : Nat × Nat) : (∃ i, i < m ∧ (d[i]!.1.val, d[i]!.2.val) = x) ↔ ∃ y, y ∈ d.toList ∧ (y.1.val, y.2.val) = x := by
  subst hd
  constructor
  · rintro ⟨i, hi, e⟩
    rw [getElem!_pos d i hi] at e
    exact ⟨d[i], by simp, e⟩
  · rintro ⟨y, hy, e⟩
    obtain ⟨i, hi, rfl⟩ := List.mem_iff_getElem.1 hy
    have hi' : i < d.size := by simpa using hi
    refine ⟨i, hi', ?_⟩
    rw [getElem!_pos d i hi']
    simpa using e

set_option maxHeartbeats 400000 in
theorem sort40 (blk m cap : Nat) (f : Nat → Nat × Nat) (w : World) (hf : ∀ i, i < m → (f i).1 ≤ 65536 ∧ (f i).2 ≤ 65536) (hS : SpansAt w blk m f) (hm : m ≤ 65536) (hblk : blk < w.heap.size) :
    Calls Try.prog 40 #[.slice (some ⟨blk, 0, none⟩) m cap, .func (.func 41) #[] #[]] w fun e w' => e = .returned (.tuple #[]) ∧ SortedAs w blk m f w' := by
  have eg : ∀ args w, (callFunc 41 args).run Try.prog w = .ok (.enter 41 args) w := enters_of Try.func41 (by kernel_rfl) rfl
  have hH := holdsS hf hS
  have hcon := AnyQ.slices_SortFunc sortLays 2 Try.isAgg44 Try.sizeOf44 encS (fun _ => rfl) (fun x v hv => by simp [encS] at hv; rcases hv with rfl | rfl <;> rfl) cfS swoS 41 #[] blk 0 cap (arrS m f) w eg (cmpS blk _ w) hH hblk (by rw [arrS_size]; omega)
  rw [arrS_size] at hcon
  refine hcon.mono ?_
  rintro e w' ⟨rfl, d', n, os, hp, hs, rfl⟩
  have hd : d'.size = m := hp.1.trans (arrS_size m f)
  have hH2 : Sort.HoldsK encS 2 (sortWorldK encS 2 w blk 0 n d' os) blk 0 d' := by
    refine Sort.holdsK_grow encS 2 _ os blk 0 d' ?_ (Sort.holdsK_putRowK encS 2 (Sort.ahead w n) blk 0 (arrS m f) d' hH (by rw [hd, arrS_size]))
    unfold Sort.putRowK Sort.putRow Sort.mapBlock
    simp only [Array.size_modify]
    exact hblk
  refine ⟨rfl, fun i => (d'[i]!.1.val, d'[i]!.2.val), fun i hi => ?_, fun x => ?_, fun i j hij hj => ?_, grownS w blk n d' os⟩
  · obtain ⟨a1, a2⟩ := hH2.cell (i := i) (c := 0) (by omega) (by omega)
    obtain ⟨b1, b2⟩ := hH2.cell (i := i) (c := 1) (by omega) (by omega)
    rw [show 0 + i * 2 + 0 = 2 * i by omega] at a1 a2
    rw [show 0 + i * 2 + 1 = 2 * i + 1 by omega] at b1 b2
    exact ⟨⟨a1, b1⟩, a2, b2⟩
  · have hperm : d'.toList.Perm (arrS m f).toList := by
      have h := hp.2.2
      rw [show d'.extract 0 m = d' by rw [← hd]; simp, show (arrS m f).extract 0 m = arrS m f by simp [arrS_size]] at h
      exact h
    have hfx : (∃ i, i < m ∧ f i = x) ↔ ∃ i, i < m ∧ ((arrS m f)[i]!.1.val, (arrS m f)[i]!.2.val) = x := by
      constructor
      all_goals
        rintro ⟨i, hi, e⟩
        refine ⟨i, hi, ?_⟩
        have hb := hf i hi
        rw [arrS_get m f i hi] at *
        rw [← e]
        simp only [Fin.ofNat]
        ext
        · simp; omega
        · simp; omega
    rw [hfx, memS (arrS m f) m (arrS_size m f), memS d' m hd]
    constructor
    · rintro ⟨y, hy, e⟩; exact ⟨y, hperm.mem_iff.1 hy, e⟩
    · rintro ⟨y, hy, e⟩; exact ⟨y, hperm.mem_iff.2 hy, e⟩
  · have h := hs i j (Nat.zero_le _) hij hj
    rw [ltS] at h
    simp only [decide_eq_false_iff_not] at h
    show d'[i]!.1.val ≤ d'[j]!.1.val
    omega

end Go.Proofs.Qxb6602024a
