/-
  The walk of FnMostHopsIsLongestShortestPath.
-/
import Derived.Test.Qxb6602022aRange
import Derived.Test.Qxb6602022aLaw3
import Derived.Test.Qxb6602022aFloyd
import Derived.Deep.QuietTactic
import Derived.BigQuiet
namespace Go.Proofs.Qxb6602022a
open Go.RowKit Go.Deep Gr

/-- The matrix of distances as it lies in the call's own row. -/
structure MatSt (w wr : World) (n : Nat) (g : Nat → Int) : Prop where
  below : Below w.heap.size w wr
  row : wr.rowIs w.heap.size 3 (n * n) (hrow g)

theorem MatSt.start (w : World) (n : Nat) : MatSt w (w.alloc (.cells (madeCells #[.int .i64 0] (n * n)) 3)) n (fun _ => 0) :=
  ⟨(Below.refl _ _).alloc (Nat.le_refl _) _, World.rowIs_made w (.int .i64 0) (n * n) 3⟩

theorem MatSt.set {w wr : World} {n : Nat} {g : Nat → Int} (h : MatSt w wr n g) (p : Nat) (x : Int) : MatSt w (wr.setCell ⟨w.heap.size, p, none⟩ (.int .i64 x)) n (updI g p x) :=
  ⟨h.below.setCell (Nat.le_refl _) _, (h.row.set p _).congr (fun i _ => hrow_upd g p x i)⟩

theorem MatSt.drewN {w wr : World} {n : Nat} {g : Nat → Int} (h : MatSt w wr n g) (k : Nat) : MatSt w (wr.drewN k) n g :=
  ⟨h.below.trans ⟨rfl, rfl, rfl, Nat.le_refl _, fun _ _ => rfl⟩, h.row.of_block rfl⟩

theorem flatI {n i j : Nat} (hn : n * n ≤ 65536) (hi : i < n) (hj : j < n) : 0 ≤ (i : Int) * (n : Int) ∧ (i : Int) * (n : Int) ≤ 65536 ∧ (i : Int) * (n : Int) + (j : Int) < (n : Int) * (n : Int) ∧ i * n + j < n * n := by
  have h := flat_lt hi hj
  refine ⟨?_, ?_, ?_, h⟩
  · rw [← Int.natCast_mul]; omega
  · rw [← Int.natCast_mul]; omega
  · rw [← Int.natCast_mul, ← Int.natCast_mul]; omega

set_option maxRecDepth 100000 in
set_option maxHeartbeats 2000000 in
theorem law5 (ao : Option Addr) (n cap : Nat) (A : Nat → Option Addr) (L C : Nat → Nat) (Z : Nat → Nat → Int) (w : World) (hin : MatIn w ao n cap A L C Z) :
    Calls Try.prog 5 #[.slice ao n cap] w fun e w' => TrueBelow w e w' := by
  have hn63 := hin.n_le
  unfold maxLen at hn63
  go_enter Try.func5, Try.ntmps5
  go_wp2_with fail
  refine (bytes14_any ao n cap A L C _ hin.n_le hin.L_le hin.mat.heads).mono ?_
  rintro e w' ⟨⟨t, rfl⟩, rfl⟩
  cases t
  · go_wp2_with fail
    go_ret
    exact ⟨rfl, Below.refl _ _⟩
  go_wp2_with fail
  refine (size9_any ao n cap A L C _ hin.n_le hin.L_le hin.mat.heads).mono ?_
  rintro e w' ⟨⟨s, rfl, hs⟩, rfl⟩
  by_cases hs1 : 1048576 < s
  · go_wp2_with fail
    go_ret
    exact ⟨rfl, Below.refl _ _⟩
  have hs2 : decide (1048576 < s) = false := by simpa using hs1
  obtain ⟨hn, hL⟩ := hs.2.2 (by omega)
  by_cases hn1 : (256 : Int) < (n : Int)
  · go_wp2_with fail
    go_ret
    exact ⟨rfl, Below.refl _ _⟩
  have hn2 : decide ((256 : Int) < (n : Int)) = false := by simpa using hn1
  go_wp2_with fail
  refine (range15_any ao n cap A L C Z _ hn hL hin.mat).mono ?_
  rintro e w' ⟨⟨t, rfl, hR⟩, rfl⟩
  cases t
  · go_wp2_with fail
    go_ret
    exact ⟨rfl, Below.refl _ _⟩
  have hR' := hR rfl
  clear hR
  go_wp2_with fail
  refine (clone10_any ao n cap A L C Z _ hn hL hin.nil hin.nils hin.mat).mono ?_
  rintro e w1 ⟨ao', A', rfl, hM, hnl, hb⟩
  clear hnl hin hs hs2 hn2
  have hnn : n * n ≤ 65536 := Nat.mul_le_mul (show n ≤ 256 by omega) (show n ≤ 256 by omega)
  have hmk := run_make_row' (P := Try.prog) 28 3 (.int .i64 0) 8 Try.underlying28 Try.info3 rfl .i64 .i64 (n * n) (by omega) (by omega)
  rw [Int.natCast_mul] at hmk
  have hnn0 : (0 : Int) ≤ (n : Int) * (n : Int) := by rw [← Int.natCast_mul]; omega
  have hnn1 : (n : Int) * (n : Int) ≤ 65536 := by rw [← Int.natCast_mul]; omega
  go_wp2_with fail
  clear hmk
  go_loopw [6] (fun i wr => ∃ (k : Nat) (g : Nat → Int), k ≤ n * n ∧ i = .int .i64 k ∧ MatSt w1 wr n g ∧ Hid (∀ p, p < k → g p = n + 1)) (fun i _ => n * n - (intOf i).toNat)
  case atStart => exact ⟨0, _, Nat.zero_le _, rfl, MatSt.start w1 n, fun p hp => absurd hp (Nat.not_lt_zero _)⟩
  case round =>
    obtain ⟨k, g, hk, rfl, hS, hg⟩ := hrel
    by_cases hlt : k < n * n
    · have hlti : (k : Int) < (n : Int) * (n : Int) := by rw [← Int.natCast_mul]; omega
      have h1 := hS.row.cell hlt
      have h2 := hS.row.frozen k
      have HS : Hid (MatSt w1 (wr.setCell ⟨w1.heap.size, k, none⟩ (.int .i64 (n + 1))) n (updI g k (n + 1))) := hS.set k _
      have HG : Hid (∀ p, p < k + 1 → updI g k (n + 1) p = n + 1) := fun p hp => by
        by_cases e : p = k
        · subst e; exact updI_same g p _
        · rw [updI_other g _ e]; exact hg.out p (by omega)
      clear hS hg
      go_wp2
      go_roundw
      case rel => exact ⟨k + 1, _, by omega, by go_num, HS.out, HG⟩
      case measure => simp [intOf]; omega
    · have hlti : ¬ (k : Int) < (n : Int) * (n : Int) := by rw [← Int.natCast_mul]; omega
      obtain rfl : k = n * n := by omega
      go_wp2
      clear hlti hlt hk
      go_loopw [7] (fun i wr => ∃ (k : Nat) (g : Nat → Int), k ≤ n ∧ i = .int .i64 k ∧ MatSt w1 wr n g ∧ Hid (∀ a, a < k → g (a * n + a) = 0) ∧ Hid (∀ a b, a < n → b < n → a ≠ b → g (a * n + b) = n + 1)) (fun i _ => n - (intOf i).toNat)
      case atStart => exact ⟨0, g, Nat.zero_le _, rfl, hS, fun a ha => absurd ha (Nat.not_lt_zero _), fun a b ha hb _ => hg.out _ (flat_lt ha hb)⟩
      case round =>
        clear hS hg
        obtain ⟨k, g, hk, rfl, hS, hd, hg⟩ := hrel
        by_cases hlt : k < n
        · obtain ⟨f1, f2, f3, f4⟩ := flatI hnn hlt hlt
          have h1 := hS.row.cell f4
          have h2 := hS.row.frozen (k * n + k)
          have HS : Hid (MatSt w1 (wr.setCell ⟨w1.heap.size, k * n + k, none⟩ (.int .i64 0)) n (updI g (k * n + k) 0)) := hS.set _ _
          have HD : Hid (∀ a, a < k + 1 → updI g (k * n + k) 0 (a * n + a) = 0) := fun a ha => by
            by_cases e : a = k
            · subst e; exact updI_same g _ _
            · rw [updI_other g _ (fun e' => e (flat_inj (show a < n by omega) hlt e').1)]; exact hd.out a (by omega)
          have HG : Hid (∀ a b, a < n → b < n → a ≠ b → updI g (k * n + k) 0 (a * n + b) = n + 1) := fun a b ha hb hab => by
            rw [updI_other g _ (fun e' => by have := flat_inj hb hlt e'; omega)]; exact hg.out a b ha hb hab
          clear hS hg hd
          go_wp2
          go_roundw
          case rel => exact ⟨k + 1, _, by omega, by go_num, HS.out, HD, HG⟩
          case measure => simp [intOf]; omega
        · obtain rfl : n = k := by omega
          have HI : Hid (FwI n (Ed n L Z) 0 (fun _ => False) g) := FwI.start hd.out hg.out
          clear hd hg hlt hk
          go_wp2
          go_loopw [8, 9, 10] (fun i _ _ wr => ∃ (k : Nat) (g : Nat → Int), k ≤ n ∧ i = .int .i64 k ∧ MatSt w1 wr n g ∧ Hid (FwI n (Ed n L Z) k (fun _ => False) g)) (fun i _ _ _ => n - (intOf i).toNat)
          case atStart => exact ⟨0, g, Nat.zero_le _, rfl, hS, HI⟩
          case round =>
            clear hS HI
            obtain ⟨k, g, hk, rfl, hS, HI⟩ := hrel
            by_cases hlt : k < n
            · obtain ⟨b, off, rfl, hc⟩ := hM.heads k hlt
              obtain ⟨au, hau⟩ : ∃ au, au = A' k := ⟨_, rfl⟩
              obtain ⟨lu, hlu⟩ : ∃ lu, lu = L k := ⟨_, rfl⟩
              have h1 : wr.cell? ⟨b, off + k, none⟩ = some (.slice au lu lu) := by
                rw [hau, hlu]
                exact (hS.below.cell (p := ⟨b, off + k, none⟩) (World.block_lt_of_cell? _ _ hc)).trans hc
              have hI : Hid (IntsAt w1 au lu (Z k)) := by rw [hau, hlu]; exact hM.rows k hlt
              have h3 : lu ≤ 131072 := by rw [hlu]; exact hL k hlt
              have hHc : Hid (w1.cell? ⟨b, off + k, none⟩ = some (.slice au lu lu)) := by rw [hau, hlu]; exact hc
              have HL : Hid (lu = L k) := hlu
              clear hau hlu hc
              go_wp2
              clear h1
              go_loopw [9, 10] (fun i _ wr => ∃ (j : Nat) (g : Nat → Int), j ≤ lu ∧ i = .int .i64 j ∧ MatSt w1 wr n g ∧ Hid (FwI n (Ed n L Z) k (fun x => ∃ j', j' < j ∧ Z k j' = (x : Int)) g)) (fun i _ _ => lu - (intOf i).toNat)
              case atStart => exact ⟨0, g, Nat.zero_le _, rfl, hS, HI.out.less (fun a b _ _ hh => by
                rcases hh with h | ⟨_, j', hj', _⟩
                · exact Or.inl h
                · omega)⟩
              case round =>
                clear hS HI
                obtain ⟨j, g, hj, rfl, hS, HI⟩ := hrel
                have h1 : wr.cell? ⟨b, off + k, none⟩ = some (.slice au lu lu) := (hS.below.cell (p := ⟨b, off + k, none⟩) (World.block_lt_of_cell? _ _ hHc.out)).trans hHc.out
                by_cases hlj : j < lu
                · obtain ⟨b', off', rfl, hc⟩ := hI.out j hlj
                  obtain ⟨hz0, hz1⟩ := hR' k hlt j (by rw [← HL.out]; exact hlj)
                  obtain ⟨v, hv⟩ : ∃ v : Nat, Z k j = (v : Int) := ⟨(Z k j).toNat, by omega⟩
                  have hvn : v < n := by omega
                  have h2 : wr.cell? ⟨b', off' + j, none⟩ = some (.int .i64 (v : Int)) := by
                    rw [← hv]
                    exact (hS.below.cell (p := ⟨b', off' + j, none⟩) (World.block_lt_of_cell? _ _ hc)).trans hc
                  have hEv : Hid (Ed n L Z k v) := ⟨hlt, j, by rw [← HL.out]; exact hlj, hv⟩
                  have hDD : Hid (∀ x : Nat, (∃ j', j' < j + 1 ∧ Z k j' = (x : Int)) → (∃ j', j' < j ∧ Z k j' = (x : Int)) ∨ x = v) := fun x hx => by
                    obtain ⟨j', hj', e⟩ := hx
                    by_cases e' : j' = j
                    · subst e'; right; omega
                    · left; exact ⟨j', by omega, e⟩
                  clear hc hz0 hz1 hv
                  by_cases hkv : v = k
                  · have h4 : ((v : Int) != (k : Int)) = false := by simp; omega
                    have HI2 : Hid (FwI n (Ed n L Z) k (fun x => ∃ j', j' < j + 1 ∧ Z k j' = (x : Int)) g) := HI.out.less (fun a b' hab _ hh => by
                      rcases hh with h | ⟨h, hx⟩
                      · exact Or.inl h
                      · rcases hDD.out b' hx with h5 | h5
                        · exact Or.inr ⟨h, h5⟩
                        · omega)
                    clear hDD hkv HI
                    go_wp2
                    go_roundw
                    case rel => exact ⟨j + 1, g, by omega, by go_num, hS, HI2⟩
                    case measure => simp [intOf]; omega
                  · have h4 : ((v : Int) != (k : Int)) = true := by simp; omega
                    have HI2 : Hid (FwI n (Ed n L Z) k (fun x => ∃ j', j' < j + 1 ∧ Z k j' = (x : Int)) (updI g (k * n + v) 1)) := (HI.out.put hvn (fun e => hkv e.symm) hEv.out).less (fun a b' hab _ hh => by
                      rcases hh with h | ⟨h, hx⟩
                      · exact Or.inl h
                      · exact Or.inr ⟨h, hDD.out b' hx⟩)
                    obtain ⟨f1, f2, f3, f4⟩ := flatI hnn hlt hvn
                    have h5 := hS.row.cell f4
                    have h6 := hS.row.frozen (k * n + v)
                    have HS : Hid (MatSt w1 (wr.setCell ⟨w1.heap.size, k * n + v, none⟩ (.int .i64 1)) n (updI g (k * n + v) 1)) := hS.set _ _
                    clear hDD hkv HI hS
                    go_wp2
                    go_roundw
                    case rel => exact ⟨j + 1, _, by omega, by go_num, HS.out, HI2⟩
                    case measure => simp [intOf]; omega
                · have HI2 : Hid (FwI n (Ed n L Z) (k + 1) (fun _ => False) g) := HI.out.less (fun a b' _ he hh => by
                    rcases hh with h | ⟨_, h⟩
                    · by_cases e : a = k
                      · subst e
                        obtain ⟨_, j', hj', e2⟩ := he
                        exact Or.inr ⟨rfl, j', by rw [← HL.out] at hj'; omega, e2⟩
                      · exact Or.inl (by omega)
                    · exact h.elim)
                  clear HI
                  go_wp2
                  go_roundw
                  case rel => exact ⟨k + 1, g, by omega, by go_num, hS, HI2⟩
                  case measure => simp [intOf]; omega
            · obtain rfl : n = k := by omega
              have HF : Hid (FwS n (Ed n L Z) 0 0 0 g) := HI.out.done
              clear HI hlt hk
              go_wp2
              go_loopw [11, 12, 13, 14] (fun i _ _ _ wr => ∃ (m : Nat) (g : Nat → Int), m ≤ n ∧ i = .int .i64 m ∧ MatSt w1 wr n g ∧ Hid (FwS n (Ed n L Z) m 0 0 g)) (fun i _ _ _ _ => n - (intOf i).toNat)
              case atStart => exact ⟨0, g, Nat.zero_le _, rfl, hS, HF⟩
              case round =>
                clear hS HF
                obtain ⟨m, g, hm, rfl, hS, HF⟩ := hrel
                by_cases hlm : m < n
                · go_wp2
                  go_loopw [12, 13, 14] (fun i _ _ wr => ∃ (k : Nat) (g : Nat → Int), k ≤ n ∧ i = .int .i64 k ∧ MatSt w1 wr n g ∧ Hid (FwS n (Ed n L Z) m k 0 g)) (fun i _ _ _ => n - (intOf i).toNat)
                  case atStart => exact ⟨0, g, Nat.zero_le _, rfl, hS, HF⟩
                  case round =>
                    clear hS HF
                    obtain ⟨k, g, hk, rfl, hS, HF⟩ := hrel
                    by_cases hlk : k < n
                    · obtain ⟨f1, f2, f3, f4⟩ := flatI hnn hlk hlm
                      have h1 : wr.cell? ⟨w1.heap.size, k * n + m, none⟩ = some (.int .i64 (g (k * n + m))) := hS.row.cell f4
                      have t1 := HF.out.top k m hlk hlm
                      by_cases hinf : g (k * n + m) = (n : Int) + 1
                      · have HF2 : Hid (FwS n (Ed n L Z) m (k + 1) 0 g) := HF.out.skipRow hlm hinf
                        have h2 : (g (k * n + m) == (n : Int) + 1) = true := by simp [hinf]
                        clear HF hinf
                        generalize g (k * n + m) = x at *
                        go_wp2
                        go_roundw
                        case rel => exact ⟨k + 1, g, by omega, by go_num, hS, HF2⟩
                        case measure => simp [intOf]; omega
                      · have h2 : (g (k * n + m) == (n : Int) + 1) = false := by simp [hinf]
                        have hfin : Hid (g (k * n + m) < (n : Int) + 1) := by show _ < _; omega
                        clear hinf
                        generalize hx : g (k * n + m) = x at h1 h2 t1
                        clear hx
                        go_wp2
                        clear h1 h2 t1
                        go_loopw [13, 14] (fun i _ wr => ∃ (j : Nat) (g : Nat → Int), j ≤ n ∧ i = .int .i64 j ∧ MatSt w1 wr n g ∧ Hid (FwS n (Ed n L Z) m k j g) ∧ Hid (g (k * n + m) < (n : Int) + 1)) (fun i _ _ => n - (intOf i).toNat)
                        case atStart => exact ⟨0, g, Nat.zero_le _, rfl, hS, HF, hfin⟩
                        case round =>
                          clear hS HF hfin
                          obtain ⟨j, g, hj, rfl, hS, HF, hfin⟩ := hrel
                          by_cases hlj : j < n
                          · obtain ⟨e1, e2, e3, e4⟩ := flatI hnn hlm hlj
                            obtain ⟨d1, d2, d3, d4⟩ := flatI hnn hlk hlj
                            have h1 : wr.cell? ⟨w1.heap.size, k * n + m, none⟩ = some (.int .i64 (g (k * n + m))) := hS.row.cell f4
                            have h2 : wr.cell? ⟨w1.heap.size, m * n + j, none⟩ = some (.int .i64 (g (m * n + j))) := hS.row.cell e4
                            have h3 : wr.cell? ⟨w1.heap.size, k * n + j, none⟩ = some (.int .i64 (g (k * n + j))) := hS.row.cell d4
                            have h4 := hS.row.frozen (k * n + j)
                            have t1 := HF.out.top k m hlk hlm
                            have t2 := HF.out.top m j hlm hlj
                            by_cases hinf : g (m * n + j) = (n : Int) + 1
                            · have HF2 : Hid (FwS n (Ed n L Z) m k (j + 1) g) := HF.out.skipCol hlm hinf
                              have h5 : (g (m * n + j) == (n : Int) + 1) = true := by simp [hinf]
                              clear HF hinf h1 h3
                              generalize g (m * n + j) = x at *
                              go_wp2
                              go_roundw
                              case rel => exact ⟨j + 1, g, by omega, by go_num, hS, HF2, hfin⟩
                              case measure => simp [intOf]; omega
                            · have h5 : (g (m * n + j) == (n : Int) + 1) = false := by simp [hinf]
                              have hinf2 : g (m * n + j) < (n : Int) + 1 := by omega
                              by_cases hc : g (k * n + m) + g (m * n + j) < g (k * n + j)
                              · have HF2 : Hid (FwS n (Ed n L Z) m k (j + 1) (updI g (k * n + j) (g (k * n + m) + g (m * n + j)))) := HF.out.put hlm hlk hlj hfin.out hinf2 hc
                                have HS : ∀ q, Hid (MatSt w1 ((wr.drewN q).setCell ⟨w1.heap.size, k * n + j, none⟩ (.int .i64 (g (k * n + m) + g (m * n + j)))) n (updI g (k * n + j) (g (k * n + m) + g (m * n + j)))) := fun q => (hS.drewN q).set _ _
                                have hfin2 : Hid (updI g (k * n + j) (g (k * n + m) + g (m * n + j)) (k * n + m) < (n : Int) + 1) := by
                                  have hf := hfin.out
                                  have := (HF.out.top k j hlk hlj).2
                                  show _ < _
                                  by_cases e : k * n + m = k * n + j
                                  · have e2 := congrArg g e; omega
                                  · rw [updI_other g _ e]; exact hf
                                clear HF hinf hfin hS hinf2
                                generalize hg1 : g (k * n + m) = x1 at *
                                generalize hg2 : g (m * n + j) = x2 at *
                                generalize hg3 : g (k * n + j) = x3 at *
                                clear hg1 hg2 hg3
                                go_wp2
                                go_quiet (fail)
                                go_wp2
                                go_roundw
                                case rel => exact ⟨j + 1, _, by omega, by go_num, (HS _).out, HF2, hfin2⟩
                                case measure => simp [intOf]; omega
                              · have HF2 : Hid (FwS n (Ed n L Z) m k (j + 1) g) := HF.out.keep hlm (by omega)
                                have HS : ∀ q, Hid (MatSt w1 (wr.drewN q) n g) := fun q => hS.drewN q
                                clear HF hinf hS hinf2
                                generalize hg1 : g (k * n + m) = x1 at h1 t1 hc
                                generalize hg2 : g (m * n + j) = x2 at h2 t2 hc h5
                                generalize hg3 : g (k * n + j) = x3 at h3 hc
                                clear hg1 hg2 hg3
                                go_wp2
                                go_quiet (fail)
                                go_wp2
                                go_roundw
                                case rel => exact ⟨j + 1, g, by omega, by go_num, (HS _).out, HF2, hfin⟩
                                case measure => simp [intOf]; omega
                          · obtain rfl : n = j := by omega
                            have HF2 : Hid (FwS n (Ed n L Z) m (k + 1) 0 g) := HF.out.row
                            clear HF
                            go_wp2
                            go_roundw
                            case rel => exact ⟨k + 1, g, by omega, by go_num, hS, HF2⟩
                            case measure => simp [intOf]; omega
                    · obtain rfl : n = k := by omega
                      have HF2 : Hid (FwS n (Ed n L Z) (m + 1) 0 0 g) := HF.out.stage
                      clear HF
                      go_wp2
                      go_roundw
                      case rel => exact ⟨m + 1, g, by omega, by go_num, hS, HF2⟩
                      case measure => simp [intOf]; omega
                · obtain rfl : n = m := by omega
                  clear hlm hm
                  go_wp2
                  go_loop [15, 16] (fun s i => ∃ (k x : Nat), k ≤ n * n ∧ i = .int .i64 k ∧ s = .int .i64 x ∧ Hid (Want n g k x)) (fun _ i => n * n - (intOf i).toNat)
                  case atStart => exact ⟨0, 0, Nat.zero_le _, rfl, rfl, Want.zero n g⟩
                  case round =>
                    obtain ⟨k, x, hk, rfl, rfl, HW⟩ := hrel
                    by_cases hlt : k < n * n
                    · have hlti : (k : Int) < (n : Int) * (n : Int) := by rw [← Int.natCast_mul]; omega
                      have h1 : wr.cell? ⟨w1.heap.size, k, none⟩ = some (.int .i64 (g k)) := hS.row.cell hlt
                      by_cases c1 : g k < (n : Int) + 1
                      · by_cases c2 : (x : Int) < g k
                        · obtain ⟨y, hy⟩ : ∃ y : Nat, g k = (y : Int) := ⟨(g k).toNat, by omega⟩
                          have HW2 : Hid (Want n g (k + 1) y) := HW.out.take c1 c2 hy
                          rw [hy] at h1 c1 c2
                          clear hy HW
                          go_wp2
                          go_round
                          case rel => exact ⟨k + 1, y, by omega, by go_num, rfl, HW2⟩
                          case measure => simp [intOf]; omega
                        · have HW2 : Hid (Want n g (k + 1) x) := HW.out.skip (by omega)
                          clear HW
                          generalize g k = y at *
                          go_wp2
                          go_round
                          case rel => exact ⟨k + 1, x, by omega, by go_num, rfl, HW2⟩
                          case measure => simp [intOf]; omega
                      · have HW2 : Hid (Want n g (k + 1) x) := HW.out.skip (by omega)
                        have c1' : decide (g k < (n : Int) + 1) = false := by simp; omega
                        clear HW
                        generalize g k = y at *
                        go_wp2
                        go_round
                        case rel => exact ⟨k + 1, x, by omega, by go_num, rfl, HW2⟩
                        case measure => simp [intOf]; omega
                    · have hlti : ¬ (k : Int) < (n : Int) * (n : Int) := by rw [← Int.natCast_mul]; omega
                      obtain rfl : k = n * n := by omega
                      go_wp2_with fail
                      refine (hops16_some ao' n n A' L L Z _ hn hL (hM.below hS.below) hR').mono ?_
                      rintro e w2 ⟨h, rfl, hD, hh, hb2⟩
                      have hx : h = x := HW.out.over HF.out (Ed.lt hR') hD hh
                      subst hx
                      have hbb : Below w'.heap.size w' w2 := (hb.trans (hS.below.mono hb.size)).trans (hb2.mono (Nat.le_trans hb.size hS.below.size))
                      clear hD hb2
                      go_wp2
                      go_ret
                      exact ⟨ret_bool (by simp), hbb⟩

end Go.Proofs.Qxb6602022a
