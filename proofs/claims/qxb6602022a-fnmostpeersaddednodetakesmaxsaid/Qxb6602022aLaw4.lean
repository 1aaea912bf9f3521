/-
  The walk of FnMostPeersAddedNodeTakesMax.
-/
import Derived.Test.Qxb6602022aLaw3
namespace Go.Proofs.Qxb6602022a
open Go.RowKit Go.Deep

/-- WHAT A WALK OF A LAW IS TOLD OF A SLICE OF INTS THAT CAME IN. -/
structure RowIn (w : World) (ao : Option Addr) (n cap : Nat) (z : Nat → Int) : Prop where
  row : IntsAt w ao n z
  n_le : n ≤ maxLen
  nil : ao = none → n = 0 ∧ cap = 0

def updL (L : Nat → Nat) (k x : Nat) : Nat → Nat := fun i => if i = k then x else L i

theorem mxL_upd (L : Nat → Nat) (n m : Nat) : mxL (updL L n m) (n + 1) = max (mxL L n) m := by
  have h : mxL (updL L n m) n = mxL L n := mxL_congr n (fun k hk => by unfold updL; rw [if_neg (by omega)])
  have e : updL L n m n = m := by simp [updL]
  simp only [mxL]
  rw [h, e]

/-- The extended graph's own row when k heads are copied. -/
structure Half4 (w wr : World) (N n k : Nat) (L : Nat → Nat) (A : Nat → Option Addr) : Prop where
  below : Below N w wr
  row : wr.rowIs N 28 (n + 1) (part2 A L k)

theorem part2_copy (A : Nat → Option Addr) (L : Nat → Nat) (k i : Nat) : (if i = k then Value.slice (A k) (L k) (L k) else part2 A L k i) = part2 A L (k + 1) i := by
  have h := part2_step A L k (A k) i
  have e : upd A k (A k) = A := by funext j; unfold upd; split <;> simp_all
  rw [e] at h
  exact h

theorem Half4.start (w : World) (n : Nat) (L : Nat → Nat) (A : Nat → Option Addr) : Half4 w (w.alloc (.cells (madeCells #[.slice none 0 0] (n + 1)) 28)) w.heap.size n 0 L A :=
  ⟨(Below.refl _ _).alloc (Nat.le_refl _) _, (World.rowIs_made w _ (n + 1) 28).congr (fun j _ => by simp [part2])⟩

theorem Half4.step {w wr : World} {N n k : Nat} {L : Nat → Nat} {A : Nat → Option Addr} (h : Half4 w wr N n k L A) :
    Half4 w (wr.setCell ⟨N, k, none⟩ (.slice (A k) (L k) (L k))) N n (k + 1) L A :=
  ⟨h.below.setCell (Nat.le_refl _) _, (h.row.set k _).congr (fun i _ => part2_copy A L k i)⟩

theorem Half4.last {w wr : World} {N n m : Nat} {L : Nat → Nat} {A : Nat → Option Addr} {po : Option Addr} (h : Half4 w wr N n n L A) :
    Below N w (wr.setCell ⟨N, n, none⟩ (.slice po m m)) ∧ HeadsAt (wr.setCell ⟨N, n, none⟩ (.slice po m m)) (some ⟨N, 0, none⟩) (n + 1) (upd A n po) (updL L n m) (updL L n m) := by
  refine ⟨h.below.setCell (Nat.le_refl _) _, fun k hk => ⟨N, 0, rfl, ?_⟩⟩
  rw [Nat.zero_add, (h.row.set n (.slice po m m)).cell hk]
  by_cases e : k = n
  · subst e; simp [upd, updL]
  · rw [if_neg e]
    have hlt : k < n := by omega
    simp [part2, hlt, upd, updL, e]

set_option maxHeartbeats 800000 in
theorem law4 (ao : Option Addr) (n cap : Nat) (A : Nat → Option Addr) (L C : Nat → Nat) (Z : Nat → Nat → Int) (po : Option Addr) (m mcap : Nat) (z : Nat → Int) (w : World)
    (hin : MatIn w ao n cap A L C Z) (hp : RowIn w po m mcap z) :
    Calls Try.prog 4 #[.slice ao n cap, .slice po m mcap] w fun e w' => TrueBelow w e w' := by
  go_enter Try.func4, Try.ntmps4
  go_wp2_with fail
  refine (bytes12_any ao n cap A L C po m mcap _ hin.n_le hin.L_le hp.n_le hin.mat.heads).mono ?_
  rintro e w' ⟨⟨t, rfl⟩, rfl⟩
  cases t
  · go_wp2_with fail
    go_ret
    exact ⟨rfl, Below.refl _ _⟩
  go_wp2_with fail
  refine (size9_any ao n cap A L C _ hin.n_le hin.L_le hin.mat.heads).mono ?_
  rintro e w' ⟨⟨s, rfl, hs⟩, rfl⟩
  have hm63 := hp.n_le
  unfold maxLen at hm63
  by_cases hs1 : 1048576 < s
  · go_wp2_with fail
    go_ret
    exact ⟨rfl, Below.refl _ _⟩
  have hs2 : decide (1048576 < s) = false := by simpa using hs1
  obtain ⟨hn, hL⟩ := hs.2.2 (by omega)
  by_cases hm1 : 131072 < m
  · have hm2 : (131072 : Int) < (m : Int) := by omega
    go_wp2_with fail
    go_ret
    exact ⟨rfl, Below.refl _ _⟩
  have hm2 : (m : Int) ≤ 131072 := by omega
  go_wp2_with fail
  refine (size9_any ao n cap A L C _ hin.n_le hin.L_le hin.mat.heads).mono ?_
  rintro e w' ⟨⟨s2, rfl, hq⟩, rfl⟩
  have hq0 := hq.1
  have hq1 := hq.2.1
  by_cases hs3 : 1048576 < s2 + 24 + 8 * (m : Int)
  · go_wp2_with fail
    go_ret
    exact ⟨rfl, Below.refl _ _⟩
  go_wp2_with fail
  refine (clone10_any ao n cap A L C Z _ hn hL hin.nil hin.nils hin.mat).mono ?_
  rintro e w1 ⟨ao', A', rfl, hM, hnl, hb⟩
  go_wp2_with fail
  refine (clone13_any po m mcap z _ (by omega) hp.nil (hp.row.below hb)).mono ?_
  rintro e w2 ⟨po', rfl, hI, hfr, hb2⟩
  have hH := hM.heads.below hb2
  have hbb := hb.trans (hb2.mono hb.size)
  clear hI hfr hb hb2 hM hnl hs hq hin hp
  have hmk := run_make_row' (P := Try.prog) 22 28 (.slice none 0 0) 24 Try.underlying22 Try.info28 rfl .i64 .i64 (n + 1) (by omega) (by omega)
  have ec : ((n + 1 : Nat) : Int) = (n : Int) + 1 := by omega
  rw [ec] at hmk
  go_wp2_with fail
  clear hmk ec
  go_loopw [6] (fun i wr => ∃ k : Nat, k ≤ n ∧ i = .int .i64 k ∧ Half4 w2 wr w2.heap.size n k L A') (fun i _ => n - (intOf i).toNat)
  case atStart => exact ⟨0, Nat.zero_le _, rfl, Half4.start w2 n L A'⟩
  case round =>
    obtain ⟨k, hk, rfl, hF⟩ := hrel
    by_cases hlt : k < n
    · obtain ⟨b, off, rfl, h2⟩ := hH k hlt
      have h3 : wr.cell? ⟨b, off + k, none⟩ = some (.slice (A' k) (L k) (L k)) := (hF.below.cell (p := ⟨b, off + k, none⟩) (World.block_lt_of_cell? _ _ h2)).trans h2
      have h5 := hF.row.cell (show k < n + 1 by omega)
      have h6 := hF.row.frozen k
      have hS := hF.step
      have HS : Hid (Half4 w2 (wr.setCell ⟨w2.heap.size, k, none⟩ (.slice (A' k) (L k) (L k))) w2.heap.size n (k + 1) L A') := hS
      clear hS h2 hL
      go_wp2
      go_roundw
      case rel => exact ⟨k + 1, by omega, by go_num, HS.out⟩
      case measure => simp [intOf]; omega
    · have : k = n := by omega
      subst this
      have h5 := hF.row.cell (show k < k + 1 by omega)
      have h6 := hF.row.frozen k
      have hlast := hF.last (m := m) (po := po')
      have hHw : HeadsAt wr ao' k A' L L := hH.below hF.below
      have hne : ∀ j, j < k → ∃ b off, ao' = some ⟨b, off, none⟩ ∧ b ≠ w2.heap.size := fun j hj => by
        obtain ⟨b, off, e, hc⟩ := hH j hj
        exact ⟨b, off, e, by have := World.block_lt_of_cell? _ _ hc; simp at this; omega⟩
      have hHl : HeadsAt (wr.setCell ⟨w2.heap.size, k, none⟩ (.slice po' m m)) ao' k A' L L := fun j hj => by
        obtain ⟨b, off, e, hc⟩ := hHw j hj
        obtain ⟨b', off', e', hne'⟩ := hne j hj
        rw [e] at e'
        simp at e'
        obtain ⟨rfl, rfl⟩ := e'
        exact ⟨b, off, e, (World.cell?_of_block (w := wr) (a := ⟨b, off + j, none⟩) (Below.heap_setCell wr ⟨w2.heap.size, k, none⟩ _ b hne')).trans hc⟩
      clear hHw hne hH
      have hbe : Below w'.heap.size w' (wr.setCell ⟨w2.heap.size, k, none⟩ (.slice po' m m)) := hbb.trans (hlast.1.mono hbb.size)
      have hhe := hlast.2
      clear hlast hF
      go_wp2_with fail
      refine (peers11_any ao' k k A' L L _ (by omega) hL hHl).mono ?_
      rintro e w3 ⟨rfl, rfl⟩
      have hmb := mxL_le L 131072 k hL
      have hLu : ∀ j, j < k + 1 → updL L k m j ≤ 131072 := fun j hj => by
        unfold updL
        by_cases e : j = k
        · rw [if_pos e]; omega
        · rw [if_neg e]; exact hL j (by omega)
      have HU : Hid (mxL (updL L k m) (k + 1) = max (mxL L k) m) := mxL_upd L k m
      generalize hg : mxL L k = mm at *
      clear hg hL
      by_cases hgt : mm < m
      · have hgi : (mm : Int) < (m : Int) := by omega
        go_wp2_with fail
        refine (peers11_any (some ⟨w2.heap.size, 0, none⟩) (k + 1) (k + 1) (upd A' k po') (updL L k m) (updL L k m) _ (by omega) hLu hhe).mono ?_
        rintro e w4 ⟨rfl, rfl⟩
        rw [HU.out]
        have heq : (((max mm m : Nat) : Int) == (m : Int)) = true := by simp; omega
        go_wp2_with fail
        go_ret
        exact ⟨rfl, hbe⟩
      · have hgi : ¬ (mm : Int) < (m : Int) := by omega
        go_wp2_with fail
        refine (peers11_any (some ⟨w2.heap.size, 0, none⟩) (k + 1) (k + 1) (upd A' k po') (updL L k m) (updL L k m) _ (by omega) hLu hhe).mono ?_
        rintro e w4 ⟨rfl, rfl⟩
        rw [HU.out]
        have heq : (((max mm m : Nat) : Int) == (mm : Int)) = true := by simp; omega
        go_wp2_with fail
        go_ret
        exact ⟨rfl, hbe⟩

end Go.Proofs.Qxb6602022a
