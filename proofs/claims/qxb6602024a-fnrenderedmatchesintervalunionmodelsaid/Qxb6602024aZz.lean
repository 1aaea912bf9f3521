/-
  ZZRendered: its walk; and that the spans' order does not matter.
-/
import Derived.Test.Qxb6602024aRend2
namespace Go.Proofs.Qxb6602024a
open Go.RowKit Go.Deep Rd

theorem Try.info44 : (Try.prog.info? 44).map (fun i => (i.zero, i.size, i.bytes)) = some (some (.agg #[.int .i64 0, .int .i64 0]), 2, 16) := by kernel_rfl

theorem make42 (m : Nat) (hm : m ≤ 65536) (W : World) : (Instr.makeSlice 42 (.int .i64 (m : Int)) (.int .i64 (m : Int))).run Try.prog W = .ok (.slice (some ⟨W.heap.size, 0, none⟩) m m) (W.alloc (.cells (madeCells #[.int .i64 0, .int .i64 0] (m * 2)) 44)) := by
  obtain ⟨i, hi, hz0, hz1, hz2⟩ := info_parts Try.info44
  have hr := run_make (P := Try.prog) W 42 44 i _ Try.underlying42 hi hz0 .i64 .i64 m m (by omega) (Int.le_refl _) (by rw [hz2]; omega) (by omega)
  rw [hz1] at hr
  simp only [Int.toNat_natCast] at hr
  exact hr

/-- The spans, when k of them are laid. -/
def pairs (S T : Nat → Nat) (k : Nat) : Nat → Value := fun j => if j / 2 < k then (if j % 2 = 0 then .int .i64 (S (j / 2) : Int) else .int .i64 (T (j / 2) : Int)) else .int .i64 0

theorem pairs_start (S T : Nat → Nat) (w : World) (m : Nat) : (w.alloc (.cells (madeCells #[.int .i64 0, .int .i64 0] (m * 2)) 44)).rowIs w.heap.size 44 (m * 2) (pairs S T 0) := by
  have h := World.rowIs_alloc w (madeCells #[.int .i64 0, .int .i64 0] (m * 2)) 44 (pairs S T 0) (fun i hi => by
    rw [size_madeCells] at hi
    have e : i % 2 = 0 ∨ i % 2 = 1 := by omega
    rcases e with e | e <;> simp [madeCells, hi, pairs, e])
  rw [size_madeCells] at h
  exact h

theorem pairs_step {S T : Nat → Nat} {wr : World} {b m k : Nat} (h : wr.rowIs b 44 (m * 2) (pairs S T k)) :
    ((wr.setCell ⟨b, k * 2, none⟩ (.int .i64 (S k : Int))).setCell ⟨b, k * 2 + 1, none⟩ (.int .i64 (T k : Int))).rowIs b 44 (m * 2) (pairs S T (k + 1)) := by
  refine ((h.set (k * 2) _).set (k * 2 + 1) _).congr (fun j _ => ?_)
  unfold pairs
  by_cases e1 : j = k * 2 + 1
  · rw [if_pos e1, if_pos (by omega), if_neg (by omega), show j / 2 = k by omega]
  · rw [if_neg e1]
    by_cases e2 : j = k * 2
    · rw [if_pos e2, if_pos (by omega), if_pos (by omega), show j / 2 = k by omega]
    · rw [if_neg e2]
      by_cases e3 : j / 2 < k
      · rw [if_pos e3, if_pos (show j / 2 < k + 1 by omega)]
      · rw [if_neg e3, if_neg (show ¬ j / 2 < k + 1 by omega)]

theorem pairs_spans {S T : Nat → Nat} {wr : World} {b m : Nat} (h : wr.rowIs b 44 (m * 2) (pairs S T m)) : SpansAt wr b m (fun i => (S i, T i)) := fun i hi => by
  have h1 := h.cell (i := 2 * i) (by omega)
  have h2 := h.cell (i := 2 * i + 1) (by omega)
  refine ⟨⟨?_, ?_⟩, h.frozen _, h.frozen _⟩
  · rw [h1]; unfold pairs; rw [if_pos (by omega), if_pos (by omega), show 2 * i / 2 = i by omega]
  · rw [h2]; unfold pairs; rw [if_pos (by omega), if_neg (by omega), show (2 * i + 1) / 2 = i by omega]

theorem covM_iff (S T : Nat → Nat) (m p : Nat) : covM S T m p = true ↔ Cov m (fun i => (S i, T i)) p := by
  unfold covM
  rw [decide_eq_true_iff, cn_pos]
  exact Iff.rfl

/-- Without spans: the bytes as they are. -/
theorem M_zero (S T : Nat → Nat) (zb : Nat → UInt8) (n : Nat) : M (covM S T 0) zb (2 * n + 1) = (slc zb 0 n, []) := by
  have h := M_gap (cov := covM S T 0) (zb := zb) (P := 0) (a := 0) (Or.inr ⟨rfl, rfl⟩) (2 * n + 1) (Nat.zero_le _) (fun p _ _ => by simp [covM, cn])
  rw [h, show (2 * n + 1) / 2 = n by omega]
  simp [M]

theorem body_whole {zb : Nat → UInt8} {N n : Nat} (h : BodyLen (nums zb) N n) : slc zb 0 n ++ tailOf N n = slc zb 0 N := by
  rcases h with ⟨rfl, _⟩ | ⟨h0, h10, rfl⟩
  · unfold tailOf
    rw [if_neg (Nat.lt_irrefl _), List.append_nil]
  · unfold tailOf
    rw [if_pos (by omega)]
    have e : zb (N - 1) = 10 := (byte_ten _).1 h10
    obtain ⟨K, rfl⟩ : ∃ K, N = K + 1 := ⟨N - 1, by omega⟩
    rw [slc_snoc zb (Nat.zero_le K)]
    simp only [Nat.add_sub_cancel] at e ⊢
    rw [e]

/-- A slice's address is nil, or plain. -/
def Plain (ao : Option Addr) (N : Nat) : Prop := (ao = none ∧ N = 0) ∨ ∃ b off, ao = some ⟨b, off, none⟩

theorem conv_raw {w0 : World} {ao : Option Addr} {N : Nat} {zb : Nat → UInt8} (hp : Plain ao N) (ha : RowAt .u8 w0 ao N (nums zb)) (W : World) (hb : Below w0.heap.size w0 W) :
    (convert 22 9 (.slice ao (slc zb 0 N).length (slc zb 0 N).length)).run Try.prog W = .ok (.string ⟨(slc zb 0 N).toArray⟩) W := by
  refine conv_list W ao _ (slc zb 0 N) ?_
  rcases hp with ⟨rfl, rfl⟩ | ⟨b, off, rfl⟩
  · exact Or.inl ⟨rfl, slc_nil zb 0⟩
  · refine Or.inr ⟨b, off, rfl, fun i hi => ?_⟩
    rw [slc_len] at hi
    obtain ⟨b', off', e, hc⟩ := (ha.below hb) i (by omega)
    simp at e
    obtain ⟨rfl, rfl⟩ := e
    rw [hc]
    have hi' : i < N := by omega
    simp [nums, slc, hi']

/-- rendered, whatever the spans. -/
theorem rend34 (ao : Option Addr) (N m n : Nat) (zb : Nat → UInt8) (S T : Nat → Nat) (w0 w : World) (hN : N ≤ 65536) (hm : m ≤ 65536) (hBL : BodyLen (nums zb) N n) (hp : Plain ao N)
    (ha : RowAt .u8 w0 ao N (nums zb)) (hb : Below w0.heap.size w0 w) (hblk : w0.heap.size < w.heap.size) (hS : SpansAt w w0.heap.size m (fun i => (S i, T i))) (hfit : ∀ k, k < m → S k ≤ T k ∧ T k ≤ n) :
    Calls Try.prog 34 #[.slice ao N N, .slice (some ⟨w0.heap.size, 0, none⟩) m m] w fun e w' => RetRes w0 ((M (covM S T m) zb (2 * n + 1)).1 ++ tailOf N n) (M (covM S T m) zb (2 * n + 1)).2 e w' := by
  by_cases hm0 : 0 < m
  · exact rend34_some ao N m n zb _ (covM S T m) w0 w hN hm hm0 hBL hBL.le ha hb hblk hS hfit (covM_iff S T m)
  · obtain rfl : m = 0 := by omega
    rw [M_zero]
    simp only
    rw [body_whole hBL]
    have h := rend34_none ao (some ⟨w0.heap.size, 0, none⟩) 0 (slc zb 0 N) w0 w hb (conv_raw hp ha)
    rw [slc_len, Nat.sub_zero] at h
    exact h

set_option maxRecDepth 100000 in
set_option maxHeartbeats 2000000 in
theorem zz25 (ao so to : Option Addr) (N m n mcap qcap : Nat) (zb : Nat → UInt8) (S T : Nat → Nat) (w : World) (hN : N ≤ 65536) (hm : m ≤ 65536) (hBL : BodyLen (nums zb) N n) (hp : Plain ao N)
    (hfit : ∀ k, k < m → S k ≤ T k ∧ T k ≤ n) (ha : RowAt .u8 w ao N (nums zb)) (hs : RowAt .i64 w so m (ints S)) (ht : RowAt .i64 w to m (ints T)) :
    Calls Try.prog 25 #[.slice ao N N, .slice so m mcap, .slice to m qcap] w fun e w' =>
      RetText w ((M (covM S T m) zb (2 * n + 1)).1 ++ tailOf N n) (M (covM S T m) zb (2 * n + 1)).2 e w' := by
  have hmk := make42 m hm
  have HR := fun (w2 : World) (h1 : Below w.heap.size w w2) (h2 : w2.rowIs w.heap.size 44 (m * 2) (pairs S T m)) => rend34 ao N m n zb S T w w2 hN hm hBL hp ha h1 h2.lt (pairs_spans h2) hfit
  generalize (M (covM S T m) zb (2 * n + 1)).1 ++ tailOf N n = text at *
  generalize (M (covM S T m) zb (2 * n + 1)).2 = marks at *
  clear hBL hfit ha hp
  have HH : Hid (∀ (w2 : World) (h1 : Below w.heap.size w w2) (h2 : w2.rowIs w.heap.size 44 (m * 2) (pairs S T m)), Calls Try.prog 34 #[.slice ao N N, .slice (some ⟨w.heap.size, 0, none⟩) m m] w2 fun e w' => RetRes w text marks e w') := HR
  clear HR
  go_enter Try.func25, Try.ntmps25
  go_wp2_with fail
  clear hmk
  go_loopw [10] (fun i wr => ∃ k : Nat, k ≤ m ∧ i = .int .i64 k ∧ Below w.heap.size w wr ∧ wr.rowIs w.heap.size 44 (m * 2) (pairs S T k)) (fun i _ => m - (intOf i).toNat)
  case atStart => exact ⟨0, Nat.zero_le _, rfl, (Below.refl _ _).alloc (Nat.le_refl _) _, pairs_start S T w m⟩
  case round =>
    obtain ⟨k, hk, rfl, hb, hrow⟩ := hrel
    by_cases hlt : k < m
    · obtain ⟨b, off, rfl, h1⟩ := (hs.below hb) k hlt
      obtain ⟨b', off', rfl, h2⟩ := (ht.below hb) k hlt
      have hki : (k : Int) < (m : Int) := by omega
      have hk0 : (0 : Int) ≤ (k : Int) := by omega
      have h1' : wr.cell? ⟨b, off + k, none⟩ = some (.int .i64 (S k : Int)) := h1
      have h2' : wr.cell? ⟨b', off' + k, none⟩ = some (.int .i64 (T k : Int)) := h2
      have c0 := hrow.cell (i := k * 2) (by omega)
      have c1 := hrow.cell (i := k * 2 + 1) (by omega)
      have f0 := hrow.frozen (k * 2)
      have f1 := hrow.frozen (k * 2 + 1)
      have HB : ∀ u v, Hid (Below w.heap.size w ((wr.setCell ⟨w.heap.size, k * 2, none⟩ u).setCell ⟨w.heap.size, k * 2 + 1, none⟩ v)) := fun u v => (hb.setCell (Nat.le_refl _) u).setCell (Nat.le_refl _) v
      have HP : Hid (((wr.setCell ⟨w.heap.size, k * 2, none⟩ (.int .i64 (S k : Int))).setCell ⟨w.heap.size, k * 2 + 1, none⟩ (.int .i64 (T k : Int))).rowIs w.heap.size 44 (m * 2) (pairs S T (k + 1))) := pairs_step hrow
      clear h1 h2 hs ht hb hrow HH
      go_wp2
      go_region
      all_goals
        go_wp2
        exact ⟨⟨k + 1, by omega, by go_num, (HB _ _).out.drew, HP.out.drew⟩, by simp [intOf]; omega⟩
    · obtain rfl : m = k := by omega
      go_wp2_with fail
      refine (HH.out _ hb hrow).mono ?_
      rintro e w2 ⟨ma, mc, rfl, hmr, hbel⟩
      have HB : ∀ o q, Hid (Below w.heap.size w ((w2.alloc o).drewN q)) := fun o q => below_drewN (hbel.alloc hbel.size o) q
      have HM : ∀ o q, Hid (RowAt .i64 ((w2.alloc o).drewN q) ma marks.length (fun j => ((marks.getD j 0 : Nat) : Int))) := fun o q => hmr.below (below_drewN ((Below.refl _ _).alloc (Nat.le_refl _) o) q)
      clear hbel hmr HH hb hrow hs ht
      go_wp2
      go_quiet (fail)
      go_wp2
      go_ret2
      exact ⟨ma, mc, rfl, (HM _ _).out, (HB _ _).out⟩

end Go.Proofs.Qxb6602024a
