/-
  The walk of FnRenderedMatchesIntervalUnionModel.
-/
import Derived.Test.Qxb6602024aZz
namespace Go.Proofs.Qxb6602024a
open Go.RowKit Go.Deep Rd

def ClonedP (w : World) (n : Nat) (z : Nat → Int) (e : Ending) (w' : World) : Prop :=
  ∃ ao', e = .returned (.slice ao' n n) ∧ Plain ao' n ∧ RowAt .u8 w' ao' n z ∧ Below w.heap.size w w'

set_option maxHeartbeats 400000 in
theorem clone11p (ao : Option Addr) (n cap : Nat) (z : Nat → Int) (w : World) (hn : n ≤ 1048576) (h0 : ao = none → n = 0 ∧ cap = 0) (hc : RowAt .u8 w ao n z) :
    Calls Try.prog 11 #[.slice ao n cap] w fun e w' => ClonedP w n z e w' := by
  cases ao with
  | none =>
    obtain ⟨rfl, rfl⟩ := h0 rfl
    have hnil := fun w => Lib.run_eql_slice_nil (P := Try.prog) w 22 5 none 0 0 0 0 Try.underlying22
    simp only [Option.isNone_none] at hnil
    go_enter Try.func11, Try.ntmps11
    go_wp2
    go_ret
    exact ⟨none, rfl, Or.inl ⟨rfl, rfl⟩, fun j hj => absurd hj (Nat.not_lt_zero _), Below.refl _ _⟩
  | some a =>
    clear h0
    have hmk := run_make_row' (P := Try.prog) 22 5 (.int .u8 0) 1 Try.underlying22 Try.info5 rfl .i64 .i64 n (by omega) (by omega)
    have hnil := fun w => Lib.run_eql_slice_nil (P := Try.prog) w 22 5 (some a) n cap 0 0 Try.underlying22
    simp only [Option.isNone_some] at hnil
    go_enter Try.func11, Try.ntmps11
    go_wp2
    clear hmk hnil
    go_loopw [4] (fun i wr => ∃ k : Nat, k ≤ n ∧ i = .int .i64 k ∧ Below w.heap.size w wr ∧ wr.rowIs w.heap.size 5 n (part1 .u8 z k)) (fun i _ => n - (intOf i).toNat)
    case atStart => exact ⟨0, Nat.zero_le _, rfl, (Below.refl _ _).alloc (Nat.le_refl _) _, (World.rowIs_made w _ n 5).congr (fun j _ => by simp [part1])⟩
    case round =>
      obtain ⟨k, hk, rfl, hb, hrow⟩ := hrel
      by_cases hlt : k < n
      · obtain ⟨b, off, e, h2⟩ := hc k hlt
        simp only [Option.some.injEq] at e
        subst e
        have h3 : wr.cell? ⟨b, off + k, none⟩ = some (.int .u8 (z k)) := (hb.cell (p := ⟨b, off + k, none⟩) (World.block_lt_of_cell? _ _ h2)).trans h2
        have h4 := hrow.cell hlt
        have h5 := hrow.frozen k
        clear hc h2
        go_wp2
        go_roundw
        case rel => exact ⟨k + 1, by omega, by go_num, hb.setCell (Nat.le_refl _) _, (hrow.set k _).congr (fun i _ => part1_step .u8 z k i)⟩
        case measure => simp [intOf]; omega
      · have : k = n := by omega
        subst this
        go_wp2
        go_ret
        exact ⟨some ⟨w.heap.size, 0, none⟩, rfl, Or.inr ⟨_, _, rfl⟩, rowIs_row hrow, hb⟩

theorem RowAt.congr {k : IntKind} {w : World} {ao : Option Addr} {n : Nat} {z z' : Nat → Int} (h : RowAt k w ao n z) (e : ∀ j, j < n → z j = z' j) : RowAt k w ao n z' := fun j hj => by
  obtain ⟨b, off, h1, h2⟩ := h j hj
  exact ⟨b, off, h1, by rw [h2, e j hj]⟩

def bytesOf (z : Nat → Int) : Nat → UInt8 := fun j => UInt8.ofNat (z j).toNat

theorem nums_bytesOf {z : Nat → Int} {n : Nat} (h : ∀ j, j < n → (Lit.int .u8 (z j)).wf = true) (j : Nat) (hj : j < n) : z j = nums (bytesOf z) j := by
  have hw := h j hj
  have hb := bounds_u8 hw
  unfold nums bytesOf
  rw [UInt8.toNat_ofNat']
  omega

def natsOf (s : Nat → Int) : Nat → Nat := fun k => (s k).toNat

set_option maxRecDepth 100000 in
set_option maxHeartbeats 1000000 in
theorem law8 (ao so to : Option Addr) (N cap m mcap q qcap : Nat) (z s t : Nat → Int) (w : World) (hin : RowIn .u8 w ao N cap z) (his : RowIn .i64 w so m mcap s) (hit : RowIn .i64 w to q qcap t) :
    Calls Try.prog 8 #[.slice ao N cap, .slice so m mcap, .slice to q qcap] w fun e w' => TrueBelow w e w' := by
  have hn63 := hin.n_le
  have hm63 := his.n_le
  have hq63 := hit.n_le
  unfold maxLen at hn63 hm63 hq63
  go_enter Try.func8, Try.ntmps8
  go_wp2_with fail
  refine (bytes21 ao so to N cap m mcap q qcap _ hin.n_le his.n_le hit.n_le).mono ?_
  rintro e w' ⟨⟨r, rfl⟩, rfl⟩
  cases r
  · go_wp2_with fail
    go_ret
    exact ⟨rfl, Below.refl _ _⟩
  by_cases h1 : (65536 : Int) < (N : Int)
  · go_wp2_with fail
    go_ret
    exact ⟨rfl, Below.refl _ _⟩
  have h1' : decide ((65536 : Int) < (N : Int)) = false := by simp; omega
  by_cases h2 : (65536 : Int) < (m : Int)
  · go_wp2_with fail
    go_ret
    exact ⟨rfl, Below.refl _ _⟩
  have h2' : decide ((65536 : Int) < (m : Int)) = false := by simp; omega
  by_cases h3 : (65536 : Int) < (q : Int)
  · go_wp2_with fail
    go_ret
    exact ⟨rfl, Below.refl _ _⟩
  have h3' : decide ((65536 : Int) < (q : Int)) = false := by simp; omega
  by_cases h4 : (1048576 : Int) < (N : Int) + 8 * (m : Int) + 8 * (q : Int)
  · go_wp2_with fail
    go_ret
    exact ⟨rfl, Below.refl _ _⟩
  have hrow : RowAt .u8 w' ao N (nums (bytesOf z)) := hin.row.congr (nums_bytesOf hin.fits)
  have hN : N ≤ 65536 := by omega
  have hm : m ≤ 65536 := by omega
  have hq : q ≤ 65536 := by omega
  generalize bytesOf z = zb at hrow
  go_wp2_with fail
  refine (body22 ao N cap (nums zb) _ hN hrow).mono ?_
  rintro e w1 ⟨⟨n, rfl, hBL⟩, rfl⟩
  go_wp2_with fail
  refine (fit23 so to m mcap q qcap n s t _ hm hq his.row hit.row).mono ?_
  rintro e w2 ⟨⟨r, rfl, hF⟩, hb2⟩
  cases r
  · go_wp2_with fail
    go_ret
    exact ⟨rfl, hb2⟩
  obtain ⟨rfl, hfit⟩ := hF rfl
  have hrs : RowAt .i64 w1 so m (ints (natsOf s)) := his.row.congr (fun j hj => by have := hfit j hj; unfold ints natsOf; omega)
  have hrt : RowAt .i64 w1 to m (ints (natsOf t)) := hit.row.congr (fun j hj => by have := hfit j hj; unfold ints natsOf; omega)
  have hfit' : ∀ k, k < m → natsOf s k ≤ natsOf t k ∧ natsOf t k ≤ n := fun k hk => by have := hfit k hk; unfold natsOf; omega
  have hn0 := hin.nil
  have hs0 := his.nil
  have ht0 := hit.nil
  clear hfit hF hin his hit
  generalize natsOf s = S at *
  generalize natsOf t = T at *
  go_wp2_with fail
  refine (clone11p ao N cap (nums zb) _ (by omega) hn0 (hrow.below hb2)).mono ?_
  rintro e w3 ⟨ao', rfl, hP, hR0, hb3⟩
  have hB3 : Below w1.heap.size w1 w3 := hb2.trans (hb3.mono hb2.size)
  go_wp2_with fail
  refine (clone24_any so m mcap (ints S) _ (by omega) hs0 (hrs.below hB3)).mono ?_
  rintro e w4 ⟨so', rfl, hR1, hb4⟩
  have hB4 : Below w1.heap.size w1 w4 := hB3.trans (hb4.mono hB3.size)
  go_wp2_with fail
  refine (clone24_any to m qcap (ints T) _ (by omega) ht0 (hrt.below hB4)).mono ?_
  rintro e w5 ⟨to', rfl, hR2, hb5⟩
  have hB5 : Below w1.heap.size w1 w5 := hB4.trans (hb5.mono hB4.size)
  have hZ := zz25 ao' so' to' N m n m m zb S T w5 hN hm hBL hP hfit' ((hR0.below hb4).below hb5) (hR1.below hb5) hR2
  have hM := fun (w6 : World) (h : Below w5.heap.size w5 w6) => model26 ao' so' to' N N m m m n zb S T w6 hN hBL.le hm hfit' (((hR0.below hb4).below hb5).below h) ((hR1.below hb5).below h) (hR2.below h)
  have hlen := (M_len (covM S T m) zb (2 * n + 1)).2
  have hnN := hBL.le
  generalize (M (covM S T m) zb (2 * n + 1)).1 ++ tailOf N n = text at hZ hM
  generalize (M (covM S T m) zb (2 * n + 1)).2 = marks at hZ hM hlen
  have HM : Hid (∀ (w6 : World) (h : Below w5.heap.size w5 w6), Calls Try.prog 26 #[.slice ao' N N, .int .i64 (n : Int), .slice so' m m, .slice to' m m] w6 fun e w' => RetText w6 text marks e w') := hM
  clear hM hb2 hb3 hb4 hb5 hB3 hB4 hR0 hR1 hR2 hrs hrt hrow
  go_wp2_with fail
  refine hZ.mono ?_
  rintro e w6 ⟨ma, mc, rfl, hrow1, hb6⟩
  clear hZ
  go_wp2_with fail
  refine (HM.out _ hb6).mono ?_
  rintro e w7 ⟨mb, md, rfl, hrow2, hb7⟩
  have hB7 : Below w1.heap.size w1 w7 := (hB5.trans (hb6.mono hB5.size)).trans (hb7.mono (Nat.le_trans hB5.size hb6.size))
  go_wp2_with fail
  refine (same27 ma mb marks.length mc md _ _ (by omega) (hrow1.below hb7) hrow2).mono ?_
  rintro e w8 ⟨rfl, hb8⟩
  go_wp2
  go_ret
  exact ⟨rfl, hB7.trans (hb8.mono hB7.size)⟩

end Go.Proofs.Qxb6602024a
