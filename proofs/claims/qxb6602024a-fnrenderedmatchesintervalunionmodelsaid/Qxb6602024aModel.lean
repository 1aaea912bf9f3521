/-
  The walk of renderModel.
-/
import Derived.Test.Qxb6602024aBufs
namespace Go.Proofs.Qxb6602024a
open Go.RowKit Go.Deep Rd

def drow (g : Nat → Int) : Nat → Value := fun p => .int .i64 (g p)
def brow (c : Nat → Bool) : Nat → Value := fun p => .bool (c p)

/-- Covered or not. -/
def covM (S T : Nat → Nat) (m : Nat) (p : Nat) : Bool := decide (0 < cn S T p m)

def ints (S : Nat → Nat) : Nat → Int := fun k => (S k : Int)

/-- What the model answers. -/
structure Answer (S T : Nat → Nat) (m : Nat) (zb : Nat → UInt8) (N n : Nat) (out : List UInt8) (marks : List Nat) : Prop where
  eq : M (covM S T m) zb (2 * n + 1) = (out, marks)

def tailOf (N n : Nat) : List UInt8 := if n < N then [10] else []

def RetText (w : World) (out : List UInt8) (marks : List Nat) (e : Ending) (w' : World) : Prop :=
  ∃ ma mc, e = .returned (.tuple #[.string ⟨out.toArray⟩, .slice ma marks.length mc]) ∧ RowAt .i64 w' ma marks.length (fun j => ((marks.getD j 0 : Nat) : Int)) ∧ Below w.heap.size w w'

theorem drow_upd (g : Nat → Int) (v : Nat) (x : Int) (i : Nat) : (if i = v then Value.int .i64 x else drow g i) = drow (updI g v x) i := by
  unfold drow updI
  split <;> rfl

/-- The differences, when k spans are laid. -/
structure Mod1 (w wr : World) (n : Nat) (g : Nat → Int) : Prop where
  below : Below w.heap.size w wr
  row : wr.rowIs w.heap.size 3 (2 * n + 2) (drow g)
  size : wr.heap.size = w.heap.size + 1

theorem Mod1.start (w : World) (n : Nat) : Mod1 w (w.alloc (.cells (madeCells #[.int .i64 0] (2 * n + 2)) 3)) n (fun _ => 0) :=
  ⟨(Below.refl _ _).alloc (Nat.le_refl _) _, World.rowIs_made w (.int .i64 0) (2 * n + 2) 3, by simp⟩

theorem Mod1.set {w wr : World} {n : Nat} {g : Nat → Int} (h : Mod1 w wr n g) (p : Nat) (x : Int) : Mod1 w (wr.setCell ⟨w.heap.size, p, none⟩ (.int .i64 x)) n (updI g p x) :=
  ⟨h.below.setCell (Nat.le_refl _) _, (h.row.set p _).congr (fun i _ => drow_upd g p x i), by simp [World.setCell, h.size]⟩

/-- The coverage, when p points are reckoned. -/
structure Mod2 (w wr : World) (n : Nat) (g : Nat → Int) (c : Nat → Bool) (p : Nat) : Prop where
  below : Below w.heap.size w wr
  row : wr.rowIs w.heap.size 3 (2 * n + 2) (drow g)
  cov : wr.rowIs (w.heap.size + 1) 4 (2 * n + 1) (brow (fun q => if q < p then c q else false))

theorem Mod2.start {w wr : World} {n : Nat} {g : Nat → Int} (h : Mod1 w wr n g) (c : Nat → Bool) : Mod2 w (wr.alloc (.cells (madeCells #[.bool false] (2 * n + 1)) 4)) n g c 0 := by
  have h2 := World.rowIs_made wr (.bool false) (2 * n + 1) 4
  rw [h.size] at h2
  exact ⟨h.below.alloc (by rw [h.size]; omega) _, h.row.alloc _, h2.congr (fun i _ => by simp [brow])⟩

theorem Mod2.set {w wr : World} {n : Nat} {g : Nat → Int} {c : Nat → Bool} {p : Nat} (h : Mod2 w wr n g c p) {t : Bool} (ht : t = c p) : Mod2 w (wr.setCell ⟨w.heap.size + 1, p, none⟩ (.bool t)) n g c (p + 1) := by
  refine ⟨h.below.setCell (by show w.heap.size ≤ w.heap.size + 1; omega) _, h.row.setOther (by show w.heap.size ≠ w.heap.size + 1; omega) _, (h.cov.set p _).congr (fun i _ => ?_)⟩
  unfold brow
  by_cases e : i = p
  · subst e; simp [ht]
  · rw [if_neg e]
    show Value.bool (if i < p then c i else false) = Value.bool (if i < p + 1 then c i else false)
    by_cases hl : i < p
    · rw [if_pos hl, if_pos (by omega)]
    · rw [if_neg hl, if_neg (by omega)]

/-- The scan, when p points are through. -/
structure Mod3 (w wr : World) (n : Nat) (c : Nat → Bool) (oa : Option Addr) (oc : Nat) (out : List UInt8) (ma : Option Addr) (mc : Nat) (marks : List Nat) : Prop where
  below : Below w.heap.size w wr
  cov : wr.rowIs (w.heap.size + 1) 4 (2 * n + 1) (brow c)
  bufs : Bufs wr (w.heap.size + 2) oa oc out ma mc marks

theorem Mod3.start {w wr : World} {n : Nat} {g : Nat → Int} {c : Nat → Bool} (h : Mod2 w wr n g c (2 * n + 1)) : Mod3 w wr n c none 0 [] none 0 [] :=
  ⟨h.below, h.cov.congr (fun i hi => by show Value.bool (if i < 2 * n + 1 then c i else false) = Value.bool (c i); rw [if_pos hi]), Bufs.start wr _ (by have := h.cov.lt; omega)⟩

theorem Mod3.alloc {w wr : World} {n : Nat} {c : Nat → Bool} {oa : Option Addr} {oc : Nat} {out : List UInt8} {ma : Option Addr} {mc : Nat} {marks : List Nat} (h : Mod3 w wr n c oa oc out ma mc marks) (o : Obj) : Mod3 w (wr.alloc o) n c oa oc out ma mc marks :=
  ⟨h.below.alloc (by have := h.below.size; omega) _, h.cov.alloc _, h.bufs.alloc _⟩

theorem Mod3.putOut {w wr w1 : World} {n : Nat} {c : Nat → Bool} {oa : Option Addr} {oc : Nat} {out : List UInt8} {ma : Option Addr} {mc : Nat} {marks : List Nat} (h : Mod3 w wr n c oa oc out ma mc marks) {v : Value} (l : List UInt8) {k : Nat} (hk : k = l.length)
    (hown : w1.ownsRow (w.heap.size + 2) 5 1 v (out.length + k) (Lib.byteCells out ++ Lib.byteCells l)) (hg : wr.grownBy w1 (Value.slice oa out.length oc).ownBlock) :
    ∃ oa' oc', v = .slice oa' (out ++ l).length oc' ∧ Mod3 w w1 n c oa' oc' (out ++ l) ma mc marks := by
  obtain ⟨oa', oc', hv, hB⟩ := h.bufs.putOut l hk hown hg
  exact ⟨oa', oc', hv, h.below.grown hg (by have := h.below.size; omega) (fun k hk => by have := (h.bufs.out.lt k hk).1; omega), rowIs_grown h.cov hg (owns_row_ne h.bufs.out (by omega)), hB⟩

theorem Mod3.putMark {w wr w1 : World} {n : Nat} {c : Nat → Bool} {oa : Option Addr} {oc : Nat} {out : List UInt8} {ma : Option Addr} {mc : Nat} {marks : List Nat} (h : Mod3 w wr n c oa oc out ma mc marks) {v : Value} (k : Nat)
    (hown : w1.ownsRow (w.heap.size + 2) 3 1 v (marks.length + 1) (markCells marks ++ [.int .i64 (k : Int)])) (hg : wr.grownBy w1 (Value.slice ma marks.length mc).ownBlock) :
    ∃ ma' mc', v = .slice ma' (marks ++ [k]).length mc' ∧ Mod3 w w1 n c oa oc out ma' mc' (marks ++ [k]) := by
  obtain ⟨ma', mc', hv, hB⟩ := h.bufs.putMark k hown hg
  exact ⟨ma', mc', hv, h.below.grown hg (by have := h.below.size; omega) (fun k hk => by have := (h.bufs.marks.lt k hk).1; omega), rowIs_grown h.cov hg (owns_row_ne h.bufs.marks (by omega)), hB⟩

theorem red_cells : Lib.strCells ⟨#[91, 82, 69, 68, 65, 67, 84, 69, 68, 93]⟩ = Lib.byteCells red := rfl

set_option maxRecDepth 100000 in
set_option maxHeartbeats 2000000 in
theorem model26 (ao so to : Option Addr) (N cap m mcap qcap n : Nat) (zb : Nat → UInt8) (S T : Nat → Nat) (w : World) (hN : N ≤ 65536) (hn : n ≤ N) (hm : m ≤ 65536)
    (hfit : ∀ k, k < m → S k ≤ T k ∧ T k ≤ n) (ha : RowAt .u8 w ao N (nums zb)) (hs : RowAt .i64 w so m (ints S)) (ht : RowAt .i64 w to m (ints T)) :
    Calls Try.prog 26 #[.slice ao N cap, .int .i64 (n : Int), .slice so m mcap, .slice to m qcap] w fun e w' =>
      RetText w ((M (covM S T m) zb (2 * n + 1)).1 ++ tailOf N n) (M (covM S T m) zb (2 * n + 1)).2 e w' := by
  have hmk1 := run_make_row' (P := Try.prog) 31 3 (.int .i64 0) 8 Try.underlying31 Try.info3 rfl .i64 .i64 (2 * n + 2) (by omega) (by omega)
  have ec1 : ((2 * n + 2 : Nat) : Int) = 2 * (n : Int) + 1 + 1 := by omega
  rw [ec1] at hmk1
  have hmk2 := run_make_row' (P := Try.prog) 48 4 (.bool false) 1 Try.underlying48 Try.info4 rfl .i64 .i64 (2 * n + 1) (by omega) (by omega)
  have ec2 : ((2 * n + 1 : Nat) : Int) = 2 * (n : Int) + 1 := by omega
  rw [ec2] at hmk2
  clear ec1 ec2
  go_enter Try.func26, Try.ntmps26
  go_wp2_with fail
  clear hmk1
  go_loopw [12] (fun i wr => ∃ k : Nat, k ≤ m ∧ i = .int .i64 k ∧ Mod1 w wr n (dl S T k)) (fun i _ => m - (intOf i).toNat)
  case atStart => exact ⟨0, Nat.zero_le _, rfl, Mod1.start w n⟩
  case round =>
    obtain ⟨k, hk, rfl, hM⟩ := hrel
    by_cases hlt : k < m
    · obtain ⟨b, off, rfl, h1⟩ := hs k hlt
      obtain ⟨b', off', rfl, h2⟩ := ht k hlt
      obtain ⟨hf1, hf2⟩ := hfit k hlt
      have hb : b < w.heap.size := World.block_lt_of_cell? _ _ h1
      have hb' : b' < w.heap.size := World.block_lt_of_cell? _ _ h2
      have g1 : wr.cell? ⟨b, off + k, none⟩ = some (.int .i64 (S k : Int)) := (hM.below.cell (p := ⟨b, off + k, none⟩) hb).trans h1
      have g2 : wr.cell? ⟨b', off' + k, none⟩ = some (.int .i64 (T k : Int)) := (hM.below.cell (p := ⟨b', off' + k, none⟩) hb').trans h2
      have g3 : wr.cell? ⟨w.heap.size, 2 * S k, none⟩ = some (.int .i64 (dl S T k (2 * S k))) := hM.row.cell (by omega)
      have g4 : wr.cell? ⟨w.heap.size, 2 * T k + 1, none⟩ = some (.int .i64 (dl S T k (2 * T k + 1))) := hM.row.cell (by omega)
      have f1 := hM.row.frozen (2 * S k)
      have f2 := hM.row.frozen (2 * T k + 1)
      have bd1 := dl_bd S T k (2 * S k)
      have bd2 := dl_bd S T k (2 * T k + 1)
      have HS : Hid (Mod1 w ((wr.setCell ⟨w.heap.size, 2 * S k, none⟩ (.int .i64 (dl S T k (2 * S k) + 1))).setCell ⟨w.heap.size, 2 * T k + 1, none⟩ (.int .i64 (dl S T k (2 * T k + 1) - 1))) n (dl S T (k + 1))) := (hM.set _ _).set _ _
      clear h1 h2 hM hs ht ha hfit
      generalize hS' : dl S T (k + 1) = g' at HS
      generalize dl S T k (2 * S k) = x at *
      generalize dl S T k (2 * T k + 1) = y at *
      have HG : Hid (dl S T (k + 1) = g') := hS'
      clear hS'
      generalize hsk : S k = sk at *
      generalize htk : T k = tk at *
      clear hsk htk
      go_wp2
      go_roundw
      case rel => exact ⟨k + 1, by omega, by go_num, by rw [HG.out]; exact HS.out⟩
      case measure => simp [intOf]; omega
    · obtain rfl : m = k := by omega
      have hle : ∀ k, k < m → S k ≤ T k := fun k hk => (hfit k hk).1
      have hM2 : Hid (Mod2 w (wr.alloc (.cells (madeCells #[.bool false] (2 * n + 1)) 4)) n (dl S T m) (covM S T m) 0) := Mod2.start hM _
      have hsz := hM.size
      clear hM hlt hk
      go_wp2
      clear hmk2 hsz
      go_loopw [14, 15] (fun r i wr => ∃ p : Nat, p ≤ 2 * n + 1 ∧ i = .int .i64 p ∧ r = .int .i64 (sm (dl S T m) p) ∧ Mod2 w wr n (dl S T m) (covM S T m) p) (fun _ i _ => 2 * n + 1 - (intOf i).toNat)
      case atStart => exact ⟨0, Nat.zero_le _, rfl, rfl, hM2.out⟩
      case round =>
        clear hM2
        obtain ⟨p, hp, rfl, rfl, hM⟩ := hrel
        by_cases hlt : p < 2 * n + 1
        · have g1 : wr.cell? ⟨w.heap.size, p, none⟩ = some (.int .i64 (dl S T m p)) := hM.row.cell (by omega)
          have g2 := hM.cov.cell hlt
          have f2 := hM.cov.frozen p
          have bd := dl_bd S T m p
          have hsm : sm (dl S T m) p + dl S T m p = (cn S T p m : Int) := sm_dl S T p m hle
          have bd2 := cn_le S T p m
          have HS : Hid (sm (dl S T m) (p + 1) = sm (dl S T m) p + dl S T m p) := rfl
          have HM : Hid (∀ t : Bool, t = covM S T m p → Mod2 w (wr.setCell ⟨w.heap.size + 1, p, none⟩ (.bool t)) n (dl S T m) (covM S T m) (p + 1)) := fun t ht => hM.set ht
          have HC : Hid (covM S T m p = decide (0 < cn S T p m)) := rfl
          have HX : Hid (sm (dl S T m) p + dl S T m p = (cn S T p m : Int)) := hsm
          have bd3 : -65536 ≤ sm (dl S T m) p ∧ sm (dl S T m) p ≤ 131072 := by omega
          clear hM hsm
          generalize dl S T m p = x at *
          generalize hr : sm (dl S T m) p = r at *
          generalize cn S T p m = c at *
          clear hr
          go_wp2
          go_roundw
          case rel => exact ⟨p + 1, by omega, by go_num, val_int HS.out.symm, HM.out _ (by rw [HC.out, HX.out]; simp)⟩
          case measure => simp [intOf]; omega
        · obtain rfl : 2 * n + 1 = p := by omega
          have hM3 : Hid (Mod3 w wr n (covM S T m) none 0 [] none 0 []) := Mod3.start hM
          clear hM hlt hp hle hfit hs ht
          generalize hcv : covM S T m = cov at hM3
          have HCV : Hid (covM S T m = cov) := hcv
          clear hcv
          go_wp2
          obtain ⟨i3, hi3, hz30, hz31, hz32⟩ := info_parts Try.info3
          obtain ⟨i5, hi5, hz50, hz51, hz52⟩ := info_parts Try.info5
          go_loopw [16, 17, 18] (fun vo vm i wr => ∃ (p : Nat) (oa : Option Addr) (oc : Nat) (out : List UInt8) (ma : Option Addr) (mc : Nat) (marks : List Nat), p ≤ 2 * n + 1 ∧ i = .int .i64 p ∧ vo = .slice oa out.length oc ∧ vm = .slice ma marks.length mc ∧
              Mod3 w wr n cov oa oc out ma mc marks ∧ Hid (M cov zb p = (out, marks))) (fun _ _ i _ => 2 * n + 1 - (intOf i).toNat)
          case atStart => exact ⟨0, none, 0, [], none, 0, [], Nat.zero_le _, rfl, rfl, rfl, hM3.out, rfl⟩
          case round =>
            clear hM3
            obtain ⟨p, oa, oc, out, ma, mc, marks, hp, rfl, rfl, rfl, hM, hE⟩ := hrel
            have hlen := M_len cov zb p
            rw [hE.out] at hlen
            obtain ⟨hl1, hl2⟩ := hlen
            simp only at hl1 hl2
            by_cases hlt : p < 2 * n + 1
            · have HE : Hid (M cov zb (p + 1) = mstep cov zb p (out, marks)) := by show M cov zb (p + 1) = _; rw [← hE.out]; rfl
              clear hE
              have hc : wr.cell? ⟨w.heap.size + 1, p, none⟩ = some (.bool (cov p)) := hM.cov.cell hlt
              have hbs := hM.bufs.base_le
              have hpar : ((p : Int) % 2 == 1) = true ∨ ((p : Int) % 2 == 1) = false := by cases ((p : Int) % 2 == 1) <;> simp
              cases hcp : cov p with
              | true =>
                rw [hcp] at hc
                by_cases hop : p = 0 ∨ cov (p - 1) = false
                · have HE2 : Hid (M cov zb (p + 1) = (out ++ red, marks ++ [out.length])) := by show M cov zb (p + 1) = _; rw [HE.out, mstep_open _ hcp hop]
                  clear HE hcp
                  have hway : ((p : Int) == 0) = true ∨ (((p : Int) == 0) = false ∧ (1 : Int) ≤ (p : Int) ∧ wr.cell? ⟨w.heap.size + 1, p - 1, none⟩ = some (.bool false)) := by
                    by_cases h0 : p = 0
                    · left; simp [h0]
                    · right
                      rcases hop with h | h
                      · exact absurd h h0
                      · exact ⟨by simp; omega, by omega, by rw [hM.cov.cell (show p - 1 < 2 * n + 1 by omega)]; simp [brow, h]⟩
                  clear hop
                  have c2 : ∀ u ∈ [Value.int .i64 (out.length : Int)], u.oneCell' = true := fun u hu => by simp at hu; subst hu; rfl
                  have c3 : marks.length + 1 ≤ maxLen := by unfold maxLen; omega
                  have c4 : (marks.length + 1) * 8 ≤ 140737488355328 := by omega
                  have c5 : w.heap.size + 2 ≤ (wr.alloc (.cells #[.int .i64 (out.length : Int)] 3)).heap.size := by simp; omega
                  have C2 : Hid (∀ u ∈ [Value.int .i64 (out.length : Int)], u.oneCell' = true) := c2
                  have C3 : Hid (marks.length + 1 ≤ maxLen) := c3
                  have C5 : Hid (w.heap.size + 2 ≤ (wr.alloc (.cells #[.int .i64 (out.length : Int)] 3)).heap.size) := c5
                  have D3 : Hid (out.length + (ByteArray.mk #[91, 82, 69, 68, 65, 67, 84, 69, 68, 93]).size ≤ maxLen) := by
                    show out.length + 10 ≤ maxLen
                    unfold maxLen; omega
                  have D4 : Hid (out.length + (ByteArray.mk #[91, 82, 69, 68, 65, 67, 84, 69, 68, 93]).size ≤ 140737488355328) := by
                    show out.length + 10 ≤ 140737488355328
                    omega
                  clear c2 c3 c5
                  rcases hway with h0 | ⟨h0, h1, h2⟩
                  all_goals
                    go_wp2_with (at_builtin; refine wpList_append_own _ rfl (.tmp 91) (.tmp 94) 31 rfl (w.heap.size + 2) 3 i3 (.int .i64 0) 1 8 Try.underlying31 hi3 hz30 hz31 hz32 rfl (by decide) _ _ _ rfl (hM.bufs.marks.alloc _) ⟨wr.heap.size, 0, none⟩ 1 1 [.int .i64 (out.length : Int)] rfl rfl (cell_one_new _ _ _) C2.out C3.out c4 C5.out ?_)
                    intro v' w1 hown' hgrow hnn
                    clear hnn
                    obtain ⟨ma', mc', rfl, hM1⟩ := (hM.alloc _).putMark out.length hown' hgrow
                    generalize marks ++ [out.length] = marks2 at HE2 hM1 ⊢
                    have hlt1 : w.heap.size + 2 ≤ w1.heap.size := hM1.bufs.base_le
                    have hc1 : w1.cell? ⟨w.heap.size + 1, p, none⟩ = some (.bool true) := by
                      rw [hM1.cov.cell hlt]
                      have := hM.cov.cell hlt
                      rw [hc] at this
                      exact this.symm
                    clear hown' hgrow
                    go_wp2_with (at_builtin; refine Lib.wpList_append_own_string _ rfl (.tmp 96) (.const (.string ⟨#[91, 82, 69, 68, 65, 67, 84, 69, 68, 93]⟩)) 22 9 rfl (w.heap.size + 2) 5 i5 Try.underlying22 Try.underlying9 hi5 hz50 hz51 hz52 _ _ _ rfl hM1.bufs.out ⟨#[91, 82, 69, 68, 65, 67, 84, 69, 68, 93]⟩ rfl D3.out D4.out hlt1 ?_)
                    intro v2 w2 hown2 hgrow2 hnn
                    clear hnn
                    rw [red_cells] at hown2
                    obtain ⟨oa', oc', rfl, hM2⟩ := hM1.putOut red rfl hown2 hgrow2
                    have hc2 : w2.cell? ⟨w.heap.size + 1, p, none⟩ = some (.bool true) := by
                      rw [hM2.cov.cell hlt]
                      have := hM1.cov.cell hlt
                      rw [hc1] at this
                      exact this.symm
                    clear hown2 hgrow2 hM1 hM hc hc1 C2 C3 c4 C5 D3 D4
                    generalize out ++ red = out2 at HE2 hM2 ⊢
                    rcases hpar with hp1 | hp1
                    all_goals
                      go_wp2
                      go_roundw
                      case rel => (repeat apply Exists.intro); exact ⟨⟨p + 1, _, _, out2, _, _, marks2, by omega, by go_num, rfl, rfl, hM2, HE2⟩, rfl⟩
                      case measure => simp [intOf]; omega
                · have hp0 : p ≠ 0 := fun h => hop (Or.inl h)
                  have hpc : cov (p - 1) = true := by simpa using fun h => hop (Or.inr h)
                  have HE2 : Hid (M cov zb (p + 1) = (out, marks)) := by show M cov zb (p + 1) = _; rw [HE.out, mstep_in _ hcp hp0 hpc]
                  have h2 : wr.cell? ⟨w.heap.size + 1, p - 1, none⟩ = some (.bool true) := by rw [hM.cov.cell (show p - 1 < 2 * n + 1 by omega)]; simp [brow, hpc]
                  have h0 : ((p : Int) == 0) = false := by simp; omega
                  have h1 : (1 : Int) ≤ (p : Int) := by omega
                  clear HE hcp hop hpc hp0
                  rcases hpar with hp1 | hp1
                  all_goals
                    go_wp2
                    go_roundw
                    case rel => exact ⟨p + 1, oa, oc, out, ma, mc, marks, by omega, by go_num, rfl, rfl, hM, HE2⟩
                    case measure => simp [intOf]; omega
              | false =>
                rw [hcp] at hc
                rcases hpar with hp1 | hp1
                · have hodd : p % 2 = 1 := by simp at hp1; omega
                  have HE2 : Hid (M cov zb (p + 1) = (out ++ [zb (p / 2)], marks)) := by show M cov zb (p + 1) = _; rw [HE.out, mstep_byte _ hcp hodd]
                  obtain ⟨b, off, rfl, hr⟩ := ha (p / 2) (by omega)
                  have hr2 : wr.cell? ⟨b, off + p / 2, none⟩ = some (.int .u8 ((zb (p / 2)).toNat : Int)) := (hM.below.cell (p := ⟨b, off + p / 2, none⟩) (World.block_lt_of_cell? _ _ hr)).trans hr
                  have hidx : (p : Int) / 2 < (N : Int) := by omega
                  have c2 : Hid (∀ u ∈ [Value.int .u8 ((zb (p / 2)).toNat : Int)], u.oneCell' = true) := fun u hu => by simp at hu; subst hu; rfl
                  have c3 : Hid (out.length + 1 ≤ maxLen) := by show out.length + 1 ≤ maxLen; unfold maxLen; omega
                  have c4 : (out.length + 1) * 1 ≤ 140737488355328 := by omega
                  have c5 : Hid (w.heap.size + 2 ≤ (wr.alloc (.cells #[.int .u8 ((zb (p / 2)).toNat : Int)] 5)).heap.size) := by show w.heap.size + 2 ≤ _; simp; omega
                  have HB : Hid (Lib.byteCells [zb (p / 2)] = [.int .u8 ((zb (p / 2)).toNat : Int)]) := rfl
                  clear HE hcp hr hodd
                  generalize zb (p / 2) = ch at *
                  go_wp2_with (at_builtin; refine wpList_append_own _ rfl (.tmp 108) (.tmp 114) 22 rfl (w.heap.size + 2) 5 i5 (.int .u8 0) 1 1 Try.underlying22 hi5 hz50 hz51 hz52 rfl (by decide) _ _ _ rfl (hM.bufs.out.alloc _) ⟨wr.heap.size, 0, none⟩ 1 1 [.int .u8 (ch.toNat : Int)] rfl rfl (cell_one_new _ _ _) c2.out c3.out c4 c5.out ?_)
                  intro v' w1 hown' hgrow hnn
                  clear hnn
                  rw [← HB.out] at hown'
                  obtain ⟨oa', oc', rfl, hM1⟩ := (hM.alloc _).putOut [ch] rfl hown' hgrow
                  clear hown' hgrow hM hc c2 c3 c4 c5 HB
                  generalize out ++ [ch] = out2 at HE2 hM1 ⊢
                  go_wp2
                  go_roundw
                  case rel => (repeat apply Exists.intro); exact ⟨⟨p + 1, _, _, out2, ma, mc, marks, by omega, by go_num, rfl, rfl, hM1, HE2⟩, rfl⟩
                  case measure => simp [intOf]; omega
                · have heven : p % 2 ≠ 1 := by simp at hp1; omega
                  have HE2 : Hid (M cov zb (p + 1) = (out, marks)) := by show M cov zb (p + 1) = _; rw [HE.out, mstep_gap _ hcp heven]
                  clear HE hcp heven
                  go_wp2
                  go_roundw
                  case rel => exact ⟨p + 1, oa, oc, out, ma, mc, marks, by omega, by go_num, rfl, rfl, hM, HE2⟩
                  case measure => simp [intOf]; omega
            · obtain rfl : 2 * n + 1 = p := by omega
              clear hlt hp
              have hbs := hM.bufs.base_le
              by_cases hnl : n < N
              · have hnl' : (n : Int) < (N : Int) := by omega
                have HT : Hid (tailOf N n = [10]) := by show tailOf N n = _; unfold tailOf; rw [if_pos hnl]
                have c2 : Hid (∀ u ∈ [Value.int .u8 10], u.oneCell' = true) := fun u hu => by simp at hu; subst hu; rfl
                have c3 : Hid (out.length + 1 ≤ maxLen) := by show out.length + 1 ≤ maxLen; unfold maxLen; omega
                have c4 : (out.length + 1) * 1 ≤ 140737488355328 := by omega
                have c5 : Hid (w.heap.size + 2 ≤ (wr.alloc (.cells #[.int .u8 10] 5)).heap.size) := by show w.heap.size + 2 ≤ _; simp; omega
                have HB : Hid (Lib.byteCells [10] = [.int .u8 10]) := rfl
                go_wp2_with (at_builtin; refine wpList_append_own _ rfl (.tmp 120) (.tmp 121) 22 rfl (w.heap.size + 2) 5 i5 (.int .u8 0) 1 1 Try.underlying22 hi5 hz50 hz51 hz52 rfl (by decide) _ _ _ rfl (hM.bufs.out.alloc _) ⟨wr.heap.size, 0, none⟩ 1 1 [.int .u8 10] rfl rfl (cell_one_new _ _ _) c2.out c3.out c4 c5.out ?_)
                intro v' w1 hown' hgrow hnn
                clear hnn
                rw [← HB.out] at hown'
                obtain ⟨oa', oc', rfl, hM1⟩ := (hM.alloc _).putOut [10] rfl hown' hgrow
                have hconv := hM1.bufs.asText
                have HR : Hid (RowAt .i64 w1 ma marks.length (fun j => ((marks.getD j 0 : Nat) : Int))) := hM1.bufs.markRow
                have HW : Hid (Below w.heap.size w w1) := hM1.below
                have HA : Hid (∀ e, RetText w (out ++ [10]) marks e w1 → RetText w ((M (covM S T m) zb (2 * n + 1)).1 ++ tailOf N n) (M (covM S T m) zb (2 * n + 1)).2 e w1) := fun e he => by rw [HCV.out, hE.out, HT.out]; exact he
                clear hown' hgrow hM hM1 c2 c3 c4 c5 HB hE HT
                generalize out ++ [10] = out2 at *
                go_wp2
                go_ret2
                exact HA.out _ ⟨ma, mc, rfl, HR.out, HW.out⟩
              · have hnl' : ¬ (n : Int) < (N : Int) := by omega
                have HT : Hid (tailOf N n = []) := by show tailOf N n = _; unfold tailOf; rw [if_neg hnl]
                have hconv := hM.bufs.asText
                have HR : Hid (RowAt .i64 wr ma marks.length (fun j => ((marks.getD j 0 : Nat) : Int))) := hM.bufs.markRow
                have HW : Hid (Below w.heap.size w wr) := hM.below
                have HA : Hid (∀ e, RetText w out marks e wr → RetText w ((M (covM S T m) zb (2 * n + 1)).1 ++ tailOf N n) (M (covM S T m) zb (2 * n + 1)).2 e wr) := fun e he => by rw [HCV.out, hE.out, HT.out, List.append_nil]; exact he
                clear hM hE HT
                go_wp2
                go_ret2
                exact HA.out _ ⟨ma, mc, rfl, HR.out, HW.out⟩

end Go.Proofs.Qxb6602024a
