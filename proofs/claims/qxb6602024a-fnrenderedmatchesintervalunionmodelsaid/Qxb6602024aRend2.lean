/-
  rendered: its walk.
-/
import Derived.Test.Qxb6602024aRend
import Derived.Test.Qxb6602024aModel
import Derived.Lib.SmallJoins
import Derived.Lib.SlBytesConst
namespace Go.Proofs.Qxb6602024a
open Go.RowKit Go.Deep Rd

def RetRes (w0 : World) (text : List UInt8) (marks : List Nat) (e : Ending) (w' : World) : Prop :=
  ∃ ma mc, e = .returned (.agg #[.string ⟨text.toArray⟩, .slice ma marks.length mc]) ∧ RowAt .i64 w' ma marks.length (fun j => ((marks.getD j 0 : Nat) : Int)) ∧ Below w0.heap.size w0 w'

set_option maxRecDepth 100000 in
set_option maxHeartbeats 400000 in
theorem rend34_none (ao so : Option Addr) (sc : Nat) (l : List UInt8) (w0 w : World) (hb : Below w0.heap.size w0 w) (hconv : ∀ W, Below w0.heap.size w0 W → (convert 22 9 (.slice ao l.length l.length)).run Try.prog W = .ok (.string ⟨l.toArray⟩) W) :
    Calls Try.prog 34 #[.slice ao l.length l.length, .slice so 0 sc] w fun e w' => RetRes w0 l [] e w' := by
  have hc := hconv _ (hb.alloc hb.size (.cells #[.string ⟨#[]⟩, .slice none 0 0] 46))
  go_enter Try.func34, Try.ntmps34
  go_wp2
  refine bodyPost_ret (v := .agg #[.string ⟨l.toArray⟩, .slice none 0 0]) (by simp [results, Try.results34, go_sem]) rfl ?_
  exact ⟨none, 0, rfl, fun j hj => absurd hj (Nat.not_lt_zero _), hb.alloc hb.size _⟩

set_option maxRecDepth 100000 in
set_option maxHeartbeats 4000000 in
theorem rend34_some (ao : Option Addr) (N m n : Nat) (zb : Nat → UInt8) (f0 : Nat → Nat × Nat) (cov : Nat → Bool) (w0 w : World) (hN : N ≤ 65536) (hm : m ≤ 65536) (hm0 : 0 < m) (hBL : BodyLen (nums zb) N n) (hnN : n ≤ N)
    (ha : RowAt .u8 w0 ao N (nums zb)) (hb : Below w0.heap.size w0 w) (hblk : w0.heap.size < w.heap.size) (hS : SpansAt w w0.heap.size m f0) (hfit : ∀ k, k < m → (f0 k).1 ≤ (f0 k).2 ∧ (f0 k).2 ≤ n) (hcov : ∀ p, cov p = true ↔ Cov m f0 p) :
    Calls Try.prog 34 #[.slice ao N N, .slice (some ⟨w0.heap.size, 0, none⟩) m m] w fun e w' => RetRes w0 ((M cov zb (2 * n + 1)).1 ++ tailOf N n) (M cov zb (2 * n + 1)).2 e w' := by
  have hm1 : ((m : Int) == 0) = false := by simp; omega
  have hcv := Go.Joins.run_convert_bytes_const_at (P := Try.prog) (w.alloc (.cells #[.string ⟨#[]⟩, .slice none 0 0] 46)) 22 5 #[.int .u8 10] 1 1 (w.heap.size + 1) (by simp) Try.underlying22 Try.underlying5
  generalize hw2 : ((w.alloc (.cells #[.string ⟨#[]⟩, .slice none 0 0] 46)).alloc (.cells #[.int .u8 10] 5 (1, 2))) = w2 at *
  have hbel : Below w.heap.size w w2 := by rw [← hw2]; exact ((Below.refl _ _).alloc (Nat.le_refl _) _).alloc (by simp) _
  have hb2 : Below w0.heap.size w0 w2 := hb.trans (hbel.mono hb.size)
  have hres : w2.heap[w.heap.size]? = some (.cells #[.string ⟨#[]⟩, .slice none 0 0] 46 (0, 0)) := by
    rw [← hw2, Below.heap_alloc _ _ _ (by simp)]; exact heap_alloc_new w _
  have h10 : w2.cell? ⟨w.heap.size + 1, 0, none⟩ = some (.int .u8 10) := by
    rw [← hw2, Go.Joins.cell_alloc_mark_at _ _ _ _ _ _ (by simp)]; rfl
  have hS2 : SpansAt w2 w0.heap.size m f0 := spans_of_block hS (hbel.block _ hblk)
  have hblk2 : w0.heap.size < w2.heap.size := Nat.lt_of_lt_of_le hblk hbel.size
  have hcv' : (convert 22 22 (.slice (some ⟨w.heap.size + 1, 0, none⟩) 1 1)).run Try.prog ((w.alloc (.cells #[.string ⟨#[]⟩, .slice none 0 0] 46)).alloc (.cells #[.int .u8 10] 5)) = .ok (.slice (some ⟨w.heap.size + 1, 0, none⟩) 1 1) w2 := hcv
  clear hcv hbel hS hw2
  obtain ⟨i3, hi3, hz30, hz31, hz32⟩ := info_parts Try.info3
  go_enter Try.func34, Try.ntmps34
  go_wp2_with fail
  refine (cut39 _ _ _ zb w0 _ hN ha hb2 h10).mono ?_
  rintro e w' ⟨⟨bo, n', bc, rfl, hBL', hBI⟩, rfl⟩
  obtain rfl := hBL.uniq hBL'
  generalize hnl : decide (n < N) = nl
  have HNL : Hid (decide (n < N) = nl) := hnl
  clear hnl hcv' h10 hBL' hm1
  go_wp2_with fail
  refine (sort40 w0.heap.size m m f0 _ (fun i hi => by have := hfit i hi; omega) hS2 hm hblk2).mono ?_
  rintro e w3 ⟨rfl, f, hS3, hmem, hsort, hgr⟩
  have hSp : Hid (Spans n m f cov) := spans_of hcov hfit hmem hsort
  have hRI : Hid (RI w0 (w3.alloc (.cells #[.pointer none, .slice none 0 0] 55)) w.heap.size w3.heap.size m f (.pointer none) none 0 [] none 0 []) := RI.start hb2 (by omega) hres hgr hS3
  clear hmem hsort hgr hS3 hS2 hres hcov hfit hb2 hblk2 hblk hb ha
  go_wp2_with fail
  have hb0 := w3
  clear hb0
  generalize hbq : w3.heap.size = b at *
  clear hbq
  go_loopw [8, 9, 10] (fun vm va vi wr => ∃ (i a : Nat) (p : Value) (oa : Option Addr) (oc : Nat) (out : List UInt8) (ma : Option Addr) (mc : Nat) (marks : List Nat), vm = .slice ma marks.length mc ∧ va = .int .i64 a ∧ vi = .int .i64 i ∧
      RI w0 wr w.heap.size b m f p oa oc out ma mc marks ∧ Hid (Outer n m f cov zb i a out marks) ∧ Hid (i = 0 ∨ 0 < out.length)) (fun _ _ vi _ => m - (intOf vi).toNat)
  case atStart => exact ⟨0, 0, _, none, 0, [], none, 0, [], rfl, rfl, rfl, hRI.out, Outer.start n m f cov zb, Or.inl rfl⟩
  case round =>
    clear hRI
    obtain ⟨i, a, p, oa, oc, out, ma, mc, marks, rfl, rfl, rfl, hR, hO, hne⟩ := hrel
    have hle := hO.out.i_le
    have han := hO.out.le
    obtain ⟨hl1, hl2⟩ := Outer.len hO.out
    by_cases hlt : i < m
    · have hli : (i : Int) < (m : Int) := by omega
      obtain ⟨⟨g1, g2⟩, -, -⟩ := hR.spans i hlt
      rw [Nat.mul_comm 2 i] at g1 g2
      have hin : Hid (Inner n m f cov i (i + 1) (f i).2) := Inner.start hSp.out hlt
      have hsb : Hid (SBlk (wr.alloc (.cells #[.int .i64 ((f i).1 : Int), .int .i64 ((f i).2 : Int)] 44)) wr.heap.size (f i).1 (f i).2) := heap_alloc_new wr _
      have hfi := hSp.out.fit i hlt
      generalize hx : (f i).1 = x at *
      generalize hy : (f i).2 = y at *
      have HX : Hid ((f i).1 = x) := hx
      clear hx hy
      go_wp2_with fail
      obtain ⟨wo, hwo⟩ : ∃ x, x = wr := ⟨wr, rfl⟩
      subst hwo
      clear g1 g2
      go_loopw [10] (fun vi wi => ∃ (j e : Nat), vi = .int .i64 j ∧ Below wo.heap.size wo wi ∧ SBlk wi wo.heap.size x e ∧ Hid (Inner n m f cov i j e)) (fun vi _ => m - (intOf vi).toNat)
      case atStart => exact ⟨i + 1, y, by go_num, (Below.refl _ _).alloc (Nat.le_refl _) _, hsb.out, hin⟩
      case round =>
        clear hsb hin
        obtain ⟨j, e, rfl, hB, hs, hI⟩ := hrel
        have hI1 := hI.out.lt
        have hI2 := hI.out.i_le
        have hI3 := hI.out.le
        have hI4 : x ≤ e := by have := hI.out.se; rw [HX.out] at this; exact this
        have c0 := hs.cell0
        have c1 := hs.cell1
        have hfz := hs.frozen 1
        have hR2 : Hid (RI w0 wr w.heap.size b m f p oa oc out ma mc marks) := hR.onto hB
        by_cases hjm : j < m
        · have hji : (j : Int) < (m : Int) := by omega
          have hj0 : (0 : Int) ≤ (j : Int) := by omega
          obtain ⟨⟨g1, g2⟩, -, -⟩ := hR2.out.spans j hjm
          rw [Nat.mul_comm 2 j] at g1 g2
          by_cases hov : (f j).1 ≤ e
          · have hI' : Hid (Inner n m f cov i (j + 1) (max e (f j).2)) := hI.out.step hSp.out hjm hov
            generalize (f j).1 = x2 at *
            generalize (f j).2 = y2 at *
            have hov' : (x2 : Int) ≤ (e : Int) := by omega
            have HB : ∀ q z, Hid (Below wo.heap.size wo ((wr.drewN q).setCell ⟨wo.heap.size, 1, none⟩ z)) := fun q z => (below_drewN hB q).setCell (Nat.le_refl _) z
            have emax : ((max e y2 : Nat) : Int) = max (e : Int) (y2 : Int) := by omega
            have HS : ∀ q, Hid (SBlk ((wr.drewN q).setCell ⟨wo.heap.size, 1, none⟩ (.int .i64 (max (e : Int) (y2 : Int)))) wo.heap.size x (max e y2)) := fun q => by
              have h := SBlk.set1 (w := wr.drewN q) hs (max e y2)
              rw [emax] at h
              exact h
            clear emax
            clear hB hs hI hR hR2
            go_wp2
            go_quiet (fail)
            go_wp2
            go_region
            all_goals
              go_wp2
              exact ⟨⟨j + 1, max e y2, by go_num, (HB _ _).out, (HS _).out, hI'⟩, by simp [intOf]; omega⟩
          · have hx : j < m → e < (f j).1 := fun _ => by omega
            have hway : (((f j).1 : Int) ≤ (e : Int) → False) := fun h => by omega
            obtain ⟨hO', hax⟩ := hO.out.group hSp.out hI.out hx
            rw [HX.out] at hO' hax
            rw [show out.length + (x - a) = (out ++ slc zb a x).length by rw [List.length_append, slc_len]] at hO'
            have HO : Hid (Outer n m f cov zb j e (out ++ slc zb a x ++ red) (marks ++ [(out ++ slc zb a x).length])) := hO'
            have HR : ∀ q, Hid (RI w0 (wr.drewN q) w.heap.size b m f p oa oc out ma mc marks) := fun q => hR.onto (below_drewN hB q)
            have HSb : ∀ q, Hid (SBlk (wr.drewN q) wo.heap.size x e) := fun q => hs
            have hb0 : w0.heap.size ≤ b := by have := hR.lt; omega
            have hpp := hR.pp
            have HP1 : ∀ q, Hid (bc = a → PIn (wr.drewN q) b bo (x - a) 0 (slc zb a x)) := fun q h => by
              have h2 := hBI.cut (HR q).out.below hb0 hax (show x ≤ n by omega) (pa := bo) (by rw [if_pos h])
              rw [show bc - a = 0 by omega] at h2
              exact h2
            have HP2 : ∀ q, Hid (¬ bc = a → PIn (wr.drewN q) b (bo.map fun z => z.add a) (x - a) (bc - a) (slc zb a x)) := fun q h => hBI.cut (HR q).out.below hb0 hax (show x ≤ n by omega) (by rw [if_neg h])
            have hxb : (x : Int) ≤ (bc : Int) := by have := hBI.1; omega
            have hax' : (a : Int) ≤ (x : Int) := by omega
            have hlen1 : out.length + (slc zb a x).length ≤ 2000000 := by rw [slc_len]; omega
            clear hO' hO hI hR hR2 hx hs hB
            have hov' : decide (((f j).1 : Int) ≤ (e : Int)) = false := by simp; omega
            generalize (f j).1 = x2 at *
            generalize (f j).2 = y2 at *
            clear hway
            go_wp2
            go_quiet (fail)
            go_wp2_with fail
            all_goals
              try subst bc
              refine (write42 b (b + 1) p oa oc out (slc zb a x) _ _ _ _ (HR _).out.bl hpp (Nat.lt_succ_self b) (HR _).out.bufs.base_le (HR _).out.bufs.out (by omega) (by first | exact (HP1 _).out rfl | exact (HP2 _).out ‹_›)).mono ?_
              rintro e1 w1 ⟨rfl, hW⟩
              obtain ⟨oa1, oc1, hR1⟩ := (HR _).out.wrote hW
              have hS1 := (HR _).out.sWrote hW (HSb _).out
              have hl3 : (out ++ slc zb a x).length ≤ 2000000 := by rw [List.length_append]; omega
              have HL : Hid (0 < (out ++ slc zb a x ++ red).length) := by show 0 < _; rw [List.length_append]; show 0 < _ + 10; omega
              clear hW HR HSb HP1 HP2
              generalize out ++ slc zb a x = out1 at *
              go_wp2_with fail
              refine (len43 b _ _ _ _ _ hR1.bl).mono ?_
              rintro e2 w2 ⟨rfl, rfl⟩
              have hR2 := hR1.onto ((Below.refl _ _).alloc (Nat.le_refl _) (.cells #[.int .i64 (out1.length : Int)] 3))
              have hS2 : SBlk (w2.alloc (.cells #[.int .i64 (out1.length : Int)] 3)) wo.heap.size x e := (Below.heap_alloc _ _ _ hS1.lt).trans hS1
              have C2 : Hid (∀ u ∈ [Value.int .i64 (out1.length : Int)], u.oneCell' = true) := fun u hu => by simp at hu; subst hu; rfl
              have C3 : Hid (marks.length + 1 ≤ maxLen) := by show _ ≤ _; unfold maxLen; omega
              have C4 : (marks.length + 1) * 8 ≤ 140737488355328 := by omega
              have C5 : Hid (b + 1 ≤ (w2.alloc (.cells #[.int .i64 (out1.length : Int)] 3)).heap.size) := hR2.bufs.base_le
              go_wp2_with (at_builtin; refine wpList_append_own _ rfl (.tmp 68) (.tmp 70) 31 rfl (b + 1) 3 i3 (.int .i64 0) 1 8 Try.underlying31 hi3 hz30 hz31 hz32 rfl (by decide) _ _ _ rfl hR2.bufs.marks ⟨w2.heap.size, 0, none⟩ 1 1 [.int .i64 (out1.length : Int)] rfl rfl (cell_one_new _ _ _) C2.out C3.out C4 C5.out ?_)
              intro v' w3' hown' hgrow hnn
              clear hnn
              obtain ⟨ma', mc', rfl, hR3⟩ := hR2.mark out1.length hown' hgrow
              have hS3 := hR2.sMark hgrow hS2
              clear hown' hgrow C2 C3 C4 C5 hR1 hR2 hS1 hS2
              generalize marks ++ [out1.length] = marks1 at HO hR3 ⊢
              go_wp2_with fail
              refine (write44 b (b + 1) _ _ _ out1 _ hR3.bl hR3.pp (Nat.lt_succ_self b) hR3.bufs.base_le hR3.bufs.out (by omega)).mono ?_
              rintro e4 w4 ⟨rfl, hW4⟩
              obtain ⟨oa4, oc4, hR4⟩ := hR3.wrote hW4
              have hS4 := hR3.sWrote hW4 hS3
              clear hW4 hR3 hS3
              generalize out1 ++ red = out2 at *
              have d1 := hS4.cell1
              go_wp2
              go_roundw
              case rel => first | exact ⟨j, e, _, _, _, out2, _, _, marks1, rfl, rfl, rfl, hR4, HO, Or.inr HL.out⟩ | ((repeat apply Exists.intro); exact ⟨⟨j, e, _, _, _, out2, _, _, marks1, rfl, rfl, rfl, hR4, HO, Or.inr HL.out⟩, rfl⟩)
              case measure => simp [intOf]; omega
        · have hx : j < m → e < (f j).1 := fun h => absurd h hjm
          obtain ⟨hO', hax⟩ := hO.out.group hSp.out hI.out hx
          rw [HX.out] at hO' hax
          rw [show out.length + (x - a) = (out ++ slc zb a x).length by rw [List.length_append, slc_len]] at hO'
          have HO : Hid (Outer n m f cov zb j e (out ++ slc zb a x ++ red) (marks ++ [(out ++ slc zb a x).length])) := hO'
          have HR : ∀ q, Hid (RI w0 (wr.drewN q) w.heap.size b m f p oa oc out ma mc marks) := fun q => hR.onto (below_drewN hB q)
          have HSb : ∀ q, Hid (SBlk (wr.drewN q) wo.heap.size x e) := fun q => hs
          have hb0 : w0.heap.size ≤ b := by have := hR.lt; omega
          have hpp := hR.pp
          have HP1 : ∀ q, Hid (bc = a → PIn (wr.drewN q) b bo (x - a) 0 (slc zb a x)) := fun q h => by
            have h2 := hBI.cut (HR q).out.below hb0 hax (show x ≤ n by omega) (pa := bo) (by rw [if_pos h])
            rw [show bc - a = 0 by omega] at h2
            exact h2
          have HP2 : ∀ q, Hid (¬ bc = a → PIn (wr.drewN q) b (bo.map fun z => z.add a) (x - a) (bc - a) (slc zb a x)) := fun q h => hBI.cut (HR q).out.below hb0 hax (show x ≤ n by omega) (by rw [if_neg h])
          have hxb : (x : Int) ≤ (bc : Int) := by have := hBI.1; omega
          have hax' : (a : Int) ≤ (x : Int) := by omega
          have hlen1 : out.length + (slc zb a x).length ≤ 2000000 := by rw [slc_len]; omega
          clear hO' hO hI hR hR2 hx hs hB
          have hji : decide ((j : Int) < (m : Int)) = false := by simp; omega
          go_wp2
          go_quiet (fail)
          go_wp2_with fail
          all_goals
            try subst bc
            refine (write42 b (b + 1) p oa oc out (slc zb a x) _ _ _ _ (HR _).out.bl hpp (Nat.lt_succ_self b) (HR _).out.bufs.base_le (HR _).out.bufs.out (by omega) (by first | exact (HP1 _).out rfl | exact (HP2 _).out ‹_›)).mono ?_
            rintro e1 w1 ⟨rfl, hW⟩
            obtain ⟨oa1, oc1, hR1⟩ := (HR _).out.wrote hW
            have hS1 := (HR _).out.sWrote hW (HSb _).out
            have hl3 : (out ++ slc zb a x).length ≤ 2000000 := by rw [List.length_append]; omega
            have HL : Hid (0 < (out ++ slc zb a x ++ red).length) := by show 0 < _; rw [List.length_append]; show 0 < _ + 10; omega
            clear hW HR HSb HP1 HP2
            generalize out ++ slc zb a x = out1 at *
            go_wp2_with fail
            refine (len43 b _ _ _ _ _ hR1.bl).mono ?_
            rintro e2 w2 ⟨rfl, rfl⟩
            have hR2 := hR1.onto ((Below.refl _ _).alloc (Nat.le_refl _) (.cells #[.int .i64 (out1.length : Int)] 3))
            have hS2 : SBlk (w2.alloc (.cells #[.int .i64 (out1.length : Int)] 3)) wo.heap.size x e := (Below.heap_alloc _ _ _ hS1.lt).trans hS1
            have C2 : Hid (∀ u ∈ [Value.int .i64 (out1.length : Int)], u.oneCell' = true) := fun u hu => by simp at hu; subst hu; rfl
            have C3 : Hid (marks.length + 1 ≤ maxLen) := by show _ ≤ _; unfold maxLen; omega
            have C4 : (marks.length + 1) * 8 ≤ 140737488355328 := by omega
            have C5 : Hid (b + 1 ≤ (w2.alloc (.cells #[.int .i64 (out1.length : Int)] 3)).heap.size) := hR2.bufs.base_le
            go_wp2_with (at_builtin; refine wpList_append_own _ rfl (.tmp 68) (.tmp 70) 31 rfl (b + 1) 3 i3 (.int .i64 0) 1 8 Try.underlying31 hi3 hz30 hz31 hz32 rfl (by decide) _ _ _ rfl hR2.bufs.marks ⟨w2.heap.size, 0, none⟩ 1 1 [.int .i64 (out1.length : Int)] rfl rfl (cell_one_new _ _ _) C2.out C3.out C4 C5.out ?_)
            intro v' w3' hown' hgrow hnn
            clear hnn
            obtain ⟨ma', mc', rfl, hR3⟩ := hR2.mark out1.length hown' hgrow
            have hS3 := hR2.sMark hgrow hS2
            clear hown' hgrow C2 C3 C4 C5 hR1 hR2 hS1 hS2
            generalize marks ++ [out1.length] = marks1 at HO hR3 ⊢
            go_wp2_with fail
            refine (write44 b (b + 1) _ _ _ out1 _ hR3.bl hR3.pp (Nat.lt_succ_self b) hR3.bufs.base_le hR3.bufs.out (by omega)).mono ?_
            rintro e4 w4 ⟨rfl, hW4⟩
            obtain ⟨oa4, oc4, hR4⟩ := hR3.wrote hW4
            have hS4 := hR3.sWrote hW4 hS3
            clear hW4 hR3 hS3
            generalize out1 ++ red = out2 at *
            have d1 := hS4.cell1
            go_wp2
            go_roundw
            case rel => first | exact ⟨j, e, _, _, _, out2, _, _, marks1, rfl, rfl, rfl, hR4, HO, Or.inr HL.out⟩ | ((repeat apply Exists.intro); exact ⟨⟨j, e, _, _, _, out2, _, _, marks1, rfl, rfl, rfl, hR4, HO, Or.inr HL.out⟩, rfl⟩)
            case measure => simp [intOf]; omega
    · have him : i = m := by omega
      subst i
      have hfin := hO.out.finish hSp.out
      have hne' : 0 < out.length := by rcases hne.out with h | h <;> omega
      have HA : Hid (∀ e w'', RetRes w0 (out ++ slc zb a n ++ tailOf N n) marks e w'' → RetRes w0 ((M cov zb (2 * n + 1)).1 ++ tailOf N n) (M cov zb (2 * n + 1)).2 e w'') := fun e w'' he => by rw [hfin]; exact he
      have hb0 : w0.heap.size ≤ b := by have := hR.lt; omega
      have HP1 : Hid (bc = a → PIn wr b bo (n - a) 0 (slc zb a n)) := fun h => by
        have h2 := hBI.cut hR.below hb0 han (Nat.le_refl n) (pa := bo) (by rw [if_pos h])
        rw [show bc - a = 0 by omega] at h2
        exact h2
      have HP2 : Hid (¬ bc = a → PIn wr b (bo.map fun z => z.add a) (n - a) (bc - a) (slc zb a n)) := fun h => hBI.cut hR.below hb0 han (Nat.le_refl n) (by rw [if_neg h])
      have han' : (a : Int) ≤ (n : Int) := by omega
      have hlen1 : out.length + (slc zb a n).length ≤ 2000000 := by rw [slc_len]; omega
      clear hfin hO hlt hne
      go_wp2_with fail
      all_goals
        try subst bc
        refine (write42 b (b + 1) p oa oc out (slc zb a n) _ _ _ _ hR.bl hR.pp (Nat.lt_succ_self b) hR.bufs.base_le hR.bufs.out (by omega) (by first | exact HP1.out rfl | exact HP2.out ‹_›)).mono ?_
        rintro e1 w1 ⟨rfl, hW⟩
        obtain ⟨oa1, oc1, hR1⟩ := hR.wrote hW
        have hl3 : (out ++ slc zb a n).length ≤ 2000000 := by rw [List.length_append]; omega
        have hl4 : 0 < (out ++ slc zb a n).length := by rw [List.length_append]; omega
        clear hW HP1 HP2 hR hlen1
        generalize out ++ slc zb a n = out1 at *
        cases nl with
        | true =>
          have HT : Hid (tailOf N n = [10]) := by
            show tailOf N n = _
            unfold tailOf
            rw [if_pos (of_decide_eq_true HNL.out)]
          go_wp2_with fail
          refine (write45 b (b + 1) _ _ _ out1 _ hR1.bl hR1.pp (Nat.lt_succ_self b) hR1.bufs.base_le hR1.bufs.out (by omega)).mono ?_
          rintro e2 w2 ⟨rfl, hW2⟩
          obtain ⟨oa2, oc2, hR2⟩ := hR1.wrote hW2
          have HA2 : Hid (∀ e w'', RetRes w0 (out1 ++ [10]) marks e w'' → RetRes w0 ((M cov zb (2 * n + 1)).1 ++ tailOf N n) (M cov zb (2 * n + 1)).2 e w'') := fun e w'' he => HA.out e w'' (by rw [HT.out]; exact he)
          have hn2 : out1 ++ [10] ≠ [] := by simp
          clear hW2 hR1 HT
          generalize out1 ++ [10] = out2 at *
          go_wp2_with fail
          refine (string46 b (b + 1) _ _ _ out2 _ hR2.bl hR2.pp (Nat.lt_succ_self b) hn2 hR2.bufs.out).mono ?_
          rintro e3 w4 ⟨rfl, hg, hk⟩
          have hD := hR2.ended hg hk
          have c0 := hD.cell0
          have c1 := hD.cell1
          have f0 := hD.frozen 0
          have f1 := hD.frozen 1
          clear hR2 hg hk
          go_wp2
          refine bodyPost_ret (v := .agg #[.string ⟨out2.toArray⟩, .slice ma marks.length mc]) ?_ rfl (HA2.out _ _ ⟨ma, mc, rfl, (hD.put _ _).1, (hD.put _ _).2⟩)
          have k := hD.heap (.string ⟨out2.toArray⟩) (.slice ma marks.length mc)
          generalize (w4.setCell ⟨w.heap.size, 0, none⟩ (.string ⟨out2.toArray⟩)).setCell ⟨w.heap.size, 1, none⟩ (.slice ma marks.length mc) = wf at k ⊢
          have k0 : wf.cell? ⟨w.heap.size, 0, none⟩ = some (.string ⟨out2.toArray⟩) := by rw [Lib.cell_of_heap k]; rfl
          have k1 : wf.cell? ⟨w.heap.size, 1, none⟩ = some (.slice ma marks.length mc) := by rw [Lib.cell_of_heap k]; rfl
          simp [results, Try.results34, go_sem, k0, k1]
        | false =>
          have HT : Hid (tailOf N n = []) := by
            show tailOf N n = _
            unfold tailOf
            rw [if_neg (of_decide_eq_false HNL.out)]
          have HA2 : Hid (∀ e w'', RetRes w0 out1 marks e w'' → RetRes w0 ((M cov zb (2 * n + 1)).1 ++ tailOf N n) (M cov zb (2 * n + 1)).2 e w'') := fun e w'' he => HA.out e w'' (by rw [HT.out, List.append_nil]; exact he)
          have hn2 : out1 ≠ [] := fun h => by rw [h] at hl4; simp at hl4
          clear HT HA
          go_wp2_with fail
          refine (string46 b (b + 1) _ _ _ out1 _ hR1.bl hR1.pp (Nat.lt_succ_self b) hn2 hR1.bufs.out).mono ?_
          rintro e3 w4 ⟨rfl, hg, hk⟩
          have hD := hR1.ended hg hk
          have c0 := hD.cell0
          have c1 := hD.cell1
          have f0 := hD.frozen 0
          have f1 := hD.frozen 1
          clear hR1 hg hk
          go_wp2
          refine bodyPost_ret (v := .agg #[.string ⟨out1.toArray⟩, .slice ma marks.length mc]) ?_ rfl (HA2.out _ _ ⟨ma, mc, rfl, (hD.put _ _).1, (hD.put _ _).2⟩)
          have k := hD.heap (.string ⟨out1.toArray⟩) (.slice ma marks.length mc)
          generalize (w4.setCell ⟨w.heap.size, 0, none⟩ (.string ⟨out1.toArray⟩)).setCell ⟨w.heap.size, 1, none⟩ (.slice ma marks.length mc) = wf at k ⊢
          have k0 : wf.cell? ⟨w.heap.size, 0, none⟩ = some (.string ⟨out1.toArray⟩) := by rw [Lib.cell_of_heap k]; rfl
          have k1 : wf.cell? ⟨w.heap.size, 1, none⟩ = some (.slice ma marks.length mc) := by rw [Lib.cell_of_heap k]; rfl
          simp [results, Try.results34, go_sem, k0, k1]

end Go.Proofs.Qxb6602024a
