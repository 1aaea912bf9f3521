/-
  rendered: the invariant of its loops.
-/
import Derived.Test.Qxb6602024aCut
import Derived.Test.Qxb6602024aSort
namespace Go.Proofs.Qxb6602024a
open Go.RowKit Go.Deep Rd

theorem owns_of_block {w w' : World} {base : Nat} {e : TypeId} {v : Value} {n : Nat} {xs : List Value} (h : w.ownsRow base e 1 v n xs) (hb : ∀ g, v.ownBlock = some g → w'.heap[g]? = w.heap[g]?) : w'.ownsRow base e 1 v n xs := by
  refine ⟨h.1, ?_⟩
  rcases h.2 with hn | ⟨g, cap, cur, rfl, hbb, hgg, rest⟩
  · exact .inl hn
  · exact .inr ⟨g, cap, cur, rfl, hbb, (hb g rfl).trans hgg, rest⟩

theorem spans_of_block {w w' : World} {blk m : Nat} {f : Nat → Nat × Nat} (h : SpansAt w blk m f) (hb : w'.heap[blk]? = w.heap[blk]?) : SpansAt w' blk m f := fun i hi => by
  obtain ⟨⟨h1, h2⟩, h3, h4⟩ := h i hi
  refine ⟨⟨?_, ?_⟩, ?_, ?_⟩
  · rw [World.cell?_of_block (w := w) (a := ⟨blk, 2 * i, none⟩) hb]; exact h1
  · rw [World.cell?_of_block (w := w) (a := ⟨blk, 2 * i + 1, none⟩) hb]; exact h2
  · rw [World.frozen?_of_block (w := w) (a := ⟨blk, 2 * i, none⟩) hb]; exact h3
  · rw [World.frozen?_of_block (w := w) (a := ⟨blk, 2 * i + 1, none⟩) hb]; exact h4

/-- The result's block, the spans, the builder, the marks. -/
structure RI (w0 wr : World) (r b m : Nat) (f : Nat → Nat × Nat) (p : Value) (oa : Option Addr) (oc : Nat) (out : List UInt8) (ma : Option Addr) (mc : Nat) (marks : List Nat) : Prop where
  below : Below w0.heap.size w0 wr
  spans : SpansAt wr w0.heap.size m f
  lt : w0.heap.size < r ∧ r < b
  res : wr.heap[r]? = some (.cells #[.string ⟨#[]⟩, .slice none 0 0] 46 (0, 0))
  bl : Bl wr b p (.slice oa out.length oc)
  pp : p = .pointer none ∨ p = .pointer (some ⟨b, 0, none⟩)
  bufs : Bufs wr (b + 1) oa oc out ma mc marks

section
variable {w0 wr w' : World} {r b m : Nat} {f : Nat → Nat × Nat} {p : Value} {oa : Option Addr} {oc : Nat} {out : List UInt8} {ma : Option Addr} {mc : Nat} {marks : List Nat}

theorem RI.size (h : RI w0 wr r b m f p oa oc out ma mc marks) : b < wr.heap.size := h.bl.lt

theorem RI.onto (h : RI w0 wr r b m f p oa oc out ma mc marks) (hB : Below wr.heap.size wr w') : RI w0 w' r b m f p oa oc out ma mc marks := by
  have hs := h.size
  obtain ⟨h1, h2⟩ := h.lt
  refine ⟨h.below.trans (hB.mono h.below.size), spans_of_block h.spans (hB.block _ (by omega)), h.lt, (hB.block _ (by omega)).trans h.res, (hB.block _ (by omega)).trans h.bl, h.pp, ?_⟩
  exact ⟨by have := h.bufs.base_le; have := hB.size; omega, owns_of_block h.bufs.out (fun g hg => hB.block g (h.bufs.out.lt g hg).2), owns_of_block h.bufs.marks (fun g hg => hB.block g (h.bufs.marks.lt g hg).2)⟩

theorem RI.wrote (h : RI w0 wr r b m f p oa oc out ma mc marks) {l : List UInt8} (hW : Wrote wr b (b + 1) oa oc out l w') : ∃ oa' oc', RI w0 w' r b m f (.pointer (some ⟨b, 0, none⟩)) oa' oc' (out ++ l) ma mc marks := by
  obtain ⟨oa', oc', hbl, hown, hF⟩ := hW
  have hs := h.size
  obtain ⟨h1, h2⟩ := h.lt
  have hlow : ∀ k, k < b → w'.heap[k]? = wr.heap[k]? := fun k hk => hF.block k (by omega) (by omega) (fun e => by have := (h.bufs.out.lt k e.symm).1; omega)
  refine ⟨oa', oc', h.below.trans ⟨hF.os, hF.tape, hF.output, hF.size, fun k hk => hlow k (by omega)⟩, spans_of_block h.spans (hlow _ (by omega)), h.lt, (hlow _ h2).trans h.res, hbl, Or.inr rfl, ?_⟩
  refine ⟨by have := h.bufs.base_le; have := hF.size; omega, hown, owns_of_block h.bufs.marks (fun g hg => ?_)⟩
  have hl := h.bufs.marks.lt g hg
  refine hF.block g hl.2 (by omega) (fun e => ?_)
  rcases owns_apart h.bufs.marks h.bufs.out (by decide) with h' | h'
  · rw [h'] at hg; cases hg
  · exact h' (hg.trans e)

theorem RI.mark (h : RI w0 wr r b m f p oa oc out ma mc marks) {v : Value} (k : Nat) (hown : w'.ownsRow (b + 1) 3 1 v (marks.length + 1) (markCells marks ++ [.int .i64 (k : Int)])) (hg : wr.grownBy w' (Value.slice ma marks.length mc).ownBlock) :
    ∃ ma' mc', v = .slice ma' (marks ++ [k]).length mc' ∧ RI w0 w' r b m f p oa oc out ma' mc' (marks ++ [k]) := by
  obtain ⟨ma', mc', hv, hB⟩ := h.bufs.putMark k hown hg
  have hs := h.size
  obtain ⟨h1, h2⟩ := h.lt
  have hlow : ∀ k, k ≤ b → w'.heap[k]? = wr.heap[k]? := fun k hk => hg.block k (by omega) (fun e => by have := (h.bufs.marks.lt k e.symm).1; omega)
  exact ⟨ma', mc', hv, h.below.trans ⟨hg.os, hg.tape, hg.output, hg.size, fun k hk => hlow k (by omega)⟩, spans_of_block h.spans (hlow _ (by omega)), h.lt, (hlow _ (by omega)).trans h.res, (hlow b (Nat.le_refl _)).trans h.bl, h.pp, hB⟩

/-- The block of the span in hand. -/
def SBlk (w : World) (sb : Nat) (x y : Nat) : Prop := w.heap[sb]? = some (.cells #[.int .i64 (x : Int), .int .i64 (y : Int)] 44 (0, 0))

theorem SBlk.cell0 {w : World} {sb x y : Nat} (h : SBlk w sb x y) : w.cell? ⟨sb, 0, none⟩ = some (.int .i64 (x : Int)) := by rw [Lib.cell_of_heap h]; rfl
theorem SBlk.cell1 {w : World} {sb x y : Nat} (h : SBlk w sb x y) : w.cell? ⟨sb, 1, none⟩ = some (.int .i64 (y : Int)) := by rw [Lib.cell_of_heap h]; rfl
theorem SBlk.frozen {w : World} {sb x y : Nat} (h : SBlk w sb x y) (j : Nat) : w.frozen? ⟨sb, j, none⟩ = false := Lib.frozen_of_heap h j
theorem SBlk.lt {w : World} {sb x y : Nat} (h : SBlk w sb x y) : sb < w.heap.size := (Array.getElem?_eq_some_iff.1 h).1
theorem SBlk.set1 {w : World} {sb x y : Nat} (h : SBlk w sb x y) (q : Nat) : SBlk (w.setCell ⟨sb, 1, none⟩ (.int .i64 (q : Int))) sb x q := by
  unfold SBlk at *
  simp [World.setCell, Array.getElem?_modify, h]

theorem owns_not_blk {w : World} {base : Nat} {e : TypeId} {v : Value} {n : Nat} {xs : List Value} (h : w.ownsRow base e 1 v n xs) {sb : Nat} {cs : Array Value} {t : TypeId} (hs : w.heap[sb]? = some (.cells cs t (0, 0))) (hne : t ≠ e) : v.ownBlock ≠ some sb := fun he => by
  rcases h.2 with ⟨rfl, _⟩ | ⟨g, cap, cur, rfl, hbb, hgg, rest⟩
  · simp [Value.ownBlock] at he
  · simp [Value.ownBlock] at he
    subst he
    rw [hs] at hgg
    simp at hgg
    exact hne hgg.2

theorem RI.sWrote (h : RI w0 wr r b m f p oa oc out ma mc marks) {l : List UInt8} (hW : Wrote wr b (b + 1) oa oc out l w') {sb x y : Nat} (hs : SBlk wr sb x y) : SBlk w' sb x y := by
  obtain ⟨oa', oc', hbl, hown, hF⟩ := hW
  refine (hF.block sb hs.lt (fun e => ?_) (fun e => owns_not_blk h.bufs.out hs (by decide) e.symm)).trans hs
  have h2 := h.bl
  unfold Bl at h2
  unfold SBlk at hs
  rw [e, h2] at hs
  simp at hs

theorem RI.sMark (h : RI w0 wr r b m f p oa oc out ma mc marks) (hg : wr.grownBy w' (Value.slice ma marks.length mc).ownBlock) {sb x y : Nat} (hs : SBlk wr sb x y) : SBlk w' sb x y :=
  (hg.block sb hs.lt (fun e => owns_not_blk h.bufs.marks hs (by decide) e.symm)).trans hs

end

theorem Outer.len {n m : Nat} {f : Nat → Nat × Nat} {cov : Nat → Bool} {zb : Nat → UInt8} {i a : Nat} {out : List UInt8} {marks : List Nat} (o : Outer n m f cov zb i a out marks) : out.length ≤ 11 * (2 * n + 1) ∧ marks.length ≤ 2 * n + 1 := by
  obtain ⟨P, hS, hM, _⟩ := o.ex
  have h := M_len cov zb P
  rw [hM] at h
  have hle := o.le
  have : P ≤ 2 * n + 1 := by rcases hS with h' | ⟨h', _⟩ <;> omega
  simp only at h
  omega

theorem BodyLen.uniq {z : Nat → Int} {N n n' : Nat} (h : BodyLen z N n) (h' : BodyLen z N n') : n = n' := by
  rcases h with ⟨h1, h2⟩ | ⟨h1, h2, h3⟩
  · rcases h' with ⟨h4, h5⟩ | ⟨h4, h5, h6⟩
    · omega
    · exact absurd ⟨h4, h5⟩ h2
  · rcases h' with ⟨h4, h5⟩ | ⟨h4, h5, h6⟩
    · exact absurd ⟨h1, h2⟩ h5
    · omega

theorem BodyLen.le {z : Nat → Int} {N n : Nat} (h : BodyLen z N n) : n ≤ N := by
  rcases h with ⟨h1, h2⟩ | ⟨h1, h2, h3⟩ <;> omega

/-- The same members, the same coverage. -/
theorem spans_of {n m : Nat} {f f' : Nat → Nat × Nat} {cov : Nat → Bool} (hcov : ∀ p, cov p = true ↔ Cov m f p) (hfit : ∀ k, k < m → (f k).1 ≤ (f k).2 ∧ (f k).2 ≤ n) (hmem : ∀ x, (∃ i, i < m ∧ f' i = x) ↔ ∃ i, i < m ∧ f i = x) (hsort : ∀ i j, i < j → j < m → (f' i).1 ≤ (f' j).1) : Spans n m f' cov := by
  refine ⟨fun p => ?_, fun k hk => ?_, hsort⟩
  · rw [hcov]
    constructor
    · rintro ⟨k, hk, h1, h2⟩
      obtain ⟨i, hi, e⟩ := (hmem (f k)).2 ⟨k, hk, rfl⟩
      exact ⟨i, hi, by rw [e]; exact h1, by rw [e]; exact h2⟩
    · rintro ⟨k, hk, h1, h2⟩
      obtain ⟨i, hi, e⟩ := (hmem (f' k)).1 ⟨k, hk, rfl⟩
      exact ⟨i, hi, by rw [e]; exact h1, by rw [e]; exact h2⟩
  · obtain ⟨i, hi, e⟩ := (hmem (f' k)).1 ⟨k, hk, rfl⟩
    rw [← e]
    exact hfit i hi

/-- The builder is laid. -/
theorem RI.start {w0 w2 w3 : World} {r m : Nat} {f : Nat → Nat × Nat} (h2 : Below w0.heap.size w0 w2) (hr : w0.heap.size < r) (hres : w2.heap[r]? = some (.cells #[.string ⟨#[]⟩, .slice none 0 0] 46 (0, 0))) (hg : w2.grownBy w3 (some w0.heap.size)) (hS : SpansAt w3 w0.heap.size m f) :
    RI w0 (w3.alloc (.cells #[.pointer none, .slice none 0 0] 55)) r w3.heap.size m f (.pointer none) none 0 [] none 0 [] := by
  have hr2 : r < w2.heap.size := (Array.getElem?_eq_some_iff.1 hres).1
  have hsz := hg.size
  refine ⟨(h2.grown hg h2.size (fun k hk => by simp at hk; omega)).alloc (Nat.le_trans h2.size hsz) _, spans_of_block hS (Below.heap_alloc _ _ _ (by omega)), ⟨hr, by omega⟩, (Below.heap_alloc _ _ _ (by omega)).trans ((hg.block r hr2 (by simp; omega)).trans hres), ?_, Or.inl rfl, Bufs.start _ _ (by simp)⟩
  show (w3.alloc (.cells #[.pointer none, .slice none 0 0] 55)).heap[w3.heap.size]? = _
  exact heap_alloc_new w3 _

/-- Behind String: the result's block, the marks, the frame. -/
structure Ended (w0 w' : World) (r : Nat) (ma : Option Addr) (marks : List Nat) : Prop where
  below : Below w0.heap.size w0 w'
  lt : w0.heap.size < r
  res : w'.heap[r]? = some (.cells #[.string ⟨#[]⟩, .slice none 0 0] 46 (0, 0))
  row : RowAt .i64 w' ma marks.length (fun j => ((marks.getD j 0 : Nat) : Int))
  apart : ∀ g off, ma = some ⟨g, off, none⟩ → g ≠ r

theorem RI.ended {w0 wr w' : World} {r b m : Nat} {f : Nat → Nat × Nat} {p : Value} {oa : Option Addr} {oc : Nat} {out : List UInt8} {ma : Option Addr} {mc : Nat} {marks : List Nat} (h : RI w0 wr r b m f p oa oc out ma mc marks) (hB : Below b wr w') (hK : Lib.OthersKept 5 (some b) wr w') : Ended w0 w' r ma marks := by
  have hs := h.size
  obtain ⟨h1, h2⟩ := h.lt
  have hm : w'.ownsRow (b + 1) 3 1 (.slice ma marks.length mc) marks.length (markCells marks) := by
    refine ⟨h.bufs.marks.1, ?_⟩
    rcases h.bufs.marks.2 with hn | ⟨g, cap, cur, hv, hbg, hgg, rest⟩
    · exact .inl hn
    · exact .inr ⟨g, cap, cur, hv, hbg, hK g _ hgg (by simp; omega) (fun c fz he => by simp at he), rest⟩
  have hb2 : Bufs w' (b + 1) none 0 [] ma mc marks := ⟨by have := h.bufs.base_le; have := hB.size; omega, World.ownsRow_nil _ _ _ _, hm⟩
  refine ⟨h.below.trans (hB.mono (by omega)), h1, (hB.block _ h2).trans h.res, hb2.markRow, fun g off e => ?_⟩
  rcases h.bufs.marks.2 with ⟨hv, _⟩ | ⟨g', cap, cur, hv, hbg, _⟩
  · simp only [Value.slice.injEq] at hv
    rw [hv.1] at e
    cases e
  · simp only [Value.slice.injEq] at hv
    rw [hv.1] at e
    simp at e
    omega

theorem Ended.cell0 {w0 w' : World} {r : Nat} {ma : Option Addr} {marks : List Nat} (h : Ended w0 w' r ma marks) : w'.cell? ⟨r, 0, none⟩ = some (.string ⟨#[]⟩) := by rw [Lib.cell_of_heap h.res]; rfl
theorem Ended.cell1 {w0 w' : World} {r : Nat} {ma : Option Addr} {marks : List Nat} (h : Ended w0 w' r ma marks) : w'.cell? ⟨r, 1, none⟩ = some (.slice none 0 0) := by rw [Lib.cell_of_heap h.res]; rfl
theorem Ended.frozen {w0 w' : World} {r : Nat} {ma : Option Addr} {marks : List Nat} (h : Ended w0 w' r ma marks) (j : Nat) : w'.frozen? ⟨r, j, none⟩ = false := Lib.frozen_of_heap h.res j

theorem Ended.heap {w0 w' : World} {r : Nat} {ma : Option Addr} {marks : List Nat} (h : Ended w0 w' r ma marks) (u v : Value) : ((w'.setCell ⟨r, 0, none⟩ u).setCell ⟨r, 1, none⟩ v).heap[r]? = some (.cells #[u, v] 46 (0, 0)) := by
  simp [World.setCell, Array.getElem?_modify, h.res]

theorem Ended.put {w0 w' : World} {r : Nat} {ma : Option Addr} {marks : List Nat} (h : Ended w0 w' r ma marks) (u v : Value) :
    RowAt .i64 ((w'.setCell ⟨r, 0, none⟩ u).setCell ⟨r, 1, none⟩ v) ma marks.length (fun j => ((marks.getD j 0 : Nat) : Int)) ∧ Below w0.heap.size w0 ((w'.setCell ⟨r, 0, none⟩ u).setCell ⟨r, 1, none⟩ v) := by
  have hlt := h.lt
  refine ⟨fun j hj => ?_, (h.below.setCell (by show _ ≤ r; omega) _).setCell (by show _ ≤ r; omega) _⟩
  obtain ⟨g, off, e, hc⟩ := h.row j hj
  have hne := h.apart g off e
  refine ⟨g, off, e, ?_⟩
  rw [World.cell?_of_block (w := w') (a := ⟨g, off + j, none⟩) ((Below.heap_setCell _ _ _ _ hne).trans (Below.heap_setCell _ _ _ _ hne))]
  exact hc

end Go.Proofs.Qxb6602024a
