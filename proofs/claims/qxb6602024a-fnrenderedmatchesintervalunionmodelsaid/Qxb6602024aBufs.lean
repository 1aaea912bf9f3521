/-
  Buffers that a call owns: bytes and marks, side by side.
-/
import Derived.Test.Qxb6602024aSmall
import Derived.Test.Qxb6602024aRender
import Derived.Lib.AppendStr
import Derived.Lib.OthersKept
import Derived.Lib.Builder
import Derived.Laws.AppendOwnNone
namespace Go.Proofs.Qxb6602024a
open Go.RowKit Go.Deep Rd

theorem Try.info4 : (Try.prog.info? 4).map (fun i => (i.zero, i.size, i.bytes)) = some (some (.bool false), 1, 1) := by kernel_rfl

/-- The numbers of a list of bytes. -/
def nums (zb : Nat → UInt8) : Nat → Int := fun j => ((zb j).toNat : Int)

/-- The marks as cells. -/
def markCells (l : List Nat) : List Value := l.map fun (k : Nat) => Value.int .i64 (k : Int)
theorem markCells_len (l : List Nat) : (markCells l).length = l.length := by simp [markCells]
theorem markCells_snoc (l : List Nat) (k : Nat) : markCells (l ++ [k]) = markCells l ++ [.int .i64 (k : Int)] := by simp [markCells]

/-- The shape of what is owned. -/
theorem owns_shape {w : World} {base : Nat} {e : TypeId} {v : Value} {n : Nat} {xs : List Value} (h : w.ownsRow base e 1 v n xs) : ∃ oa oc, v = .slice oa n oc := by
  rcases h.2 with ⟨rfl, rfl⟩ | ⟨g, cap, cur, rfl, _⟩
  · exact ⟨none, 0, rfl⟩
  · exact ⟨_, _, rfl⟩

/-- Two owned rows of different element types are two. -/
theorem owns_apart {w : World} {base base' : Nat} {e e' : TypeId} {v v' : Value} {n n' : Nat} {xs xs' : List Value} (h : w.ownsRow base e 1 v n xs) (h' : w.ownsRow base' e' 1 v' n' xs') (hne : e ≠ e') : v.ownBlock = none ∨ v.ownBlock ≠ v'.ownBlock := by
  rcases h.2 with ⟨rfl, rfl⟩ | ⟨g, cap, cur, rfl, _, hg, _⟩
  · exact Or.inl rfl
  · right
    rcases h'.2 with ⟨rfl, rfl⟩ | ⟨g', cap', cur', rfl, _, hg', _⟩
    · simp [Value.ownBlock]
    · simp only [Value.ownBlock, ne_eq, Option.some.injEq]
      intro e2
      subst e2
      rw [hg] at hg'
      simp at hg'
      exact hne hg'.2

/-- A row of the call's own below the base stays. -/
theorem rowIs_grown {w w' : World} {b : Nat} {t : TypeId} {n : Nat} {f : Nat → Value} {row : Option Nat} (h : w.rowIs b t n f) (hg : w.grownBy w' row) (hne : row ≠ some b) : w'.rowIs b t n f :=
  h.of_block (hg.block b h.lt (fun e => hne e.symm))

theorem owns_row_ne {w : World} {base : Nat} {e : TypeId} {v : Value} {n : Nat} {xs : List Value} (h : w.ownsRow base e 1 v n xs) {b : Nat} (hb : b < base) : v.ownBlock ≠ some b := fun he => by
  have := (h.lt b he).1
  omega

/-- 'out' and 'marks', owned from 'base' on. -/
structure Bufs (wr : World) (base : Nat) (oa : Option Addr) (oc : Nat) (out : List UInt8) (ma : Option Addr) (mc : Nat) (marks : List Nat) : Prop where
  base_le : base ≤ wr.heap.size
  out : wr.ownsRow base 5 1 (.slice oa out.length oc) out.length (Lib.byteCells out)
  marks : wr.ownsRow base 3 1 (.slice ma marks.length mc) marks.length (markCells marks)

theorem Bufs.start (wr : World) (base : Nat) (h : base ≤ wr.heap.size) : Bufs wr base none 0 [] none 0 [] :=
  ⟨h, World.ownsRow_nil _ _ _ _, World.ownsRow_nil _ _ _ _⟩

theorem Bufs.alloc {wr : World} {base : Nat} {oa : Option Addr} {oc : Nat} {out : List UInt8} {ma : Option Addr} {mc : Nat} {marks : List Nat} (h : Bufs wr base oa oc out ma mc marks) (o : Obj) : Bufs (wr.alloc o) base oa oc out ma mc marks :=
  ⟨by have := h.base_le; simp; omega, h.out.alloc o, h.marks.alloc o⟩

theorem Bufs.putOut {wr w1 : World} {base : Nat} {oa : Option Addr} {oc : Nat} {out : List UInt8} {ma : Option Addr} {mc : Nat} {marks : List Nat} (h : Bufs wr base oa oc out ma mc marks) {v : Value} (l : List UInt8) {k : Nat} (hk : k = l.length)
    (hown : w1.ownsRow base 5 1 v (out.length + k) (Lib.byteCells out ++ Lib.byteCells l)) (hg : wr.grownBy w1 (Value.slice oa out.length oc).ownBlock) :
    ∃ oa' oc', v = .slice oa' (out ++ l).length oc' ∧ Bufs w1 base oa' oc' (out ++ l) ma mc marks := by
  subst hk
  rw [← List.length_append, ← Lib.byteCells_append] at hown
  obtain ⟨oa', oc', rfl⟩ := owns_shape hown
  exact ⟨oa', oc', rfl, Nat.le_trans h.base_le hg.size, hown, h.marks.kept hg (owns_apart h.marks h.out (by decide))⟩

theorem Bufs.putMark {wr w1 : World} {base : Nat} {oa : Option Addr} {oc : Nat} {out : List UInt8} {ma : Option Addr} {mc : Nat} {marks : List Nat} (h : Bufs wr base oa oc out ma mc marks) {v : Value} (k : Nat)
    (hown : w1.ownsRow base 3 1 v (marks.length + 1) (markCells marks ++ [.int .i64 (k : Int)])) (hg : wr.grownBy w1 (Value.slice ma marks.length mc).ownBlock) :
    ∃ ma' mc', v = .slice ma' (marks ++ [k]).length mc' ∧ Bufs w1 base oa oc out ma' mc' (marks ++ [k]) := by
  rw [← markCells_snoc, show marks.length + 1 = (marks ++ [k]).length by simp] at hown
  obtain ⟨ma', mc', rfl⟩ := owns_shape hown
  exact ⟨ma', mc', rfl, Nat.le_trans h.base_le hg.size, h.out.kept hg (owns_apart h.out h.marks (by decide)), hown⟩

/-- The numbers of the marks, as a row. -/
theorem Bufs.markRow {wr : World} {base : Nat} {oa : Option Addr} {oc : Nat} {out : List UInt8} {ma : Option Addr} {mc : Nat} {marks : List Nat} (h : Bufs wr base oa oc out ma mc marks) : RowAt .i64 wr ma marks.length (fun j => ((marks.getD j 0 : Nat) : Int)) := fun j hj => by
  rcases h.marks.2 with ⟨_, h0⟩ | ⟨g, cap, cur, hv, _⟩
  · omega
  · simp only [Value.slice.injEq] at hv
    obtain ⟨rfl, _, rfl⟩ := hv
    refine ⟨g, 0, rfl, ?_⟩
    rw [Nat.zero_add, h.marks.cellAt j (by omega)]
    simp [markCells, hj]

theorem strOf_list (l : List UInt8) : strOfNums (l.map fun b => ((b.toNat : Nat) : Int)) = ⟨l.toArray⟩ := by
  have h : (l.map fun b => ((b.toNat : Nat) : Int)).map (fun n => UInt8.ofNat n.toNat) = l := by
    induction l with
    | nil => rfl
    | cons x xs ih =>
      simp only [List.map_cons]
      rw [ih]
      have e : UInt8.ofNat ((x.toNat : Int).toNat) = x := by
        rw [Int.toNat_natCast]
        exact UInt8.ofNat_toNat
      rw [e]
  simp only [strOfNums]
  rw [h]

/-- 'string(b)' of a row of bytes. -/
theorem conv_list (W : World) (ao : Option Addr) (cap : Nat) (l : List UInt8) (hp : (ao = none ∧ l = []) ∨ ∃ b off, ao = some ⟨b, off, none⟩ ∧ ∀ i, i < l.length → W.cell? ⟨b, off + i, none⟩ = some (.int .u8 ((l.getD i 0).toNat : Int))) :
    (convert 22 9 (.slice ao l.length cap)).run Try.prog W = .ok (.string ⟨l.toArray⟩) W := by
  rcases hp with ⟨rfl, rfl⟩ | ⟨b, off, rfl, hc⟩
  · exact run_convert_bytes_nil (P := Try.prog) W 22 5 Try.underlying22 Try.underlying5 0 cap 9 Try.underlying9
  · have h := run_convert_bytes_arg (P := Try.prog) W 22 5 Try.underlying22 Try.underlying5 b off l.length cap (l.map fun b => ((b.toNat : Nat) : Int)) (by simp) (fun i hi => by
      rw [hc i hi]
      simp [hi]) 9 Try.underlying9
    rw [strOf_list] at h
    exact h

theorem Bufs.asText {wr : World} {base : Nat} {oa : Option Addr} {oc : Nat} {out : List UInt8} {ma : Option Addr} {mc : Nat} {marks : List Nat} (h : Bufs wr base oa oc out ma mc marks) :
    (convert 22 9 (.slice oa out.length oc)).run Try.prog wr = .ok (.string ⟨out.toArray⟩) wr := by
  refine conv_list wr oa oc out ?_
  rcases h.out.2 with ⟨hv, h0⟩ | ⟨g, cap, cur, hv, _⟩
  · simp only [Value.slice.injEq] at hv
    exact Or.inl ⟨hv.1, List.eq_nil_of_length_eq_zero h0⟩
  · simp only [Value.slice.injEq] at hv
    obtain ⟨rfl, _, rfl⟩ := hv
    refine Or.inr ⟨g, 0, rfl, fun i hi => ?_⟩
    rw [Nat.zero_add, h.out.cellAt i (by omega)]
    simp [Lib.byteCells, hi]

end Go.Proofs.Qxb6602024a
