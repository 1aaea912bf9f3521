/-
  The walk of MostHops: it returns the greatest distance between two nodes.
-/
import Derived.Test.Qxb6602022aClone2
import Derived.Test.Qxb6602022aGraph
namespace Go.Proofs.Qxb6602022a
open Go.RowKit Go.Deep Gr

/-- The links as an edge relation. -/
def Ed (n : Nat) (L : Nat → Nat) (Z : Nat → Nat → Int) (u v : Nat) : Prop := u < n ∧ ∃ j, j < L u ∧ Z u j = (v : Int)

def InRange (n : Nat) (L : Nat → Nat) (Z : Nat → Nat → Int) : Prop := ∀ u, u < n → ∀ j, j < L u → 0 ≤ Z u j ∧ Z u j < n

theorem Ed.lt {n : Nat} {L : Nat → Nat} {Z : Nat → Nat → Int} (h : InRange n L Z) : ∀ u v, Ed n L Z u v → v < n := fun u v ⟨hu, j, hj, e⟩ => by
  have := (h u hu j hj).2
  omega

def hrow (f : Nat → Int) : Nat → Value := fun v => .int .i64 (f v)
def qrow (q : Nat → Nat) : Nat → Value := fun k => .int .i64 (q k : Int)

/-- hops and queue as they lie in the call's own two rows. -/
structure HopsSt (w wr : World) (n : Nat) (f : Nat → Int) (q : Nat → Nat) : Prop where
  below : Below w.heap.size w wr
  hops : wr.rowIs w.heap.size 3 n (hrow f)
  que : wr.rowIs (w.heap.size + 1) 3 n (qrow q)

theorem HopsSt.start (w : World) (n : Nat) : HopsSt w ((w.alloc (.cells (madeCells #[.int .i64 0] n) 3)).alloc (.cells (madeCells #[.int .i64 0] n) 3)) n (fun _ => 0) (fun _ => 0) := by
  have h2 := World.rowIs_made (w.alloc (.cells (madeCells #[.int .i64 0] n) 3)) (.int .i64 0) n 3
  rw [show (w.alloc (.cells (madeCells #[.int .i64 0] n) 3)).heap.size = w.heap.size + 1 by simp] at h2
  exact ⟨((Below.refl _ _).alloc (Nat.le_refl _) _).alloc (by simp) _, (World.rowIs_made w (.int .i64 0) n 3).alloc _, h2⟩

theorem hrow_upd (f : Nat → Int) (v : Nat) (x : Int) (i : Nat) : (if i = v then Value.int .i64 x else hrow f i) = hrow (updI f v x) i := by
  unfold hrow updI
  split <;> rfl

theorem qrow_upd (q : Nat → Nat) (m x : Nat) (i : Nat) : (if i = m then Value.int .i64 (x : Int) else qrow q i) = qrow (fun k => if k = m then x else q k) i := by
  unfold qrow
  simp only
  split <;> rfl

theorem HopsSt.setHop {w wr : World} {n : Nat} {f : Nat → Int} {q : Nat → Nat} (h : HopsSt w wr n f q) (v : Nat) (x : Int) : HopsSt w (wr.setCell ⟨w.heap.size, v, none⟩ (.int .i64 x)) n (updI f v x) q :=
  ⟨h.below.setCell (Nat.le_refl _) _, (h.hops.set v _).congr (fun i _ => hrow_upd f v x i), h.que.setOther (by show w.heap.size + 1 ≠ w.heap.size; omega) _⟩

theorem HopsSt.setQue {w wr : World} {n : Nat} {f : Nat → Int} {q : Nat → Nat} (h : HopsSt w wr n f q) (m x : Nat) : HopsSt w (wr.setCell ⟨w.heap.size + 1, m, none⟩ (.int .i64 (x : Int))) n f (fun k => if k = m then x else q k) :=
  ⟨h.below.setCell (by show w.heap.size ≤ w.heap.size + 1; omega) _, h.hops.setOther (by show w.heap.size ≠ w.heap.size + 1; omega) _, (h.que.set m _).congr (fun i _ => qrow_upd q m x i)⟩

theorem HopsSt.alloc {w wr : World} {n : Nat} {f : Nat → Int} {q : Nat → Nat} (h : HopsSt w wr n f q) (o : Obj) : HopsSt w (wr.alloc o) n f q :=
  ⟨h.below.alloc (by have := h.below.size; omega) _, h.hops.alloc _, h.que.alloc _⟩

theorem run_append_one (w : World) (ty : TypeId) (b s c : Nat) (a : Addr) (x : Int) (v0 : Value) (hroom : s + 1 ≤ c) (hx : w.cell? a = some (.int .i64 x)) (hc : w.cell? ⟨b, s, none⟩ = some v0) (hf : w.frozen? ⟨b, s, none⟩ = false) :
    (Builtin.append_ #[28, 28] ty #[.slice (some ⟨b, 0, none⟩) s c, .slice (some a) 1 1]).run Try.prog w = .ok (.slice (some ⟨b, 0, none⟩) (s + 1) c) (w.setCell ⟨b, s, none⟩ (.int .i64 x)) := by
  obtain ⟨i0, hi, hz0, hz1, hz2⟩ := info_parts Try.info3
  have h := run_append_room_cells (P := Try.prog) w 28 ty 3 i0 Try.underlying28 hi b 0 s c a 1 1 [.int .i64 x] (by simp [hz1]) (fun j u hj => by
      match j, hj with
      | 0, hj => simp at hj; subst hj; simpa [Addr.add] using hx) (by intro u hu; simp at hu; subst hu; rfl) hroom
      (fun j hj => by obtain rfl : j = 0 := by simp at hj; exact hj
                      simp [hz1, hc])
      (fun j hj => by obtain rfl : j = 0 := by simp at hj; exact hj
                      simp [hz1, hf])
  rw [h]
  simp [hz1, World.setCells]

theorem wpList_append_one (w : World) {ops : Array Oper} {rest : List Oper} {o : Oper} {a : Act} {Q : Exit → Act → World → Prop}
    (hg : o.guard = none) (s x : Operand) (hop : o.op = Op.call { callee := Callee.builtin Builtin.append, args := #[s, x], argTypes := #[28, 28] })
    (b sl c : Nat) (hs : a.eval s = .slice (some ⟨b, 0, none⟩) sl c) (ad : Addr) (y : Int) (v0 : Value) (hx : a.eval x = .slice (some ad) 1 1) (hroom : sl + 1 ≤ c)
    (hy : w.cell? ad = some (.int .i64 y)) (hc : w.cell? ⟨b, sl, none⟩ = some v0) (hf : w.frozen? ⟨b, sl, none⟩ = false)
    (hK : wpList Try.prog ops Q rest (a.put o.dst (.slice (some ⟨b, 0, none⟩) (sl + 1) c)) (w.setCell ⟨b, sl, none⟩ (.int .i64 y))) :
    wpList Try.prog ops Q (o :: rest) a w := by
  refine wpList_plain hg fun K hK' => ?_
  have hrun := run_append_one w o.type b sl c ad y v0 hroom hy hc hf
  unfold Oper.wp
  simp [execOp, hop, resolve, invoke, builtin, hs, hx, hrun, Result.andThen]
  exact hK' _ _ hK

/-- THE SEARCH FROM fr AS IT STANDS: memory, marks, 'most'. -/
structure Srch (w wr : World) (n : Nat) (E : Nat → Nat → Prop) (fr i : Nat) (f : Nat → Int) (q : Nat → Nat) (m h : Nat) (D : Nat → Prop) : Prop where
  st : HopsSt w wr n f q
  bfs : Bfs n E fr f q m i D
  most : Most n E fr f h
  hle : h ≤ n - 1

theorem Srch.m_le {w wr : World} {n : Nat} {E : Nat → Nat → Prop} {fr i : Nat} {f : Nat → Int} {q : Nat → Nat} {m h : Nat} {D : Nat → Prop} (a : Srch w wr n E fr i f q m h D) : m ≤ n := by
  rw [a.bfs.size]; exact cnt_le f n

theorem Srch.seen {w wr : World} {n : Nat} {E : Nat → Nat → Prop} {fr i : Nat} {f : Nat → Int} {q : Nat → Nat} {m h : Nat} {D D' : Nat → Prop} (a : Srch w wr n E fr i f q m h D) (hi : i < m) {v : Nat} (hvn : v < n) (hv : 0 ≤ f v)
    (hD : ∀ x, D' x → D x ∨ x = v) : Srch w wr n E fr i f q m h D' :=
  ⟨a.st, (a.bfs.seen hi hvn hv).less hD, a.most, a.hle⟩

theorem Srch.reach {w wr : World} {n : Nat} {E : Nat → Nat → Prop} {fr i : Nat} {f : Nat → Int} {q : Nat → Nat} {m h : Nat} {D D' : Nat → Prop} (a : Srch w wr n E fr i f q m h D) (hE : ∀ u v, E u v → v < n) (hi : i < m) {v : Nat} (he : E (q i) v) (hv : f v < 0)
    (hfr : fr < n) (hD : ∀ x, D' x → D x ∨ x = v) {x : Int} (hx : x = f (q i) + 1) (o : Obj) :
    m < n ∧ Srch w (((wr.setCell ⟨w.heap.size, v, none⟩ (.int .i64 x)).alloc o).setCell ⟨w.heap.size + 1, m, none⟩ (.int .i64 (v : Int))) n E fr i (updI f v x) (fun k => if k = m then v else q k) (m + 1) (max h x.toNat) D' := by
  obtain ⟨hB, hmn⟩ := a.bfs.reach hE hi he hv
  have hq0 := (a.bfs.que i hi).2
  have hd := hB.dist v (hE _ _ he) (by rw [updI_same]; omega)
  rw [updI_same] at hd
  rw [← hx] at hd hB
  have hm := a.most.reach hfr hd
  rw [show ((x.toNat : Nat) : Int) = x by omega] at hm
  refine ⟨hmn, ((a.st.setHop v x).alloc o).setQue m v, hB.less hD, hm, ?_⟩
  have := a.hle
  have := a.bfs.low i hi
  omega

theorem Srch.next {w wr : World} {n : Nat} {E : Nat → Nat → Prop} {fr i : Nat} {f : Nat → Int} {q : Nat → Nat} {m h : Nat} {D : Nat → Prop} (a : Srch w wr n E fr i f q m h D) (hi : i < m) (hD : ∀ v, E (q i) v → D v) :
    Srch w wr n E fr (i + 1) f q m h (fun _ => False) := ⟨a.st, a.bfs.next hi hD, a.most, a.hle⟩

theorem Srch.over {w wr : World} {n : Nat} {E : Nat → Nat → Prop} {fr : Nat} {f : Nat → Int} {q : Nat → Nat} {m h : Nat} {D : Nat → Prop} (a : Srch w wr n E fr m f q m h D) (hE : ∀ u v, E u v → v < n) : Most n E (fr + 1) (fun _ => 0) h :=
  (a.most.next (a.bfs.over hE) a.bfs.dist).begin (fun _ _ => Int.le_refl _)

theorem cell_boxed (wr : World) (a : Addr) (x : Value) (v : Int) : ((wr.setCell a x).alloc (.cells #[.int .i64 v] 3)).cell? ⟨wr.heap.size, 0, none⟩ = some (.int .i64 v) := by
  have h : ∀ W : World, (W.alloc (.cells #[.int .i64 v] 3)).cell? ⟨W.heap.size, 0, none⟩ = some (.int .i64 v) := fun W => by simp
  have h2 := h (wr.setCell a x)
  rw [show (wr.setCell a x).heap.size = wr.heap.size by simp [World.setCell]] at h2
  exact h2

def RetHops (n : Nat) (E : Nat → Nat → Prop) (w : World) (e : Ending) (w' : World) : Prop := ∃ h : Nat, e = .returned (.int .i64 (h : Int)) ∧ Diam n E h ∧ h ≤ n - 1 ∧ Below w.heap.size w w'

end Go.Proofs.Qxb6602022a
