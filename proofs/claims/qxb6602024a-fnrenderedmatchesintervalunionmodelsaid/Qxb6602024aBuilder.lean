/-
  strings.Builder at this dump: Write, WriteString, WriteByte, Len, String, with a frame that names the two blocks that may turn.
-/
import Derived.Test.Qxb6602024aBufs
import Derived.Shelf.Strings.BuilderK
import Derived.Lib.SmallJoins
namespace Go.Proofs.Qxb6602024a
open Go.RowKit Go.Deep Rd

theorem Try.sizeB : (Try.prog.info? 55).map (·.size) = some 2 := by kernel_rfl
theorem Try.liesB : liesAt Try.prog Try.prog.depth 55 (2 / Try.prog.cellsOf 55) 0 55 1 = true := by kernel_rfl
theorem Try.cellsByte : Try.prog.cellsOf 5 = 1 := by kernel_rfl

/-! The shelf's laying of String, as the kit's tool prints it in plain words. -/
def bldRen : Go.Shelf.Ren := ⟨fun | 169 => 46 | n => n, fun | 70 => 53 | 9 => 9 | 0 => 0 | 72 => 55 | 37 => 22 | 127 => 69 | 3 => 3 | 5 => 5 | n => n, fun | n => n⟩
theorem bldLays : Lays.n169 Try.prog bldRen := {
  mixed := by kernel_rfl
  f169 := Try.func46.trans (congrArg some (by kernel_rfl))
  t0 := Try.underlying0
  a0 := Try.isAgg0
  z0 := Try.sizeOf0
  v0 := Try.zeroValue0
  t3 := Try.underlying3
  a3 := Try.isAgg3
  z3 := Try.sizeOf3
  v3 := Try.zeroValue3
  t9 := Try.underlying9
  a9 := Try.isAgg9
  z9 := Try.sizeOf9
  v9 := Try.zeroValue9
  t37 := Try.underlying22
  a37 := Try.isAgg22
  z37 := Try.sizeOf22
  v37 := Try.zeroValue22
  t70 := Try.underlying53
  a70 := Try.isAgg53
  z70 := Try.sizeOf53
  v70 := Try.zeroValue53
  t72 := Try.underlying55
  a72 := Try.isAgg55
  z72 := Try.sizeOf55
  v72 := Try.zeroValue55
  t127 := Try.underlying69
  a127 := Try.isAgg69
  z127 := Try.sizeOf69
  v127 := Try.zeroValue69 }
theorem bldX : Builder.Extra Try.prog bldRen := {
  sizeBuilder := Try.sizeB
  liesBuilder := Try.liesB
  t5 := Try.underlying5
  a5 := Try.isAgg5
  z5 := Try.sizeOf5
  v5 := Try.zeroValue5
  infoByte := Try.info5
  cellsByte := Try.cellsByte
  sizeByte := by kernel_rfl
  neB5 := by decide }

/-- Of what was there, block b and the row alone may have turned. -/
structure Fr (w w' : World) (b : Nat) (row : Option Nat) : Prop where
  os : w'.os = w.os
  tape : w'.tape = w.tape
  output : w'.output = w.output
  size : w.heap.size ≤ w'.heap.size
  block : ∀ k, k < w.heap.size → k ≠ b → some k ≠ row → w'.heap[k]? = w.heap[k]?

theorem Fr.refl (w : World) (b : Nat) (row : Option Nat) : Fr w w b row := ⟨rfl, rfl, rfl, Nat.le_refl _, fun _ _ _ _ => rfl⟩
theorem Fr.setCell {w w' : World} {b : Nat} {row : Option Nat} (h : Fr w w' b row) (j : Nat) (v : Value) : Fr w (w'.setCell ⟨b, j, none⟩ v) b row :=
  ⟨h.os, h.tape, h.output, by simp [World.setCell]; exact h.size, fun k hk hb hr => (Below.heap_setCell _ _ _ _ hb).trans (h.block k hk hb hr)⟩
theorem Fr.alloc {w w' : World} {b : Nat} {row : Option Nat} (h : Fr w w' b row) (o : Obj) : Fr w (w'.alloc o) b row :=
  ⟨h.os, h.tape, h.output, by have := h.size; simp; omega, fun k hk hb hr => (Below.heap_alloc _ _ _ (by have := h.size; omega)).trans (h.block k hk hb hr)⟩
theorem Fr.grown {w w' w2 : World} {b : Nat} {row : Option Nat} (h : Fr w w' b row) (hg : w'.grownBy w2 row) : Fr w w2 b row :=
  ⟨hg.os.trans h.os, hg.tape.trans h.tape, hg.output.trans h.output, Nat.le_trans h.size hg.size, fun k hk hb hr => (hg.block k (by have := h.size; omega) hr).trans (h.block k hk hb hr)⟩
theorem Fr.less {w w' : World} {b : Nat} {row : Option Nat} (h : Fr w w' b none) : Fr w w' b row := ⟨h.os, h.tape, h.output, h.size, fun k hk hb _ => h.block k hk hb (by simp)⟩
theorem Fr.toGrown {w w' : World} {b : Nat} (h : Fr w w' b none) : w.grownBy w' (some b) := ⟨h.os, h.tape, h.output, h.size, fun k hk hb => h.block k hk (fun e => hb (by rw [e])) (by simp)⟩

/-- The builder's own block. -/
def Bl (w : World) (b : Nat) (p v : Value) : Prop := w.heap[b]? = some (.cells #[p, v] 55 (0, 0))

theorem Bl.cell0 {w : World} {b : Nat} {p v : Value} (h : Bl w b p v) : w.cell? ⟨b, 0, none⟩ = some p := by rw [Lib.cell_of_heap h]; rfl
theorem Bl.cell1 {w : World} {b : Nat} {p v : Value} (h : Bl w b p v) : w.cell? ⟨b, 1, none⟩ = some v := by rw [Lib.cell_of_heap h]; rfl
theorem Bl.frozen {w : World} {b : Nat} {p v : Value} (h : Bl w b p v) (j : Nat) : w.frozen? ⟨b, j, none⟩ = false := Lib.frozen_of_heap h j
theorem Bl.lt {w : World} {b : Nat} {p v : Value} (h : Bl w b p v) : b < w.heap.size := (Array.getElem?_eq_some_iff.1 h).1
theorem Bl.set0 {w : World} {b : Nat} {p v : Value} (h : Bl w b p v) (q : Value) : Bl (w.setCell ⟨b, 0, none⟩ q) b q v := by
  unfold Bl at *
  simp [World.setCell, Array.getElem?_modify, h]
theorem Bl.set1 {w : World} {b : Nat} {p v : Value} (h : Bl w b p v) (q : Value) : Bl (w.setCell ⟨b, 1, none⟩ q) b p q := by
  unfold Bl at *
  simp [World.setCell, Array.getElem?_modify, h]
theorem Bl.shape {w : World} {b : Nat} {p v : Value} (h : Bl w b p v) : w.shape? b = some (55, 2) := by
  unfold Bl at h
  simp [World.shape?, h]

set_option maxHeartbeats 400000 in
theorem copy51_used (b : Nat) (w : World) (h0 : w.cell? ⟨b, 0, none⟩ = some (.pointer (some ⟨b, 0, none⟩))) :
    Calls Try.prog 51 #[.pointer (some ⟨b, 0, none⟩)] w fun e w' => e = .returned (.tuple #[]) ∧ w' = w := by
  obtain ⟨j, hj, _⟩ := Option.map_eq_some_iff.1 Try.sizeB
  have hne := fun W => Lib.run_neq_ptr_same (P := Try.prog) W ⟨b, 0, none⟩ Try.underlying53 hj
  go_enter Try.func51, Try.ntmps51
  go_wp2
  go_end0
  exact ⟨rfl, rfl⟩

/-- A pointer to a block's head, turned into the pointer of no type. -/
theorem conv_to (w : World) (b : Nat) (hsh : w.shape? b = some (55, 2)) : (convert 53 81 (.pointer (some ⟨b, 0, none⟩))).run Try.prog w = .ok (.pointer (some ⟨b, 0, none⟩)) w := by
  obtain ⟨j, hj, hjs⟩ := Option.map_eq_some_iff.1 Try.sizeB
  simp [convert, run_underlying Try.underlying53, run_underlying Try.underlying81]
  show Sem.run Try.prog (Sem.program _) w = _
  simp [Sem.run, Sem.run_bind', Try.underlying53, run_underlying Try.underlying81, Conv.seenAt, viewAt, cellsIn, hsh, sizeOf, typeInfo, hj, hjs]

/-- .. and back. -/
theorem conv_from (w : World) (b : Nat) (hsh : w.shape? b = some (55, 2)) : (convert 81 53 (.pointer (some ⟨b, 0, none⟩))).run Try.prog w = .ok (.pointer (some ⟨b, 0, none⟩)) w := by
  obtain ⟨j, hj, hjs⟩ := Option.map_eq_some_iff.1 Try.sizeB
  have hlies := Try.liesB
  simp [convert, run_underlying Try.underlying53, run_underlying Try.underlying81]
  show Sem.run Try.prog (Sem.program _) w = _
  simp [Sem.run, Sem.run_bind', Try.underlying81, run_underlying Try.underlying53, Conv.seenAt, viewAt, hsh, variablesAt, hlies, sizeOf, typeInfo, hj, hjs]

set_option maxHeartbeats 400000 in
theorem copy51_fresh (b : Nat) (w : World) (h0 : w.cell? ⟨b, 0, none⟩ = some (.pointer none)) (hsh : w.shape? b = some (55, 2)) (hfz : w.frozen? ⟨b, 0, none⟩ = false) :
    Calls Try.prog 51 #[.pointer (some ⟨b, 0, none⟩)] w fun e w' => e = .returned (.tuple #[]) ∧ w' = w.setCell ⟨b, 0, none⟩ (.pointer (some ⟨b, 0, none⟩)) := by
  go_enter Try.func51, Try.ntmps51
  go_wp2
  rw [conv_to w b hsh]
  simp only [Result.andThen]
  rw [Oper.upon_value]
  go_wp2
  rw [run_callFunc_extern Try.func63 (by kernel_rfl) (by kernel_rfl) (by kernel_rfl) (e := Extern.AbiNoEscape.same) (by kernel_rfl)]
  rw [Lib.run_noEscape]
  simp only [Result.andThen]
  rw [Oper.upon_value]
  go_wp2
  rw [conv_from w b hsh]
  simp only [Result.andThen]
  rw [Oper.upon_value]
  go_wp2
  go_end0
  exact ⟨rfl, rfl⟩

/-- What copyCheck leaves. -/
theorem copy51 (b : Nat) (p v : Value) (w : World) (hb : Bl w b p v) (hp : p = .pointer none ∨ p = .pointer (some ⟨b, 0, none⟩)) :
    Calls Try.prog 51 #[.pointer (some ⟨b, 0, none⟩)] w fun e w' => e = .returned (.tuple #[]) ∧ Bl w' b (.pointer (some ⟨b, 0, none⟩)) v ∧ Fr w w' b none := by
  rcases hp with rfl | rfl
  · refine (copy51_fresh b w hb.cell0 hb.shape (hb.frozen 0)).mono ?_
    rintro e w' ⟨rfl, rfl⟩
    exact ⟨rfl, hb.set0 _, (Fr.refl w b none).setCell 0 _⟩
  · refine (copy51_used b w hb.cell0).mono ?_
    rintro e w' ⟨rfl, rfl⟩
    exact ⟨rfl, hb, Fr.refl _ b none⟩

theorem red_cellsB : Lib.strCells ⟨#[91, 82, 69, 68, 65, 67, 84, 69, 68, 93]⟩ = Lib.byteCells red := rfl

/-- What a writing method leaves: the bytes l appended. -/
def Wrote (w : World) (b base : Nat) (oa : Option Addr) (oc : Nat) (out l : List UInt8) (w' : World) : Prop :=
  ∃ oa' oc', Bl w' b (.pointer (some ⟨b, 0, none⟩)) (.slice oa' (out ++ l).length oc') ∧ w'.ownsRow base 5 1 (.slice oa' (out ++ l).length oc') (out ++ l).length (Lib.byteCells (out ++ l)) ∧ Fr w w' b (Value.slice oa out.length oc).ownBlock

theorem wrote_of {w w1 w2 : World} {b base : Nat} {oa : Option Addr} {oc : Nat} {out l : List UInt8} {v' : Value} {n : Nat} (hn : n = (out ++ l).length) (hbb : b < base) (hown : w1.ownsRow base 5 1 (.slice oa out.length oc) out.length (Lib.byteCells out))
    (hbl : Bl w1 b (.pointer (some ⟨b, 0, none⟩)) (.slice oa out.length oc)) (hF : Fr w w1 b (Value.slice oa out.length oc).ownBlock)
    (hown' : w2.ownsRow base 5 1 v' n (Lib.byteCells out ++ Lib.byteCells l)) (hg : w1.grownBy w2 (Value.slice oa out.length oc).ownBlock) :
    (∃ oa' n' oc', v' = .slice oa' n' oc') ∧ Bl w2 b (.pointer (some ⟨b, 0, none⟩)) (.slice oa out.length oc) ∧ Wrote w b base oa oc out l (w2.setCell ⟨b, 1, none⟩ v') := by
  subst hn
  rw [← Lib.byteCells_append] at hown'
  obtain ⟨oa', oc', rfl⟩ := owns_shape hown'
  have hb2 : Bl w2 b (.pointer (some ⟨b, 0, none⟩)) (.slice oa out.length oc) := (hg.block b hbl.lt (fun e => owns_row_ne hown hbb e.symm)).trans hbl
  refine ⟨⟨oa', _, oc', rfl⟩, hb2, oa', oc', hb2.set1 _, ?_, (hF.grown hg).setCell 1 _⟩
  exact hown'.kept (row := some b) ⟨rfl, rfl, rfl, by simp [World.setCell], fun k _ hk => Below.heap_setCell _ _ _ _ (fun e => hk (by simp [e]))⟩ (Or.inr (owns_row_ne hown' hbb))

set_option maxHeartbeats 800000 in
/-- Write, p not nil. -/
theorem write42_some (b base : Nat) (p : Value) (oa : Option Addr) (oc : Nat) (out l : List UInt8) (ad : Addr) (c : Nat) (w : World) (hbl : Bl w b p (.slice oa out.length oc)) (hp : p = .pointer none ∨ p = .pointer (some ⟨b, 0, none⟩)) (hbb : b < base) (hbs : base ≤ w.heap.size)
    (hown : w.ownsRow base 5 1 (.slice oa out.length oc) out.length (Lib.byteCells out)) (hlen : out.length + l.length ≤ 1000000000) (hlb : ∀ j u, (Lib.byteCells l)[j]? = some u → w.cell? (ad.add j) = some u) (hne : 0 < l.length → ad.block ≠ b) :
    Calls Try.prog 42 #[.pointer (some ⟨b, 0, none⟩), .slice (some ad) l.length c] w fun e w' => e = .returned (.tuple #[.int .i64 (l.length : Int), .nilIface]) ∧ Wrote w b base oa oc out l w' := by
  obtain ⟨i5, hi5, hz50, hz51, hz52⟩ := info_parts Try.info5
  go_enter Try.func42, Try.ntmps42
  go_wp2_with fail
  refine (copy51 b p _ _ hbl hp).mono ?_
  rintro e w1 ⟨rfl, hbl1, hF1⟩
  have hown1 : w1.ownsRow base 5 1 (.slice oa out.length oc) out.length (Lib.byteCells out) := hown.kept hF1.toGrown (Or.inr (owns_row_ne hown hbb))
  have hlb1 : ∀ j u, (Lib.byteCells l)[j]? = some u → w1.cell? (ad.add j) = some u := fun j u hj => by
    have hc := hlb j u hj
    have hl0 : 0 < l.length := by
      have := (List.getElem?_eq_some_iff.1 hj).1
      rw [Lib.byteCells_length] at this
      omega
    have hbk : (ad.add j).block = ad.block := by unfold Addr.add; split <;> rfl
    have hlt := World.block_lt_of_cell? _ _ hc
    rw [World.cell?_of_block (w := w) (hF1.block _ hlt (by rw [hbk]; exact hne hl0) (by simp))]
    exact hc
  have C2 : Hid (∀ u ∈ Lib.byteCells l, u.oneCell' = true) := fun u hu => by
    simp only [Lib.byteCells, List.mem_map] at hu
    obtain ⟨x, _, rfl⟩ := hu
    rfl
  have C3 : Hid (out.length + l.length ≤ maxLen) := by show _ ≤ _; unfold maxLen; omega
  have C4 : (out.length + l.length) * 1 ≤ 140737488355328 := by omega
  have C5 : base ≤ w1.heap.size := Nat.le_trans hbs hF1.size
  have C6 : Hid (∀ j u, (Lib.byteCells l)[j]? = some u → w1.cell? (ad.add j) = some u) := hlb1
  have c1 := hbl1.cell1
  clear hlb hlb1 hown hbl
  go_wp2_with (at_builtin; refine wpList_append_own _ rfl (.tmp 12) (.tmp 13) 22 rfl base 5 i5 (.int .u8 0) 1 1 Try.underlying22 hi5 hz50 hz51 hz52 rfl (by decide) _ _ _ rfl hown1 ad l.length c (Lib.byteCells l) rfl (by rw [Lib.byteCells_length, Nat.mul_one]) C6.out C2.out C3.out C4 C5 ?_)
  intro v' w2 hown' hgrow hnn
  clear hnn
  obtain ⟨⟨oa', n', oc', hv⟩, hbl2, hW⟩ := wrote_of (w := w) (by simp) hbb hown1 hbl1 hF1.less hown' hgrow
  subst hv
  have d1 := hbl2.cell1
  have f1 := hbl2.frozen 1
  clear hown' hgrow hbl1 hbl2 hown1 c1
  go_wp2
  go_ret2
  exact ⟨rfl, hW⟩

theorem Fr.ofAlloc (w : World) (b : Nat) (row : Option Nat) (o : Obj) : Fr w (w.alloc o) b row := (Fr.refl w b row).alloc o

theorem Bl.alloc {w : World} {b : Nat} {p v : Value} (h : Bl w b p v) (o : Obj) : Bl (w.alloc o) b p v := (Lib.alloc_old w o b h.lt).trans h

set_option maxHeartbeats 800000 in
/-- Write of nil. -/
theorem write42_none (b base : Nat) (p : Value) (oa : Option Addr) (oc : Nat) (out : List UInt8) (w : World) (hbl : Bl w b p (.slice oa out.length oc)) (hp : p = .pointer none ∨ p = .pointer (some ⟨b, 0, none⟩)) (hbb : b < base)
    (hown : w.ownsRow base 5 1 (.slice oa out.length oc) out.length (Lib.byteCells out)) :
    Calls Try.prog 42 #[.pointer (some ⟨b, 0, none⟩), .slice none 0 0] w fun e w' => e = .returned (.tuple #[.int .i64 0, .nilIface]) ∧ Wrote w b base oa oc out [] w' := by
  obtain ⟨i5, hi5, hz50, hz51, hz52⟩ := info_parts Try.info5
  go_enter Try.func42, Try.ntmps42
  go_wp2_with fail
  refine (copy51 b p _ _ hbl hp).mono ?_
  rintro e w1 ⟨rfl, hbl1, hF1⟩
  have hown1 : w1.ownsRow base 5 1 (.slice oa out.length oc) out.length (Lib.byteCells out) := hown.kept hF1.toGrown (Or.inr (owns_row_ne hown hbb))
  have c1 := hbl1.cell1
  have f1 := hbl1.frozen 1
  have HW : Hid (Wrote w b base oa oc out [] (w1.setCell ⟨b, 1, none⟩ (.slice oa out.length oc))) :=
    (wrote_of (w := w) (l := []) (n := out.length) (by simp) hbb hown1 hbl1 hF1.less (by simpa [Lib.byteCells] using hown1) ⟨rfl, rfl, rfl, Nat.le_refl _, fun _ _ _ => rfl⟩).2.2
  clear hown hbl
  go_wp2_with (at_builtin; refine wpList_append_own_none rfl (.tmp 12) (.tmp 13) 22 rfl base 5 i5 1 Try.underlying22 hi5 _ _ _ rfl hown1 rfl ?_)
  clear hown1 hbl1 hF1
  go_wp2
  go_ret2
  exact ⟨rfl, HW.out⟩

set_option maxHeartbeats 800000 in
/-- WriteString of the text that stands for a redacted span. -/
theorem write44 (b base : Nat) (p : Value) (oa : Option Addr) (oc : Nat) (out : List UInt8) (w : World) (hbl : Bl w b p (.slice oa out.length oc)) (hp : p = .pointer none ∨ p = .pointer (some ⟨b, 0, none⟩)) (hbb : b < base) (hbs : base ≤ w.heap.size)
    (hown : w.ownsRow base 5 1 (.slice oa out.length oc) out.length (Lib.byteCells out)) (hlen : out.length + 10 ≤ 1000000000) :
    Calls Try.prog 44 #[.pointer (some ⟨b, 0, none⟩), .string ⟨#[91, 82, 69, 68, 65, 67, 84, 69, 68, 93]⟩] w fun e w' => e = .returned (.tuple #[.int .i64 10, .nilIface]) ∧ Wrote w b base oa oc out red w' := by
  obtain ⟨i5, hi5, hz50, hz51, hz52⟩ := info_parts Try.info5
  go_enter Try.func44, Try.ntmps44
  go_wp2_with fail
  refine (copy51 b p _ _ hbl hp).mono ?_
  rintro e w1 ⟨rfl, hbl1, hF1⟩
  have hown1 : w1.ownsRow base 5 1 (.slice oa out.length oc) out.length (Lib.byteCells out) := hown.kept hF1.toGrown (Or.inr (owns_row_ne hown hbb))
  have C3 : Hid (out.length + (ByteArray.mk #[91, 82, 69, 68, 65, 67, 84, 69, 68, 93]).size ≤ maxLen) := by
    show out.length + 10 ≤ maxLen
    unfold maxLen; omega
  have C4 : Hid (out.length + (ByteArray.mk #[91, 82, 69, 68, 65, 67, 84, 69, 68, 93]).size ≤ 140737488355328) := by
    show out.length + 10 ≤ 140737488355328
    omega
  have C5 : base ≤ w1.heap.size := Nat.le_trans hbs hF1.size
  have c1 := hbl1.cell1
  clear hown hbl
  go_wp2_with (at_builtin; refine Lib.wpList_append_own_string _ rfl (.tmp 12) (.tmp 13) 22 9 rfl base 5 i5 Try.underlying22 Try.underlying9 hi5 hz50 hz51 hz52 _ _ _ rfl hown1 ⟨#[91, 82, 69, 68, 65, 67, 84, 69, 68, 93]⟩ rfl C3.out C4.out C5 ?_)
  intro v' w2 hown' hgrow hnn
  clear hnn
  rw [red_cellsB] at hown'
  obtain ⟨⟨oa', n', oc', hv⟩, hbl2, hW⟩ := wrote_of (w := w) (l := red) (by rw [List.length_append]; rfl) hbb hown1 hbl1 hF1.less hown' hgrow
  subst hv
  have d1 := hbl2.cell1
  have f1 := hbl2.frozen 1
  clear hown' hgrow hbl1 hbl2 hown1 c1
  go_wp2
  go_ret2
  exact ⟨rfl, hW⟩

set_option maxHeartbeats 800000 in
/-- WriteByte of a newline. -/
theorem write45 (b base : Nat) (p : Value) (oa : Option Addr) (oc : Nat) (out : List UInt8) (w : World) (hbl : Bl w b p (.slice oa out.length oc)) (hp : p = .pointer none ∨ p = .pointer (some ⟨b, 0, none⟩)) (hbb : b < base) (hbs : base ≤ w.heap.size)
    (hown : w.ownsRow base 5 1 (.slice oa out.length oc) out.length (Lib.byteCells out)) (hlen : out.length + 1 ≤ 1000000000) :
    Calls Try.prog 45 #[.pointer (some ⟨b, 0, none⟩), .int .u8 10] w fun e w' => e = .returned .nilIface ∧ Wrote w b base oa oc out [10] w' := by
  obtain ⟨i5, hi5, hz50, hz51, hz52⟩ := info_parts Try.info5
  go_enter Try.func45, Try.ntmps45
  go_wp2_with fail
  refine (copy51 b p _ _ hbl hp).mono ?_
  rintro e w1 ⟨rfl, hbl1, hF1⟩
  have hown1 : w1.ownsRow base 5 1 (.slice oa out.length oc) out.length (Lib.byteCells out) := hown.kept hF1.toGrown (Or.inr (owns_row_ne hown hbb))
  have C2 : Hid (∀ u ∈ [Value.int .u8 10], u.oneCell' = true) := fun u hu => by simp at hu; subst hu; rfl
  have C3 : Hid (out.length + 1 ≤ maxLen) := by show _ ≤ _; unfold maxLen; omega
  have C4 : (out.length + 1) * 1 ≤ 140737488355328 := by omega
  have C5 : Hid (base ≤ (w1.alloc (.cells #[.int .u8 10] 5)).heap.size) := by
    have := hF1.size
    show base ≤ _
    simp
    omega
  have HB : Hid (Lib.byteCells [10] = [.int .u8 10]) := rfl
  have hbl2 := hbl1.alloc (.cells #[.int .u8 10] 5)
  have hown2 := hown1.alloc (.cells #[.int .u8 10] 5)
  have hF2 := hF1.alloc (.cells #[.int .u8 10] 5)
  have c1 := hbl1.cell1
  clear hown hbl
  go_wp2_with (at_builtin; refine wpList_append_own _ rfl (.tmp 11) (.tmp 13) 22 rfl base 5 i5 (.int .u8 0) 1 1 Try.underlying22 hi5 hz50 hz51 hz52 rfl (by decide) _ _ _ rfl hown2 ⟨w1.heap.size, 0, none⟩ 1 1 [.int .u8 10] rfl rfl (cell_one_new _ _ _) C2.out C3.out C4 C5.out ?_)
  intro v' w2 hown' hgrow hnn
  clear hnn
  rw [← HB.out] at hown'
  obtain ⟨⟨oa', n', oc', hv⟩, hbl3, hW⟩ := wrote_of (w := w) (l := [10]) (by simp) hbb hown2 hbl2 hF2.less hown' hgrow
  subst hv
  have d1 := hbl3.cell1
  have f1 := hbl3.frozen 1
  clear hown' hgrow hbl1 hbl2 hbl3 hown1 hown2 c1
  go_wp2
  go_ret
  exact ⟨rfl, hW⟩

set_option maxHeartbeats 400000 in
theorem len43 (b : Nat) (p : Value) (oa : Option Addr) (n oc : Nat) (w : World) (hbl : Bl w b p (.slice oa n oc)) :
    Calls Try.prog 43 #[.pointer (some ⟨b, 0, none⟩)] w fun e w' => e = .returned (.int .i64 (n : Int)) ∧ w' = w := by
  have c1 := hbl.cell1
  go_enter Try.func43, Try.ntmps43
  go_wp2
  go_ret
  exact ⟨rfl, rfl⟩

/-- String, of a builder that holds a byte: by the shelf. -/
theorem string46 (b base : Nat) (p : Value) (oa : Option Addr) (oc : Nat) (l : List UInt8) (w : World) (hbl : Bl w b p (.slice oa l.length oc)) (hp : p = .pointer none ∨ p = .pointer (some ⟨b, 0, none⟩)) (hbb : b < base) (h0 : l ≠ [])
    (hown : w.ownsRow base 5 1 (.slice oa l.length oc) l.length (Lib.byteCells l)) :
    Calls Try.prog 46 #[.pointer (some ⟨b, 0, none⟩)] w fun e w' => e = .returned (.string ⟨l.toArray⟩) ∧ Below b w w' ∧ Lib.OthersKept 5 (some b) w w' := by
  have hat : Lib.BuilderAtF 55 5 b b p (Lib.byteCells l) w := by
    refine Lib.BuilderAtF.of ⟨Nat.le_refl b, .slice oa l.length oc, hbl, ?_, owns_row_ne hown hbb⟩
    rw [Lib.byteCells_length]
    exact Joins.ownsRow_le hown (by omega)
  have hin : Lib.IsBuilderF 55 5 b b (Lib.byteCells l) w := by
    rcases hp with rfl | rfl
    · exact Or.inl hat
    · exact Or.inr hat
  refine (Any.Builder_String_k bldLays bldX b b l w hin h0).mono ?_
  rintro e w' ⟨rfl, _, h2, h3⟩
  exact ⟨rfl, h2, h3⟩

/-- What Write is told of p: the bytes l. -/
def PIn (w : World) (b : Nat) (pa : Option Addr) (k c : Nat) (l : List UInt8) : Prop :=
  k = l.length ∧ ((pa = none ∧ k = 0 ∧ c = 0) ∨ ∃ ad, pa = some ad ∧ (∀ j u, (Lib.byteCells l)[j]? = some u → w.cell? (ad.add j) = some u) ∧ (0 < l.length → ad.block ≠ b))

theorem write42 (b base : Nat) (p : Value) (oa : Option Addr) (oc : Nat) (out l : List UInt8) (pa : Option Addr) (k c : Nat) (w : World) (hbl : Bl w b p (.slice oa out.length oc)) (hp : p = .pointer none ∨ p = .pointer (some ⟨b, 0, none⟩)) (hbb : b < base) (hbs : base ≤ w.heap.size)
    (hown : w.ownsRow base 5 1 (.slice oa out.length oc) out.length (Lib.byteCells out)) (hlen : out.length + l.length ≤ 1000000000) (hpa : PIn w b pa k c l) :
    Calls Try.prog 42 #[.pointer (some ⟨b, 0, none⟩), .slice pa k c] w fun e w' => e = .returned (.tuple #[.int .i64 (k : Int), .nilIface]) ∧ Wrote w b base oa oc out l w' := by
  obtain ⟨rfl, ⟨rfl, h0, rfl⟩ | ⟨ad, rfl, h1, h2⟩⟩ := hpa
  · obtain rfl := List.eq_nil_of_length_eq_zero h0
    exact write42_none b base p oa oc out w hbl hp hbb hown
  · exact write42_some b base p oa oc out l ad c w hbl hp hbb hbs hown hlen h1 h2

/-- n bytes of a slice. -/
def BodyIn (w : World) (bo : Option Addr) (n bc : Nat) (zb : Nat → UInt8) : Prop :=
  n ≤ bc ∧ ((bo = none ∧ bc = 0) ∨ ∃ ad, bo = some ad ∧ ∀ j, j < n → w.cell? (ad.add j) = some (.int .u8 ((zb j).toNat : Int)))

theorem add_add (a : Addr) (i j : Nat) : (a.add i).add j = a.add (i + j) := by
  unfold Addr.add
  by_cases hi : i = 0
  · subst hi; simp
  · by_cases hj : j = 0
    · subst hj; simp [hi]
    · simp [hi, hj, Nat.add_assoc]

theorem add_block (a : Addr) (i : Nat) : (a.add i).block = a.block := by unfold Addr.add; split <;> rfl

/-- body[a:s]. -/
theorem BodyIn.cut {w wr : World} {bo : Option Addr} {n bc : Nat} {zb : Nat → UInt8} (h : BodyIn w bo n bc zb) (hb : Below w.heap.size w wr) {b : Nat} (hbb : w.heap.size ≤ b) {a s : Nat} (has : a ≤ s) (hs : s ≤ n) {pa : Option Addr} (hpa : pa = if bc = a then bo else bo.map (·.add a)) :
    PIn wr b pa (s - a) (bc - a) (slc zb a s) := by
  subst hpa
  refine ⟨(slc_len zb a s).symm, ?_⟩
  obtain ⟨hn, ⟨rfl, rfl⟩ | ⟨ad, rfl, hc⟩⟩ := h
  · left
    exact ⟨by simp, by omega, by omega⟩
  · right
    by_cases e : bc = a
    · rw [if_pos e]
      have e0 : slc zb a s = [] := by rw [show s = a by omega, slc_nil]
      rw [e0]
      exact ⟨ad, rfl, fun j u hj => by simp [Lib.byteCells] at hj, fun h => absurd h (by simp)⟩
    · rw [if_neg e]
      refine ⟨ad.add a, rfl, fun j u hj => ?_, fun h0 => ?_⟩
      · have hj' : j < s - a := by
          have := (List.getElem?_eq_some_iff.1 hj).1
          rw [Lib.byteCells_length, slc_len] at this
          exact this
        have hc' := hc (a + j) (by omega)
        rw [add_add, hb.cell (World.block_lt_of_cell? _ _ hc'), hc']
        rw [← hj]
        simp [Lib.byteCells, slc, hj']
      · rw [slc_len] at h0
        have := World.block_lt_of_cell? _ _ (hc a (by omega))
        rw [add_block] at *
        omega

end Go.Proofs.Qxb6602024a
