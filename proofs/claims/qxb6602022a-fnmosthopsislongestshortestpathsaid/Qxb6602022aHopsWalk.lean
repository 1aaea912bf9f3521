/-
  The walk of MostHops.
-/
import Derived.Test.Qxb6602022aHops
namespace Go.Proofs.Qxb6602022a
open Go.RowKit Go.Deep Gr

theorem run_make_cap (n : Nat) (hn : n ≤ 65536) (w : World) :
    (Instr.makeSlice 28 (.int .i64 0) (.int .i64 (n : Int))).run Try.prog w = .ok (.slice (some ⟨w.heap.size, 0, none⟩) 0 n) (w.alloc (.cells (madeCells #[.int .i64 0] n) 3)) := by
  obtain ⟨i0, hi, hz0, hz1, hz2⟩ := info_parts Try.info3
  have hr := run_make (P := Try.prog) w 28 3 i0 (.int .i64 0) Try.underlying28 hi hz0 .i64 .i64 0 n (by omega) (by omega) (by rw [hz2]; omega) (by omega)
  simp only [Int.toNat_natCast, hz1, Nat.mul_one] at hr
  exact hr

set_option maxHeartbeats 800000 in
theorem hops16_some (ao : Option Addr) (n cap : Nat) (A : Nat → Option Addr) (L C : Nat → Nat) (Z : Nat → Nat → Int) (w : World) (hn : n ≤ 65536) (hL : ∀ k, k < n → L k ≤ 131072)
    (hM : Mat w ao n A L C Z) (hR : InRange n L Z) :
    Calls Try.prog 16 #[.slice ao n cap] w fun e w' => RetHops n (Ed n L Z) w e w' := by
  have hmk := run_make_row' (P := Try.prog) 28 3 (.int .i64 0) 8 Try.underlying28 Try.info3 rfl .i64 .i64 n (by omega) (by omega)
  have hmk2 := run_make_cap n hn
  have hE := Ed.lt hR
  generalize hEd : Ed n L Z = E at *
  have HE : Hid (Ed n L Z = E) := hEd
  clear hEd
  go_enter Try.func16, Try.ntmps16
  go_wp2
  clear hmk hmk2
  go_loopw [3, 5, 20] (fun s q i wr => ∃ (fr m h : Nat) (f : Nat → Int) (qf : Nat → Nat), fr ≤ n ∧ m ≤ n ∧ h ≤ n - 1 ∧ i = .int .i64 fr ∧ q = .slice (some ⟨w.heap.size + 1, 0, none⟩) m n ∧ s = .int .i64 h ∧ HopsSt w wr n f qf ∧ Most n E fr (fun _ => 0) h) (fun _ _ i _ => n - (intOf i).toNat)
  case atStart => exact ⟨0, 0, 0, _, _, Nat.zero_le _, Nat.zero_le _, Nat.zero_le _, rfl, rfl, rfl, HopsSt.start w n, ⟨fun u v d hu => absurd hu (Nat.not_lt_zero _), fun v hv => Int.le_refl _, Or.inl rfl⟩⟩
  case round =>
    obtain ⟨fr, m, h, f, qf, hfr, hm, hh, rfl, rfl, rfl, hS, hMo⟩ := hrel
    by_cases hlt : fr < n
    · go_wp2
      go_loopw [7, 25] (fun _ i wr => ∃ (k : Nat) (f : Nat → Int), k ≤ n ∧ i = .int .i64 k ∧ HopsSt w wr n f qf ∧ (∀ v, v < k → f v = -1)) (fun _ i _ => n - (intOf i).toNat)
      case atStart => exact ⟨0, f, Nat.zero_le _, rfl, hS, fun v hv => absurd hv (Nat.not_lt_zero _)⟩
      case round =>
        clear hS
        obtain ⟨k, f, hk, rfl, hS, hf⟩ := hrel
        by_cases hlk : k < n
        · have h1 := hS.hops.cell hlk
          have h2 := hS.hops.frozen k
          have HS : Hid (HopsSt w (wr.setCell ⟨w.heap.size, k, none⟩ (.int .i64 (-1))) n (updI f k (-1)) qf) := hS.setHop k (-1)
          have HF : Hid (∀ v, v < k + 1 → updI f k (-1) v = -1) := fun v hv => by
            by_cases e : v = k
            · subst e; exact updI_same f v _
            · rw [updI_other f _ e]; exact hf v (by omega)
          clear hf
          go_wp2
          go_roundw
          case rel => exact ⟨k + 1, _, by omega, by go_num, HS.out, HF.out⟩
          case measure => simp [intOf]; omega
        · obtain rfl : n = k := by omega
          have g1 : (wr.alloc (.cells #[.int .i64 (fr : Int)] 3)).cell? ⟨wr.heap.size, 0, none⟩ = some (.int .i64 (fr : Int)) := by simp
          have g2 := (hS.alloc (.cells #[.int .i64 (fr : Int)] 3)).que.cell (show 0 < n by omega)
          have g3 := (hS.alloc (.cells #[.int .i64 (fr : Int)] 3)).que.frozen 0
          have hS0 : Srch w (((wr.alloc (.cells #[.int .i64 (fr : Int)] 3)).setCell ⟨w.heap.size + 1, 0, none⟩ (.int .i64 (fr : Int))).setCell ⟨w.heap.size, fr, none⟩ (.int .i64 0)) n E fr 0 (updI f fr 0) (fun i => if i = 0 then fr else qf i) 1 h (fun _ => False) :=
            ⟨((hS.alloc _).setQue 0 fr).setHop fr 0, Bfs.init hlt f (fun v hv => by rw [hf v hv]; omega) _ rfl, hMo.begin (fun v hv => by
              by_cases e : v = fr
              · subst e; rw [updI_same]; omega
              · rw [updI_other f _ e, hf v hv]; omega), hh⟩
          have HS : Hid (Srch w (((wr.alloc (.cells #[.int .i64 (fr : Int)] 3)).setCell ⟨w.heap.size + 1, 0, none⟩ (.int .i64 (fr : Int))).setCell ⟨w.heap.size, fr, none⟩ (.int .i64 0)) n E fr 0 (updI f fr 0) (fun i => if i = 0 then fr else qf i) 1 h (fun _ => False)) := hS0
          have h1 := ((hS.alloc (.cells #[.int .i64 (fr : Int)] 3)).setQue 0 fr).hops.cell hlt
          have h2 := ((hS.alloc (.cells #[.int .i64 (fr : Int)] 3)).setQue 0 fr).hops.frozen fr
          clear hf hS hMo hS0
          go_wp2_with (at_builtin; refine wpList_append_one _ rfl (.tmp 35) (.tmp 37) rfl (w.heap.size + 1) 0 n rfl ⟨wr.heap.size, 0, none⟩ fr (qrow qf 0) rfl (by omega) g1 g2 g3 ?_)
          clear g1 g2 g3 h1 h2
          go_loopw [3, 5, 8] (fun s q i wr => ∃ (k m h : Nat) (f : Nat → Int) (qf : Nat → Nat), k ≤ m ∧ i = .int .i64 k ∧ q = .slice (some ⟨w.heap.size + 1, 0, none⟩) m n ∧ s = .int .i64 h ∧ Srch w wr n E fr k f qf m h (fun _ => False)) (fun _ _ i _ => n - (intOf i).toNat)
          case atStart => exact ⟨0, 1, h, _, _, by omega, rfl, rfl, rfl, HS.out⟩
          case round =>
            clear HS
            obtain ⟨k, m, h, f, qf, hkm, rfl, rfl, rfl, hSr⟩ := hrel
            have hmn := hSr.m_le
            by_cases hlm : k < m
            · obtain ⟨u, hu⟩ : ∃ u, u = qf k := ⟨_, rfl⟩
              obtain ⟨hun, hfu⟩ := hSr.bfs.que k hlm
              rw [← hu] at hun hfu
              obtain ⟨b, off, rfl, hc⟩ := hM.heads u hun
              obtain ⟨au, hau⟩ : ∃ au, au = A u := ⟨_, rfl⟩
              obtain ⟨lu, hlu⟩ : ∃ lu, lu = L u := ⟨_, rfl⟩
              have h1 : wr.cell? ⟨b, off + u, none⟩ = some (.slice au lu (C u)) := by
                rw [hau, hlu]
                exact (hSr.st.below.cell (p := ⟨b, off + u, none⟩) (World.block_lt_of_cell? _ _ hc)).trans hc
              have h2 : wr.cell? ⟨w.heap.size + 1, k, none⟩ = some (.int .i64 (u : Int)) := by
                rw [hSr.st.que.cell (show k < n by omega), hu]; rfl
              have hI : Hid (IntsAt w au lu (Z u)) := by rw [hau, hlu]; exact hM.rows u hun
              have h3 : lu ≤ 131072 := by rw [hlu]; exact hL u hun
              have HU : Hid (u = qf k) := hu
              have HL : Hid (lu = L u) := hlu
              have HN : Hid (u < n) := hun
              clear hu hau hlu hc
              go_wp2
              clear h1 h2 hL
              go_loopw [3, 5, 11, 55] (fun s q _ i wr => ∃ (j m h : Nat) (f : Nat → Int) (qf : Nat → Nat), j ≤ lu ∧ k < m ∧ m ≤ n ∧ Hid (u = qf k) ∧ i = .int .i64 j ∧ q = .slice (some ⟨w.heap.size + 1, 0, none⟩) m n ∧ s = .int .i64 h ∧ Srch w wr n E fr k f qf m h (fun x => ∃ j', j' < j ∧ Z u j' = (x : Int))) (fun _ _ _ i _ => lu - (intOf i).toNat)
              case atStart => exact ⟨0, m, h, f, qf, Nat.zero_le _, hlm, hmn, HU, rfl, rfl, rfl, ⟨hSr.st, hSr.bfs.less (fun x hx => by obtain ⟨j', hj, _⟩ := hx; omega), hSr.most, hSr.hle⟩⟩
              case round =>
                clear hSr hlm hmn hfu HU
                obtain ⟨j, m, h, f, qf, hj, hlm, hmn, HU, rfl, rfl, rfl, hSr⟩ := hrel
                by_cases hlj : j < lu
                · obtain ⟨b', off', rfl, hc⟩ := hI.out j hlj
                  obtain ⟨hz0, hz1⟩ := hR u HN.out j (by rw [← HL.out]; exact hlj)
                  obtain ⟨v, hv⟩ : ∃ v : Nat, Z u j = (v : Int) := ⟨(Z u j).toNat, by omega⟩
                  have hvn : v < n := by omega
                  have h1 : wr.cell? ⟨b', off' + j, none⟩ = some (.int .i64 (v : Int)) := by
                    rw [← hv]
                    exact (hSr.st.below.cell (p := ⟨b', off' + j, none⟩) (World.block_lt_of_cell? _ _ hc)).trans hc
                  have hEv : E (qf k) v := by
                    rw [← HU.out, ← HE.out]
                    exact ⟨HN.out, j, by rw [← HL.out]; exact hlj, hv⟩
                  have hDD : ∀ x : Nat, (∃ j', j' < j + 1 ∧ Z u j' = (x : Int)) → (∃ j', j' < j ∧ Z u j' = (x : Int)) ∨ x = v := fun x hx => by
                    obtain ⟨j', hj', e⟩ := hx
                    by_cases e' : j' = j
                    · subst e'; right; omega
                    · left; exact ⟨j', by omega, e⟩
                  have h2 := hSr.st.hops.cell hvn
                  have h3' := hSr.st.hops.frozen v
                  clear hc hz0 hz1 hv
                  by_cases hneg : f v < 0
                  · obtain ⟨fu, hfu⟩ : ∃ fu, fu = f (qf k) := ⟨_, rfl⟩
                    have hfu0 := (hSr.bfs.que k hlm).2
                    have hfu1 := hSr.bfs.low k hlm
                    have hun : qf k < n := (hSr.bfs.que k hlm).1
                    have h5 : wr.cell? ⟨w.heap.size, u, none⟩ = some (.int .i64 fu) := by
                      rw [hfu, HU.out]; exact hSr.st.hops.cell hun
                    rw [← hfu] at hfu0 hfu1
                    have hrc := fun o => hSr.reach hE hlm hEv hneg hlt hDD (x := fu + 1) (by rw [hfu]) o
                    obtain ⟨hmn', hS1⟩ := hrc (.cells #[.int .i64 (v : Int)] 3)
                    have HS : Hid (Srch w (((wr.setCell ⟨w.heap.size, v, none⟩ (.int .i64 (fu + 1))).alloc (.cells #[.int .i64 (v : Int)] 3)).setCell ⟨w.heap.size + 1, m, none⟩ (.int .i64 (v : Int))) n E fr k (updI f v (fu + 1)) (fun k => if k = m then v else qf k) (m + 1) (max h (fu + 1).toNat) (fun x => ∃ j', j' < j + 1 ∧ Z u j' = (x : Int))) := hS1
                    have HU' : Hid (u = (fun k => if k = m then v else qf k) k) := by
                      show u = if k = m then v else qf k
                      rw [if_neg (by omega)]; exact HU.out
                    have h6 : (wr.setCell ⟨w.heap.size, v, none⟩ (.int .i64 (fu + 1))).cell? ⟨w.heap.size, v, none⟩ = some (.int .i64 (fu + 1)) := by
                      rw [(hSr.st.hops.set v _).cell hvn, if_pos rfl]
                    have g1 : ((wr.setCell ⟨w.heap.size, v, none⟩ (.int .i64 (fu + 1))).alloc (.cells #[.int .i64 (v : Int)] 3)).cell? ⟨wr.heap.size, 0, none⟩ = some (.int .i64 (v : Int)) := cell_boxed _ _ _ _
                    have hSt := (hSr.st.setHop v (fu + 1)).alloc (.cells #[.int .i64 (v : Int)] 3)
                    have g2 := hSt.que.cell hmn'
                    have g3 := hSt.que.frozen m
                    have h4 : wr.cell? ⟨w.heap.size, v, none⟩ = some (.int .i64 (f v)) := h2
                    have hh0 := hSr.hle
                    clear hSr hDD hEv h2 hrc hS1 hSt hfu HU
                    generalize f v = fv at *
                    by_cases hmx : (h : Int) < fu + 1
                    · go_wp2_with (at_builtin; refine wpList_append_one _ rfl (.tmp 78) (.tmp 80) rfl (w.heap.size + 1) m n rfl ⟨wr.heap.size, 0, none⟩ v (qrow qf m) rfl (by omega) g1 g2 g3 ?_)
                      go_roundw
                      case rel => exact ⟨j + 1, m + 1, max h (fu + 1).toNat, _, _, by omega, by omega, by omega, HU', by go_num, rfl, val_int (by omega), HS.out⟩
                      case measure => simp [intOf]; omega
                    · go_wp2_with (at_builtin; refine wpList_append_one _ rfl (.tmp 78) (.tmp 80) rfl (w.heap.size + 1) m n rfl ⟨wr.heap.size, 0, none⟩ v (qrow qf m) rfl (by omega) g1 g2 g3 ?_)
                      go_roundw
                      case rel => exact ⟨j + 1, m + 1, max h (fu + 1).toNat, _, _, by omega, by omega, by omega, HU', by go_num, rfl, val_int (by omega), HS.out⟩
                      case measure => simp [intOf]; omega
                  · have HS : Hid (Srch w wr n E fr k f qf m h (fun x => ∃ j', j' < j + 1 ∧ Z u j' = (x : Int))) := hSr.seen hlm hvn (by omega) hDD
                    have h4 : wr.cell? ⟨w.heap.size, v, none⟩ = some (.int .i64 (f v)) := h2
                    clear hSr hDD hEv h2
                    go_wp2
                    go_roundw
                    case rel => exact ⟨j + 1, m, h, f, qf, by omega, hlm, hmn, HU, by go_num, rfl, rfl, HS.out⟩
                    case measure => simp [intOf]; omega
                · have HS : Hid (Srch w wr n E fr (k + 1) f qf m h (fun _ => False)) := hSr.next hlm (fun v he => by
                    rw [← HU.out, ← HE.out] at he
                    obtain ⟨_, j', hj', e⟩ := he
                    exact ⟨j', by rw [← HL.out] at hj'; omega, e⟩)
                  clear hSr
                  go_wp2
                  go_roundw
                  case rel => exact ⟨k + 1, m, h, f, qf, by omega, by go_num, rfl, rfl, HS.out⟩
                  case measure => simp [intOf]; omega
            · obtain rfl : k = m := by omega
              have HO : Hid (Most n E (fr + 1) (fun _ => 0) h) := hSr.over hE
              go_wp2
              go_roundw
              case rel => exact ⟨fr + 1, k, h, f, qf, by omega, hmn, hSr.hle, by go_num, rfl, rfl, hSr.st, HO.out⟩
              case measure => simp [intOf]; omega
    · obtain rfl : fr = n := by omega
      go_wp2
      go_ret
      exact ⟨h, rfl, hMo.over, hh, hS.below⟩

end Go.Proofs.Qxb6602022a
