/-
  THE WALK OF (*item).reopened (5).
-/
import Derived.Test.YbulkadkoSteps
import Derived.Deep.CutBlock
namespace Go.Proofs.Ybulkadko
open Go.RowKit
set_option linter.unusedVariables false
set_option linter.unusedSimpArgs false

/-- How many approvals the steps from s on hold; the first k of them. -/
def held (D : List D1) (s k : Nat) : Nat := (((D.drop s).take k).map (·.2.2)).sum
theorem held_zero (D : List D1) (s : Nat) : held D s 0 = 0 := by simp [held]
theorem held_succ {D : List D1} {s k : Nat} {d : D1} (h : D[s + k]? = some d) : held D s (k + 1) = held D s k + d.2.2 := by
  have h' : (D.drop s)[k]? = some d := by rw [List.getElem?_drop]; exact h
  unfold held
  rw [List.take_add_one, h']
  simp
theorem held_le {D : List D1} (h : ∀ d ∈ D, d.2.2 ≤ 7) (s : Nat) : ∀ k, held D s k ≤ k * 7
  | 0 => by simp [held]
  | k + 1 => by
    have ih := held_le h s k
    cases hd : D[s + k]? with
    | none =>
      have : held D s (k + 1) = held D s k := by
        have h' : (D.drop s)[k]? = none := by rw [List.getElem?_drop]; exact hd
        unfold held
        rw [List.take_add_one, h']
        simp
      omega
    | some d =>
      rw [held_succ hd]
      have := h d (List.mem_of_getElem? hd)
      omega

theorem grown_refl (w : World) (r : Option Nat) : w.grownBy w r := ⟨rfl, rfl, rfl, Nat.le_refl _, fun _ _ _ => rfl⟩
theorem grown_drewN0 {w w' : World} (h : w.grownBy w' none) : ∀ n, w.grownBy (w'.drewN n) none
  | 0 => h
  | n + 1 => ⟨(grown_drewN0 h n).os, (grown_drewN0 h n).tape, (grown_drewN0 h n).output, (grown_drewN0 h n).size, (grown_drewN0 h n).block⟩

set_option maxRecDepth 100000 in
theorem reopened_empty (bi : Nat) (ao : Option Addr) (cap : Nat) (w : World) (hb : bi < w.heap.size) (hs : w.cell? ⟨bi, 11, none⟩ = some (.slice ao 0 cap)) :
    Calls Yba.prog 5 #[.pointer (some ⟨bi, 0, none⟩)] w fun e w' => e = .returned (.tuple #[.slice none 0 0, .int .i64 0]) ∧ w.grownBy w' none := by
  go_enter Yba.func5, Yba.ntmps5
  go_wp2
  refine wp_loop_rounds 1 ?_
  rw [rounds_succ]
  go_wp2
  go_ret2
  exact ⟨rfl, grown_refl _ _⟩

set_option maxHeartbeats 2000000 in
set_option maxRecDepth 100000 in
theorem reopened_approved (bi g : Nat) (D : List D1) (w : World) (s : Nat) (HSE : Hid (s = D.length - 1)) (hlen : D.length ≤ 1024) (h0 : 0 < D.length) (hb : bi < w.heap.size) (hg : g < w.heap.size) (hst : w.cell? ⟨bi, 2, none⟩ = some (.string ⟨#[97, 112, 112, 114, 111, 118, 101, 100]⟩)) (hs : w.cell? ⟨bi, 11, none⟩ = some (.slice (some ⟨g, 0, none⟩) D.length D.length)) (hL : Hid (Laid w g D)) (hA : Hid (∀ d ∈ D, d.2.2 ≤ 7)) :
    Calls Yba.prog 5 #[.pointer (some ⟨bi, 0, none⟩)] w fun e w' => e = .returned (.tuple #[.slice (some ⟨g, s * 7, none⟩) (D.length - s) (D.length - s), .int .i64 (held D s (D.length - s))]) ∧ w.grownBy w' none := by
  have hs1 : s + 1 = D.length := by have := HSE.out; omega
  go_enter Yba.func5, Yba.ntmps5
  go_upto_block 0 with fail
  go_cut [2] from 6 to 53 (fun v wc => v = .slice (some ⟨g, s * 7, none⟩) (D.length - s) (D.length - s) ∧ w.grownBy wc none)
  case first =>
    go_upto_region 4 with fail
    go_quiet (fail)
    go_wp2_with fail
    go_meet
    exact ⟨by rw [HSE.out], grown_drewN0 (grown_refl _ _) _⟩
  case rest =>
    obtain ⟨rfl, hgc⟩ := hcut
    have HC : Hid (w.grownBy wc none) := hgc
    clear hgc hst hs HSE
    go_wp2
    go_loopg [3, 56] (D.length - s) (fun gh v i wr => ∃ k : Nat, k ≤ D.length - s ∧ gh = D.length - s - k ∧ i = .int .i64 k ∧ v = .int .i64 (held D s k) ∧ w.grownBy wr none)
    case atStart => exact ⟨0, Nat.zero_le _, rfl, rfl, by rw [held_zero]; rfl, HC.out⟩
    case round =>
      obtain ⟨k, hk, rfl, rfl, rfl, hgr⟩ := hrel
      have hbd := held_le hA.out s k
      by_cases hlt : k < D.length - s
      · obtain ⟨d, hd⟩ : ∃ d, D[s + k]? = some d := ⟨_, List.getElem?_eq_getElem (by omega)⟩
        have l0 := laid_grown hL.out hgr hg (s + k) d hd
        have hdl := hA.out d (List.mem_of_getElem? hd)
        have HS : Hid (held D s (k + 1) = held D s k + d.2.2) := held_succ hd
        rw [show (s + k) * 7 = s * 7 + k * 7 by omega] at l0
        obtain ⟨a0, a1, a2, a3, a4, a5, a6⟩ := l0
        obtain ⟨b, ao, L⟩ := d
        have HG : Hid (w.grownBy wr none) := hgr
        clear hd hgr
        simp only [] at a1 a3 hdl HS
        generalize hH : held D s k = hl at hbd HS ⊢
        go_wp2
        go_roundg (D.length - s - (k + 1))
        case measure => omega
        case rel =>
          refine ⟨k + 1, by omega, rfl, by go_num, ?_, HG.out.trans (World.grownBy_alloc wr _ none)⟩
          rw [HS.out]
          go_num
      · obtain rfl : k = D.length - s := by omega
        have HG : Hid (w.grownBy wr none) := hgr
        clear hgr
        go_wp2
        go_ret2
        exact ⟨rfl, HG.out⟩

set_option maxHeartbeats 2000000 in
set_option maxRecDepth 100000 in
theorem reopened_rejected (bi g : Nat) (D : List D1) (w : World) (s : Nat) (HSE : Hid (s = 0)) (hlen : D.length ≤ 1024) (h0 : 0 < D.length) (hb : bi < w.heap.size) (hg : g < w.heap.size) (hst : w.cell? ⟨bi, 2, none⟩ = some (.string ⟨#[114, 101, 106, 101, 99, 116, 101, 100]⟩)) (hs : w.cell? ⟨bi, 11, none⟩ = some (.slice (some ⟨g, 0, none⟩) D.length D.length)) (hL : Hid (Laid w g D)) (hA : Hid (∀ d ∈ D, d.2.2 ≤ 7)) :
    Calls Yba.prog 5 #[.pointer (some ⟨bi, 0, none⟩)] w fun e w' => e = .returned (.tuple #[.slice (some ⟨g, s * 7, none⟩) (D.length - s) (D.length - s), .int .i64 (held D s (D.length - s))]) ∧ w.grownBy w' none := by
  go_enter Yba.func5, Yba.ntmps5
  go_upto_block 0 with fail
  go_cut [2] from 6 to 53 (fun v wc => v = .slice (some ⟨g, s * 7, none⟩) (D.length - s) (D.length - s) ∧ w.grownBy wc none)
  case first =>
    go_wp2_with fail
    go_meet
    exact ⟨by rw [HSE.out]; simp, grown_refl _ _⟩
  case rest =>
    obtain ⟨rfl, hgc⟩ := hcut
    have HC : Hid (w.grownBy wc none) := hgc
    clear hgc hst hs HSE
    go_wp2
    go_loopg [3, 56] (D.length - s) (fun gh v i wr => ∃ k : Nat, k ≤ D.length - s ∧ gh = D.length - s - k ∧ i = .int .i64 k ∧ v = .int .i64 (held D s k) ∧ w.grownBy wr none)
    case atStart => exact ⟨0, Nat.zero_le _, rfl, rfl, by rw [held_zero]; rfl, HC.out⟩
    case round =>
      obtain ⟨k, hk, rfl, rfl, rfl, hgr⟩ := hrel
      have hbd := held_le hA.out s k
      by_cases hlt : k < D.length - s
      · obtain ⟨d, hd⟩ : ∃ d, D[s + k]? = some d := ⟨_, List.getElem?_eq_getElem (by omega)⟩
        have l0 := laid_grown hL.out hgr hg (s + k) d hd
        have hdl := hA.out d (List.mem_of_getElem? hd)
        have HS : Hid (held D s (k + 1) = held D s k + d.2.2) := held_succ hd
        rw [show (s + k) * 7 = s * 7 + k * 7 by omega] at l0
        obtain ⟨a0, a1, a2, a3, a4, a5, a6⟩ := l0
        obtain ⟨b, ao, L⟩ := d
        have HG : Hid (w.grownBy wr none) := hgr
        clear hd hgr
        simp only [] at a1 a3 hdl HS
        generalize hH : held D s k = hl at hbd HS ⊢
        go_wp2
        go_roundg (D.length - s - (k + 1))
        case measure => omega
        case rel =>
          refine ⟨k + 1, by omega, rfl, by go_num, ?_, HG.out.trans (World.grownBy_alloc wr _ none)⟩
          rw [HS.out]
          go_num
      · obtain rfl : k = D.length - s := by omega
        have HG : Hid (w.grownBy wr none) := hgr
        clear hgr
        go_wp2
        go_ret2
        exact ⟨rfl, HG.out⟩

set_option maxHeartbeats 2000000 in
set_option maxRecDepth 100000 in
theorem reopened_default (bi g : Nat) (st : ByteArray) (D : List D1) (w : World) (s : Nat) (HSE : Hid (s = first (D.map (·.1)))) (hlen : D.length ≤ 1024) (h0 : 0 < D.length) (hb : bi < w.heap.size) (hg : g < w.heap.size) (hst : w.cell? ⟨bi, 2, none⟩ = some (.string st)) (hs : w.cell? ⟨bi, 11, none⟩ = some (.slice (some ⟨g, 0, none⟩) D.length D.length)) (hL : Hid (Laid w g D)) (hA : Hid (∀ d ∈ D, d.2.2 ≤ 7)) (hsn : s < D.length) (n1 : (st.toList == [97, 112, 112, 114, 111, 118, 101, 100]) = false) (n2 : (st.toList == [114, 101, 106, 101, 99, 116, 101, 100]) = false) :
    Calls Yba.prog 5 #[.pointer (some ⟨bi, 0, none⟩)] w fun e w' => e = .returned (.tuple #[.slice (some ⟨g, s * 7, none⟩) (D.length - s) (D.length - s), .int .i64 (held D s (D.length - s))]) ∧ w.grownBy w' none := by
  have hsl : s ≤ D.length := by have := first_le (D.map (·.1)); have := HSE.out; simp at *; omega
  have hpc : ∀ W, W.heap = w.heap → w.grownBy W none → Calls Yba.prog 6 #[.pointer (some ⟨bi, 0, none⟩)] W fun e w' => e = .returned (.int .i64 s) ∧ W.grownBy w' none := fun W he hgW => by rw [HSE.out]; exact pending_any bi g D.length D W hlen (by rw [he]; exact hb) (by rw [he]; exact hg) ((World.cell?_of_block (w := w) (by rw [he])).trans hs) (laid_grown hL.out hgW hg)
  go_enter Yba.func5, Yba.ntmps5
  go_upto_block 0 with fail
  go_cut [2] from 6 to 53 (fun v wc => v = .slice (some ⟨g, s * 7, none⟩) (D.length - s) (D.length - s) ∧ w.grownBy wc none)
  case first =>
    go_upto_region 1 with fail
    go_region_with (go_at_call 6; refine (hpc w.drew rfl ⟨rfl, rfl, rfl, Nat.le_refl _, fun _ _ _ => rfl⟩).mono ?_; rintro e w1 ⟨rfl, h1⟩; have hs1 : w1.cell? ⟨bi, 11, none⟩ = some (.slice (some ⟨g, 0, none⟩) D.length D.length) := ((World.cell?_of_block (w := w) (h1.block bi hb (by simp))).trans hs))
    all_goals go_wp2_with fail
    all_goals go_meet
    all_goals exact ⟨rfl, ⟨h1.os, h1.tape, h1.output, h1.size, h1.block⟩⟩
  case rest =>
    obtain ⟨rfl, hgc⟩ := hcut
    have HC : Hid (w.grownBy wc none) := hgc
    clear hgc hst hs HSE
    go_wp2
    go_loopg [3, 56] (D.length - s) (fun gh v i wr => ∃ k : Nat, k ≤ D.length - s ∧ gh = D.length - s - k ∧ i = .int .i64 k ∧ v = .int .i64 (held D s k) ∧ w.grownBy wr none)
    case atStart => exact ⟨0, Nat.zero_le _, rfl, rfl, by rw [held_zero]; rfl, HC.out⟩
    case round =>
      obtain ⟨k, hk, rfl, rfl, rfl, hgr⟩ := hrel
      have hbd := held_le hA.out s k
      by_cases hlt : k < D.length - s
      · obtain ⟨d, hd⟩ : ∃ d, D[s + k]? = some d := ⟨_, List.getElem?_eq_getElem (by omega)⟩
        have l0 := laid_grown hL.out hgr hg (s + k) d hd
        have hdl := hA.out d (List.mem_of_getElem? hd)
        have HS : Hid (held D s (k + 1) = held D s k + d.2.2) := held_succ hd
        rw [show (s + k) * 7 = s * 7 + k * 7 by omega] at l0
        obtain ⟨a0, a1, a2, a3, a4, a5, a6⟩ := l0
        obtain ⟨b, ao, L⟩ := d
        have HG : Hid (w.grownBy wr none) := hgr
        clear hd hgr
        simp only [] at a1 a3 hdl HS
        generalize hH : held D s k = hl at hbd HS ⊢
        go_wp2
        go_roundg (D.length - s - (k + 1))
        case measure => omega
        case rel =>
          refine ⟨k + 1, by omega, rfl, by go_num, ?_, HG.out.trans (World.grownBy_alloc wr _ none)⟩
          rw [HS.out]
          go_num
      · obtain rfl : k = D.length - s := by omega
        have HG : Hid (w.grownBy wr none) := hgr
        clear hgr
        go_wp2
        go_ret2
        exact ⟨rfl, HG.out⟩

set_option maxHeartbeats 2000000 in
set_option maxRecDepth 100000 in
theorem reopened_last (bi g : Nat) (st : ByteArray) (D : List D1) (w : World) (HSE : Hid (first (D.map (·.1)) = D.length)) (hlen : D.length ≤ 1024) (h0 : 0 < D.length) (hb : bi < w.heap.size) (hg : g < w.heap.size) (hst : w.cell? ⟨bi, 2, none⟩ = some (.string st)) (hs : w.cell? ⟨bi, 11, none⟩ = some (.slice (some ⟨g, 0, none⟩) D.length D.length)) (hL : Hid (Laid w g D)) (n1 : (st.toList == [97, 112, 112, 114, 111, 118, 101, 100]) = false) (n2 : (st.toList == [114, 101, 106, 101, 99, 116, 101, 100]) = false) :
    Calls Yba.prog 5 #[.pointer (some ⟨bi, 0, none⟩)] w fun e w' => e = .returned (.tuple #[.slice (some ⟨g, 0, none⟩) 0 0, .int .i64 0]) ∧ w.grownBy w' none := by
  have hpc : ∀ W, W.heap = w.heap → w.grownBy W none → Calls Yba.prog 6 #[.pointer (some ⟨bi, 0, none⟩)] W fun e w' => e = .returned (.int .i64 D.length) ∧ W.grownBy w' none := fun W he hgW => by
    have h := pending_any bi g D.length D W hlen (by rw [he]; exact hb) (by rw [he]; exact hg) ((World.cell?_of_block (w := w) (by rw [he])).trans hs) (laid_grown hL.out hgW hg)
    rw [HSE.out] at h
    exact h
  go_enter Yba.func5, Yba.ntmps5
  go_upto_block 0 with fail
  go_cut [2] from 6 to 53 (fun v wc => v = .slice (some ⟨g, 0, none⟩) 0 0 ∧ w.grownBy wc none)
  case first =>
    go_upto_region 1 with fail
    go_region_with (go_at_call 6; refine (hpc w.drew rfl ⟨rfl, rfl, rfl, Nat.le_refl _, fun _ _ _ => rfl⟩).mono ?_; rintro e w1 ⟨rfl, h1⟩; have hs1 : w1.cell? ⟨bi, 11, none⟩ = some (.slice (some ⟨g, 0, none⟩) D.length D.length) := ((World.cell?_of_block (w := w) (h1.block bi hb (by simp))).trans hs))
    all_goals go_wp2_with fail
    all_goals go_meet
    all_goals exact ⟨rfl, ⟨h1.os, h1.tape, h1.output, h1.size, h1.block⟩⟩
  case rest =>
    obtain ⟨rfl, hgc⟩ := hcut
    have HC : Hid (w.grownBy wc none) := hgc
    clear hgc hst hs hL HSE
    go_wp2
    refine wp_loop_rounds 1 ?_
    rw [rounds_succ]
    go_wp2
    go_ret2
    exact ⟨rfl, HC.out⟩

end Go.Proofs.Ybulkadko
