/-
  THE WALK OF LawS1463AIdempotent (function 4).
-/
import Derived.Test.YbulkadguEq
namespace Go.Proofs.Ybulkadgu
open Go.RowKit Go.Tab

theorem chain3 {w w1 w2 w3 : World} {nq : Nat} (hb1 : Below w.heap.size w w1) (hb2 : Below (w1.drewN nq).heap.size (w1.drewN nq) w2) (hb3 : Below w2.heap.size w2 w3) : Below w.heap.size w w3 := by
  have hbd : Below w1.heap.size w1 (w1.drewN nq) := below_drewN (Below.refl _ _) nq
  exact ((hb1.trans (hbd.mono hb1.size)).trans (hb2.mono (Nat.le_trans hb1.size hbd.size))).trans (hb3.mono (Nat.le_trans hb1.size (Nat.le_trans hbd.size hb2.size)))

set_option maxRecDepth 100000 in
theorem idem_long (a : Option Addr) (len cap : Nat) (w : World) (hm : len ≤ maxLen) (h : 1024 < len) : Calls Yba.prog 4 #[.slice a len cap] w fun e w' => e = .returned (.bool true) ∧ Below w.heap.size w w' := by
  unfold maxLen at hm
  go_enter Yba.func4, Yba.ntmps4
  go_wp2
  go_ret
  exact ⟨rfl, Below.refl _ _⟩

set_option maxRecDepth 100000 in
theorem idem_none (a : Option Addr) (cap : Nat) (w : World) : Calls Yba.prog 4 #[.slice a 0 cap] w fun e w' => e = .returned (.bool true) ∧ Below w.heap.size w w' := by
  have h1 : reads w (.slice a 0 cap) [] := ⟨a, cap, rfl, fun hn => absurd rfl hn⟩
  go_enter Yba.func4, Yba.ntmps4
  go_wp2_with fail
  refine (dedupe_reads _ [] _ h1 (by simp)).mono ?_
  rintro e w1 ⟨v1, rfl, hr1, hb1⟩
  obtain ⟨a1, c1, rfl, -⟩ := hr1
  have hr1k : reads w1 (.slice a1 0 c1) [] := ⟨a1, c1, rfl, fun hn => absurd rfl hn⟩
  go_wp2_with fail
  go_quiet (fail)
  go_wp2_with fail
  have hr1d : ∀ nq, reads (w1.drewN nq) (.slice a1 0 c1) [] := fun nq => reads_below hr1k (below_drewN (Below.refl _ _) nq)
  refine (dedupe_reads _ [] _ (hr1d _) (by simp)).mono ?_
  rintro e w2 ⟨v2, rfl, hr2, hb2⟩
  go_wp2_with fail
  refine (eq_reads _ _ [] _ (reads_below (hr1d _) hb2) hr2 (by simp)).mono ?_
  rintro e w3 ⟨rfl, hb3⟩
  go_wp2
  go_ret
  exact ⟨rfl, chain3 hb1 hb2 hb3⟩

set_option maxRecDepth 100000 in
theorem idem_any (b off cap : Nat) (l : List ByteArray) (w : World) (hlen : l.length ≤ 1024) (hl : l ≠ []) (hb : b < w.heap.size)
    (hc : ∀ j, j < l.length → w.cell? ⟨b, off + j, none⟩ = some (.string (l.getD j ByteArray.empty))) :
    Calls Yba.prog 4 #[.slice (some ⟨b, off, none⟩) l.length cap] w fun e w' => e = .returned (.bool true) ∧ Below w.heap.size w w' := by
  have h1 : reads w (.slice (some ⟨b, off, none⟩) l.length cap) l := ⟨_, cap, rfl, fun _ => ⟨b, off, rfl, hb, hc⟩⟩
  have h0 : 0 < l.length := List.length_pos_iff.2 hl
  obtain ⟨s, hs⟩ : ∃ s, s = l.getD 0 ByteArray.empty := ⟨_, rfl⟩
  have hcx : w.cell? ⟨b, off, none⟩ = some (.string s) := by rw [hs]; exact hc 0 h0
  have hd0 : (dd l).getD 0 ByteArray.empty = s := by rw [hs]; exact dd_at hl
  have hdl := dd_len l
  have hd1 : 0 < (dd l).length := List.length_pos_iff.2 (dd_ne hl)
  have HS : Hid ((dd l).getD 0 ByteArray.empty = s) := hd0
  clear hd0 hs
  go_enter Yba.func4, Yba.ntmps4
  go_wp2_with fail
  refine (dedupe_reads _ l _ h1 hlen).mono ?_
  rintro e w1 ⟨v1, rfl, hr1, hb1⟩
  have hr1k := hr1
  obtain ⟨a1, c1, rfl, hr1⟩ := hr1
  obtain ⟨b1, o1, rfl, hlt1, hc1⟩ := hr1 (dd_ne hl)
  have hcy : w1.cell? ⟨b1, o1, none⟩ = some (.string s) := by rw [← HS.out]; exact hc1 0 hd1
  have hcx1 : w1.cell? ⟨b, off, none⟩ = some (.string s) := (hb1.cell (p := ⟨b, off, none⟩) hb).trans hcx
  have hz : (((dd l).length : Int) == 0) = false := by rw [beq_eq_false_iff_ne]; omega
  clear hr1 hc1 hcx hc
  go_wp2_with fail
  go_quiet (fail)
  go_wp2_with fail
  have hr1d : ∀ nq, reads (w1.drewN nq) (.slice (some ⟨b1, o1, none⟩) (dd l).length c1) (dd l) := fun nq => reads_below hr1k (below_drewN (Below.refl _ _) nq)
  refine (dedupe_reads _ (dd l) _ (hr1d _) (by omega)).mono ?_
  rintro e w2 ⟨v2, rfl, hr2, hb2⟩
  rw [dd_dd] at hr2
  go_wp2_with fail
  refine (eq_reads _ _ (dd l) _ (reads_below (hr1d _) hb2) hr2 (by omega)).mono ?_
  rintro e w3 ⟨rfl, hb3⟩
  go_wp2
  go_ret
  exact ⟨rfl, chain3 hb1 hb2 hb3⟩

end Go.Proofs.Ybulkadgu
