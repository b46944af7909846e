/-
  THE WALK OF zzs1463aeq (function 6) at two slices that read as one list; dedupe's contract in the words of 'reads'.
-/
import Derived.Test.YbulkadguDedupe
import Derived.Deep.QuietTactic
import Derived.BigQuiet
namespace Go.Proofs.Ybulkadgu
open Go.RowKit Go.Tab

theorem dedupe_reads (v : Value) (l : List ByteArray) (w : World) (h : reads w v l) (hlen : l.length ≤ 1024) :
    Calls Yba.prog 5 #[v] w fun e w' => ∃ v', e = .returned v' ∧ reads w' v' (dd l) ∧ Below w.heap.size w w' := by
  obtain ⟨ao, cap, rfl, h1⟩ := h
  by_cases hl : l = []
  · subst hl
    refine (dedupe_none ao cap w).mono fun e w' ⟨a', he, hb⟩ => ?_
    exact ⟨_, he, ⟨a', 0, rfl, fun hn => absurd rfl hn⟩, hb⟩
  · obtain ⟨b, off, rfl, hlt, hc⟩ := h1 hl
    have h0 : 0 < l.length := List.length_pos_iff.2 hl
    refine (dedupe_any b off cap l w hlen hlt h0 hc).mono fun e w' ⟨v', he, hr, hb⟩ => ?_
    exact ⟨v', he, reads_row hr, hb⟩

set_option maxRecDepth 100000 in
theorem eq_none (a1 a2 : Option Addr) (c1 c2 : Nat) (w : World) : Calls Yba.prog 6 #[.slice a1 0 c1, .slice a2 0 c2] w fun e w' => e = .returned (.bool true) ∧ w' = w := by
  go_enter Yba.func6, Yba.ntmps6
  go_wp2
  refine wp_loop_rounds 1 ?_
  rw [rounds_succ]
  go_wp2
  go_ret
  exact ⟨rfl, rfl⟩

theorem below_drewN {B : Nat} {a w : World} (h : Below B a w) : ∀ n, Below B a (w.drewN n)
  | 0 => h
  | n + 1 => (below_drewN h n).drew

set_option maxHeartbeats 1600000 in
set_option maxRecDepth 100000 in
theorem eq_any (b1 o1 c1 b2 o2 c2 : Nat) (l : List ByteArray) (w : World) (hlen : l.length ≤ 1024) (h0 : 0 < l.length) (hb1 : b1 < w.heap.size) (hb2 : b2 < w.heap.size)
    (hc1 : ∀ j, j < l.length → w.cell? ⟨b1, o1 + j, none⟩ = some (.string (l.getD j ByteArray.empty)))
    (hc2 : ∀ j, j < l.length → w.cell? ⟨b2, o2 + j, none⟩ = some (.string (l.getD j ByteArray.empty))) :
    Calls Yba.prog 6 #[.slice (some ⟨b1, o1, none⟩) l.length c1, .slice (some ⟨b2, o2, none⟩) l.length c2] w fun e w' => e = .returned (.bool true) ∧ Below w.heap.size w w' := by
  go_enter Yba.func6, Yba.ntmps6
  go_wp2
  go_loopw [5] (fun i wr => ∃ k : Nat, k ≤ l.length ∧ i = .int .i64 k ∧ Below w.heap.size w wr) (fun i _ => l.length - (intOf i).toNat)
  case atStart => exact ⟨0, Nat.zero_le _, rfl, Below.refl _ _⟩
  case round =>
    obtain ⟨k, hk, rfl, hnx⟩ := hrel
    by_cases hlt : k < l.length
    · obtain ⟨s, hs⟩ : ∃ s, s = l.getD k ByteArray.empty := ⟨_, rfl⟩
      have hx1 : wr.cell? ⟨b1, o1 + k, none⟩ = some (.string s) := by rw [hs]; exact (hnx.cell (by exact hb1)).trans (hc1 k hlt)
      have hx2 : wr.cell? ⟨b2, o2 + k, none⟩ = some (.string s) := by rw [hs]; exact (hnx.cell (by exact hb2)).trans (hc2 k hlt)
      clear hs
      go_wp2
      go_quiet (fail)
      go_wp2
      go_roundw
      case rel => exact ⟨k + 1, by omega, by go_num, below_drewN hnx _⟩
      case measure => simp [intOf]; omega
    · go_wp2
      go_ret
      exact ⟨rfl, hnx⟩

theorem eq_reads (v1 v2 : Value) (l : List ByteArray) (w : World) (h1 : reads w v1 l) (h2 : reads w v2 l) (hlen : l.length ≤ 1024) :
    Calls Yba.prog 6 #[v1, v2] w fun e w' => e = .returned (.bool true) ∧ Below w.heap.size w w' := by
  obtain ⟨a1, c1, rfl, h1⟩ := h1
  obtain ⟨a2, c2, rfl, h2⟩ := h2
  by_cases hl : l = []
  · subst hl
    refine (eq_none a1 a2 c1 c2 w).mono fun e w' ⟨he, hw⟩ => ⟨he, ?_⟩
    subst hw
    exact Below.refl _ _
  · obtain ⟨b1, o1, rfl, hlt1, hc1⟩ := h1 hl
    obtain ⟨b2, o2, rfl, hlt2, hc2⟩ := h2 hl
    exact eq_any b1 o1 c1 b2 o2 c2 l w hlen (List.length_pos_iff.2 hl) hlt1 hlt2 hc1 hc2

end Go.Proofs.Ybulkadgu
