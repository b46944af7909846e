/-
  THE WALK OF zzs1463amodel (function 7): by a quadratic scan it hands back a slice that reads as 'dd l'.
-/
import Derived.Test.YbulkadguEq
import Derived.Deep.LoopGhost
namespace Go.Proofs.Ybulkadgu
open Go.RowKit Go.Tab

/-- Whether the k-th name came before it. -/
theorem in_take {l : List ByteArray} {k j : Nat} (hj : j < k) (hk : k < l.length) (h : l.getD j ByteArray.empty = l.getD k ByteArray.empty) : l.getD k ByteArray.empty ∈ dd (l.take k) := by
  rw [mem_dd, ← h]
  rw [List.getD, List.getElem?_eq_getElem (by omega)]
  exact List.mem_take_iff_getElem.2 ⟨j, by omega, rfl⟩
theorem out_take {l : List ByteArray} {k : Nat} (hk : k < l.length) (h : ∀ j, j < k → l.getD j ByteArray.empty ≠ l.getD k ByteArray.empty) : ¬ l.getD k ByteArray.empty ∈ dd (l.take k) := by
  rw [mem_dd]
  intro hm
  obtain ⟨j, hj, e⟩ := List.mem_take_iff_getElem.1 hm
  refine h j (by omega) ?_
  rw [List.getD, List.getElem?_eq_getElem (by omega)]
  exact e

theorem row_drewN {w : World} {base : Nat} {e : TypeId} {size : Nat} {v : Value} {n : Nat} {xs : List Value} (h : w.ownsRow base e size v n xs) : ∀ k, (w.drewN k).ownsRow base e size v n xs
  | 0 => h
  | k + 1 => (row_drewN h k).drew

set_option maxRecDepth 100000 in
theorem model_none (a : Option Addr) (cap : Nat) (w : World) : Calls Yba.prog 7 #[.slice a 0 cap] w fun e w' => e = .returned (.slice none 0 0) ∧ w' = w := by
  go_enter Yba.func7, Yba.ntmps7
  go_wp2
  refine wp_loop_rounds 1 ?_
  rw [rounds_succ]
  go_wp2
  go_ret
  exact ⟨rfl, rfl⟩

set_option maxHeartbeats 1600000 in
set_option maxRecDepth 100000 in
theorem model_any (b off cap : Nat) (l : List ByteArray) (w : World) (hlen : l.length ≤ 1024) (hb : b < w.heap.size) (h0 : 0 < l.length)
    (hc : ∀ j, j < l.length → w.cell? ⟨b, off + j, none⟩ = some (.string (l.getD j ByteArray.empty))) :
    Calls Yba.prog 7 #[.slice (some ⟨b, off, none⟩) l.length cap] w fun e w' => ∃ v, e = .returned v ∧ w'.ownsRow w.heap.size 9 1 v (dd l).length ((dd l).map Value.string) ∧ Below w.heap.size w w' := by
  obtain ⟨i0, hi, hz0, hz1, hz2⟩ := info_parts info9
  go_enter Yba.func7, Yba.ntmps7
  go_wp2
  go_loopg [3, 4] (l.length) (fun n v i wr => ∃ k : Nat, k ≤ l.length ∧ n = l.length - k ∧ i = .int .i64 k ∧ wr.ownsRow w.heap.size 9 1 v (dd (l.take k)).length ((dd (l.take k)).map Value.string) ∧ Below w.heap.size w wr)
  case atStart => exact ⟨0, Nat.zero_le _, rfl, rfl, World.ownsRow_nil _ _ _ _, Below.refl _ _⟩
  case round =>
    obtain ⟨k, hk, rfl, rfl, hrow, hnx⟩ := hrel
    by_cases hlt : k < l.length
    · obtain ⟨s, hs⟩ : ∃ s, s = l.getD k ByteArray.empty := ⟨_, rfl⟩
      have HS : Hid (s = l.getD k ByteArray.empty) := hs
      clear hs
      go_wp2
      go_loopg [5, 6] (k) (fun n f j wi => ∃ m : Nat, m ≤ k ∧ n = k - m ∧ j = .int .i64 m ∧ f = .bool true ∧ (∀ q, q < m → l.getD q ByteArray.empty ≠ s) ∧ wi.ownsRow w.heap.size 9 1 u3 (dd (l.take k)).length ((dd (l.take k)).map Value.string) ∧ Below w.heap.size w wi)
      case atStart => exact ⟨0, Nat.zero_le _, rfl, rfl, rfl, fun q hq => absurd hq (Nat.not_lt_zero _), hrow, hnx⟩
      case round =>
        clear hrow hnx
        obtain ⟨m, hm, rfl, rfl, rfl, hne, hrow, hnx⟩ := hrel
        have hxk : wr.cell? ⟨b, off + k, none⟩ = some (.string s) := by rw [HS.out]; exact (hnx.cell (by exact hb)).trans (hc k hlt)
        have hdl := dd_len_take l k
        by_cases hmk : m < k
        · obtain ⟨t, ht⟩ : ∃ t, t = l.getD m ByteArray.empty := ⟨_, rfl⟩
          have hxm : wr.cell? ⟨b, off + m, none⟩ = some (.string t) := by rw [ht]; exact (hnx.cell (by exact hb)).trans (hc m (by omega))
          have HT : Hid (t = l.getD m ByteArray.empty) := ht
          have HN : Hid (∀ q, q < m → l.getD q ByteArray.empty ≠ s) := hne
          clear ht hne
          by_cases hts : t = s
          · have HE : Hid (dd (l.take (k + 1)) = dd (l.take k)) := dd_old l k hlt (in_take hmk hlt (by rw [← HT.out, hts, HS.out]))
            subst hts
            go_wp2
            go_quiet (fail)
            go_wp2
            go_roundg (l.length - (k + 1))
            case measure => omega
            case rel => exact ⟨k + 1, by omega, rfl, by go_num, by rw [HE.out]; exact row_drewN hrow _, below_drewN hnx _⟩
          · have hb1 : (t.toList == s.toList) = false := by
              rw [← beq_toListBytes]
              cases hbe : (t == s) with
              | false => rfl
              | true => exact absurd ((MapKept.bytes_beq t s).1 hbe) hts
            have HQ : Hid (t ≠ s) := hts
            clear hts
            go_wp2
            go_quiet (fail)
            go_wp2
            go_roundg (k - (m + 1))
            case measure => omega
            case rel =>
              refine ⟨m + 1, by omega, rfl, by go_num, rfl, fun q hq => ?_, row_drewN hrow _, below_drewN hnx _⟩
              rcases Nat.lt_succ_iff_lt_or_eq.1 hq with h | h
              · exact HN.out q h
              · rw [h, ← HT.out]; exact HQ.out
        · obtain rfl : m = k := by omega
          have HN : Hid (¬ s ∈ dd (l.take m)) := by
            show ¬ s ∈ dd (l.take m)
            rw [HS.out]
            exact out_take hlt (fun q hq => by rw [← HS.out]; exact hne q hq)
          have HD : Hid (dd (l.take (m + 1)) = dd (l.take m) ++ [s]) := by
            show dd (l.take (m + 1)) = _
            rw [HS.out, dd_new l m hlt (HS.out ▸ HN.out)]
          clear hne
          go_wp2_with (first
            | (at_builtin; refine wpList_append_own _ rfl _ _ 22 rfl w.heap.size 9 i0 (.string ByteArray.empty) 1 16 Yba.underlying22 hi hz0 hz1 hz2 rfl (by decide) _ _ _ rfl (hrow.alloc _) ⟨wr.heap.size, 0, none⟩ 1 1 [.string s] rfl rfl (cell_one_new _ _ _) (str_oneCell s) (by unfold maxLen; omega) (by omega) (by have := hnx.size; simp; omega) ?_; intro v' w2 hown' hgrow2 hnil2))
          go_roundg (l.length - (m + 1))
          case measure => omega
          case rel =>
            refine ⟨m + 1, by omega, rfl, by go_num, ?_, ?_⟩
            · rw [HD.out]; simpa using hown'
            · exact (hnx.alloc hnx.size _).grown hgrow2 (by have := hnx.size; simp; omega) (fun j hj => (hrow.lt j hj).1)
    · obtain rfl : k = l.length := by omega
      rw [List.take_length] at hrow
      go_wp2
      go_ret
      exact ⟨_, rfl, hrow, hnx⟩

theorem model_reads (v : Value) (l : List ByteArray) (w : World) (h : reads w v l) (hlen : l.length ≤ 1024) :
    Calls Yba.prog 7 #[v] w fun e w' => ∃ v', e = .returned v' ∧ reads w' v' (dd l) ∧ Below w.heap.size w w' := by
  obtain ⟨ao, cap, rfl, h1⟩ := h
  by_cases hl : l = []
  · subst hl
    refine (model_none ao cap w).mono fun e w' ⟨he, hw⟩ => ?_
    subst hw
    exact ⟨_, he, ⟨none, 0, rfl, fun hn => absurd rfl hn⟩, Below.refl _ _⟩
  · obtain ⟨b, off, rfl, hlt, hc⟩ := h1 hl
    have h0 : 0 < l.length := List.length_pos_iff.2 hl
    refine (model_any b off cap l w hlen hlt h0 hc).mono fun e w' ⟨v', he, hr, hb⟩ => ?_
    exact ⟨v', he, reads_row hr, hb⟩

end Go.Proofs.Ybulkadgu
