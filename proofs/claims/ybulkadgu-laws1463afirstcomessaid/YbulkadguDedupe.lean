/-
  THE WALK OF dedupe (function 5): it hands back a slice that reads as 'dd l'.
-/
import Derived.Test.YbulkadguRows
import Derived.Test.YbulkadguParts
import Derived.Maps.AppendAt
import Derived.ArgAppend
import Derived.WalkKit
namespace Go.Proofs.Ybulkadgu
open Go.RowKit Go.Tab

theorem keys9 : Keys Yba.prog 9 Value.string (fun _ => True) := string_keys Yba.underlying9
theorem zero4 (w : World) : (zeroValue 4).run Yba.prog w = .ok (.bool false) w := by kernel_rfl
theorem info9 : (Yba.prog.info? 9).map (fun i => (i.zero, i.size, i.bytes)) = some (some (.string ByteArray.empty), 1, 16) := by kernel_rfl
theorem run_makeHint (n : Int) (w : World) : (Instr.makeMap 26 (some (.int .i64 n))).run Yba.prog w = .ok (.map (some w.heap.size)) (w.alloc (.map #[] 0)) := by
  kernel_rfl

set_option maxRecDepth 100000 in
theorem dedupe_none (a : Option Addr) (cap : Nat) (w : World) : Calls Yba.prog 5 #[.slice a 0 cap] w fun e w' => ∃ ao, e = .returned (.slice ao 0 0) ∧ Below w.heap.size w w' := by
  have hmm := @run_makeHint
  go_enter Yba.func5, Yba.ntmps5
  go_wp2
  refine wp_loop_rounds 1 ?_
  rw [rounds_succ]
  go_wp2
  all_goals go_ret
  all_goals exact ⟨_, rfl, (Below.refl _ _).alloc (Nat.le_refl _) _⟩

theorem row_ne {w : World} {base : Nat} {e : TypeId} {size : Nat} {v : Value} {n : Nat} {xs : List Value} (h : w.ownsRow base e size v n xs) {b : Nat} (hb : b < base) : some b ≠ v.ownBlock := fun e1 => by
  have := (h.lt b e1.symm).1
  omega
theorem row_mono {w : World} {base base' : Nat} {e : TypeId} {size : Nat} {v : Value} {n : Nat} {xs : List Value} (h : w.ownsRow base e size v n xs) (hb : base' ≤ base) : w.ownsRow base' e size v n xs := by
  obtain ⟨h1, h2⟩ := h
  refine ⟨h1, ?_⟩
  rcases h2 with h2 | ⟨g, cap, cur, a, b, r⟩
  · exact Or.inl h2
  · exact Or.inr ⟨g, cap, cur, a, Nat.le_trans hb b, r⟩
theorem str_oneCell (s : ByteArray) : ∀ u ∈ [Value.string s], u.oneCell' = true := by
  intro u hu
  simp at hu
  subst hu
  rfl

set_option maxHeartbeats 1600000 in
set_option maxRecDepth 100000 in
theorem dedupe_any (b off cap : Nat) (l : List ByteArray) (w : World) (hlen : l.length ≤ 1024) (hb : b < w.heap.size) (h0 : 0 < l.length)
    (hc : ∀ j, j < l.length → w.cell? ⟨b, off + j, none⟩ = some (.string (l.getD j ByteArray.empty))) :
    Calls Yba.prog 5 #[.slice (some ⟨b, off, none⟩) l.length cap] w fun e w' => ∃ v, e = .returned v ∧ w'.ownsRow (w.heap.size + 1) 9 1 v (dd l).length ((dd l).map Value.string) ∧ Below w.heap.size w w' := by
  have hmm := @run_makeHint
  obtain ⟨i0, hi, hz0, hz1, hz2⟩ := info_parts info9
  go_enter Yba.func5, Yba.ntmps5
  go_wp2
  go_loopw [4, 14] (fun v i wr => ∃ k : Nat, k ≤ l.length ∧ i = .int .i64 k ∧ tab wr w.heap.size Value.string (fun _ : Unit => .bool true) (ents (dd (l.take k))) ∧
      (k = 0 → v = .slice (some ⟨b, off, none⟩) 0 0) ∧ (0 < k → wr.ownsRow (w.heap.size + 1) 9 1 v (dd (l.take k)).length ((dd (l.take k)).map Value.string)) ∧
      Below w.heap.size w wr ∧ w.heap.size + 1 ≤ wr.heap.size)
    (fun _ i _ => l.length - (intOf i).toNat)
  case atStart => exact ⟨0, Nat.zero_le _, rfl, tab_made _ _ _, fun _ => rfl, fun h => absurd h (Nat.lt_irrefl _), (Below.refl _ _).alloc (Nat.le_refl _) _, by simp⟩
  case round =>
    obtain ⟨k, hk, rfl, htab, hv0, hrow, hnx, hws⟩ := hrel
    by_cases hlt : k < l.length
    · obtain ⟨s, hs⟩ : ∃ s, s = l.getD k ByteArray.empty := ⟨_, rfl⟩
      have hcx : wr.cell? ⟨b, off + k, none⟩ = some (.string s) := by rw [hs]; exact (hnx.cell (by exact hb)).trans (hc k hlt)
      have HS : Hid (s = l.getD k ByteArray.empty) := hs
      clear hs
      have hdl := dd_len_take l k
      by_cases hin : s ∈ dd (l.take k)
      · have hget := ents_in hin
        have hk0 : 0 < k := by
          rcases Nat.eq_zero_or_pos k with rfl | h
          · rw [List.take_zero] at hin; simp [dd_nil] at hin
          · exact h
        have hr := hrow hk0
        have HI : Hid (s ∈ dd (l.take k)) := hin
        clear hv0 hrow hin
        go_wp2_with (first
          | (at_lookup; refine wpList_lookup_hit _ rfl _ _ 26 false rfl 9 4 keys9 Yba.underlying26 (zero4 _) w.heap.size rfl htab (fun _ _ => trivial) s trivial rfl () hget ?_))
        go_roundw
        case rel =>
          have e : dd (l.take (k + 1)) = dd (l.take k) := dd_old l k hlt (HS.out ▸ HI.out)
          exact ⟨k + 1, by omega, by go_num, by rw [e]; exact htab, fun h => by omega, fun _ => by rw [e]; exact hr, hnx, hws⟩
        case measure => simp [intOf]; omega
      · have hget := ents_out hin
        have HP : Hid (put (ents (dd (l.take k))) s () = ents (dd (l.take (k + 1)))) := by
          show put (ents (dd (l.take k))) s () = _
          rw [ents_put hin, HS.out, dd_new l k hlt (HS.out ▸ hin)]
        have HD : Hid (dd (l.take (k + 1)) = dd (l.take k) ++ [s]) := by
          show dd (l.take (k + 1)) = _
          rw [HS.out, dd_new l k hlt (HS.out ▸ hin)]
        clear hin
        by_cases hk0 : 0 < k
        · have hr := hrow hk0
          clear hv0 hrow
          go_wp2_with (first
            | (at_lookup; refine wpList_lookup_miss _ rfl _ _ 26 false rfl 9 4 keys9 Yba.underlying26 (zero4 _) w.heap.size rfl htab (fun _ _ => trivial) s trivial rfl hget ?_)
            | (at_mapUpdate; refine wpList_store_tab _ rfl _ _ _ 26 rfl 9 4 keys9 Yba.underlying26 w.heap.size rfl htab (fun _ _ => trivial) s trivial rfl () rfl ?_; intro w1 htab1 hturn1)
            | (at_builtin; refine wpList_append_own _ rfl _ _ 22 rfl (w.heap.size + 1) 9 i0 (.string ByteArray.empty) 1 16 Yba.underlying22 hi hz0 hz1 hz2 rfl (by decide) _ _ _ rfl ((hr.kept hturn1.grown (Or.inr (row_ne hr (Nat.lt_succ_self _)).symm)).alloc _) ⟨w1.heap.size, 0, none⟩ 1 1 [.string s] rfl rfl (cell_one_new _ _ _) (str_oneCell s) (by unfold maxLen; omega) (by omega) (by have := hturn1.grown.size; simp at this ⊢; omega) ?_; intro v' w2 hown' hgrow2 hnil2))
          have hr1 := hr.kept hturn1.grown (Or.inr (row_ne hr (Nat.lt_succ_self _)).symm)
          have s1 := hturn1.grown.size
          have s2 := hgrow2.size
          simp at s1 s2
          go_roundw
          case rel =>
            refine ⟨k + 1, by omega, by go_num, ?_, fun h => by omega, fun _ => ?_, ?_, by omega⟩
            · rw [← HP.out]
              exact (htab1.alloc _).kept hgrow2 (row_ne hr1 (Nat.lt_succ_self _))
            · rw [HD.out]
              simpa using hown'
            · exact (((hnx.grown hturn1.grown (by omega) (fun j hj => by cases hj; exact Nat.le_refl _)).alloc (by omega) _).grown hgrow2 (by simp; omega) (fun j hj => Nat.le_trans (Nat.le_succ _) (hr1.lt j hj).1))
          case measure => simp [intOf]; omega
        · have hk00 : k = 0 := by omega
          subst hk00
          have hv := hv0 rfl
          subst hv
          have hcx0 : wr.cell? ⟨b, off, none⟩ = some (.string s) := hcx
          clear hv0 hrow hk0 hcx
          go_wp2_with (first
            | (at_lookup; refine wpList_lookup_miss _ rfl _ _ 26 false rfl 9 4 keys9 Yba.underlying26 (zero4 _) w.heap.size rfl htab (fun _ _ => trivial) s trivial rfl hget ?_)
            | (at_mapUpdate; refine wpList_store_tab _ rfl _ _ _ 26 rfl 9 4 keys9 Yba.underlying26 w.heap.size rfl htab (fun _ _ => trivial) s trivial rfl () rfl ?_; intro w1 htab1 hturn1)
            | (at_builtin; refine wpList_append_grows _ rfl _ _ 22 rfl 9 i0 (.string ByteArray.empty) 1 16 Yba.underlying22 hi hz0 hz1 hz2 rfl (by decide) (some ⟨b, off, none⟩) 0 0 [] rfl (by simp) rfl (by simp) ⟨w1.heap.size, 0, none⟩ 1 1 [.string s] rfl rfl (cell_one_new _ _ _) (str_oneCell s) (by omega) (by unfold maxLen; omega) (by omega) ?_; intro v' w2 hown' hgrow2))
          have s1 := hturn1.grown.size
          have s2 := hgrow2.size
          simp at s1 s2
          go_roundw
          case rel =>
            have hd0 : dd (l.take 0) = [] := rfl
            refine ⟨1, by omega, by go_num, ?_, fun h => by omega, fun _ => ?_, ?_, by omega⟩
            · rw [← HP.out]
              exact (htab1.alloc _).kept hgrow2 (by simp)
            · rw [HD.out, hd0]
              exact row_mono (by simpa using hown') (by simp; omega)
            · exact (((hnx.grown hturn1.grown (by omega) (fun j hj => by cases hj; exact Nat.le_refl _)).alloc (by omega) _).grown hgrow2 (by simp; omega) (fun j hj => by cases hj))
          case measure => simp [intOf]; omega
    · have hkl : k = l.length := by omega
      subst hkl
      have hr := hrow h0
      rw [List.take_length] at hr
      go_wp2
      go_ret
      exact ⟨_, rfl, hr, hnx⟩

end Go.Proofs.Ybulkadgu
