/-
  'Rows.LawS1463AFirstComesSaid', PROVED: every slice of strings, a nil one too.
-/
import Derived.Test.YbulkadguFirst
import Derived.ProofKit
import Derived.SliceStrings
namespace Go.Proofs.Ybulkadgu
open Go.ChangeShapes Go.WideShapes Go.ChangeAt Go.RowKit

theorem own : ownKnob Yba.prog.godebug = none := by kernel_rfl
theorem laidOut : laidOutB Yba.prog = true := by kernel_rfl
theorem cells9 : Yba.prog.cellsOf 9 = 1 := by kernel_rfl

set_option maxRecDepth 100000 in
theorem first_lifted (os : Os) (started : os.Started) (H : Type) (enc : TypeId × Value → H) :
    ReturnsInHanded {} Yba.checked os 3 .any (Rows.lawS1463AFirstComesSpec.pre6 enc Yba.prog Yba.f3 Rows.lawS1463AFirstComesRow.domain false) (Rows.lawS1463AFirstComesSpec.post enc Yba.prog Yba.f3 false true false false) := by
  refine returnsInHanded_of_change (C := Yba.checked) own started (by kernel_rfl) Yba.func3
    (ChangeSpec.witness6 (enc := enc) (C := Yba.checked) false ⟨#[], #[.slice none 0 0], []⟩ 8 (by kernel_rfl) (by kernel_rfl) (by kernel_rfl) (by kernel_rfl)) ?_
  intro W base args ds gs before hval0 hW _ _
  have hval : ∀ (j : Nat) t v, Yba.f3.params[j]? = some t → args[j]? = some v → Value.okWide Yba.prog W .any base t v := hval0
  have hW' := hW
  obtain ⟨p, q, hA0, hV, rfl, _, _⟩ := hW
  have hA : DataW.TrodAll enc Yba.prog W 0 (fun _ => true) true Yba.f3.params.toList args.toList ds p := hA0
  rw [Yba.params3] at hA hval
  obtain ⟨v0, d0, rfl, rfl, h0⟩ := trodAll_one hA
  obtain ⟨rfl, rfl⟩ := trodVars_none hV
  obtain ⟨a0, len, cap, rfl⟩ := okWide_slice Yba.underlying22 (hval 0 22 v0 rfl rfl)
  have h0k := h0
  obtain ⟨fuel, hf⟩ := h0
  clear hA0 hval0
  simp only [List.append_nil] at hW'
  have hlt : ∀ x ∈ p, x.block < W.heap.size := fun x hx => by simpa using hW'.lt x hx
  have fin : ∀ (W' : World), Below W.heap.size W W' →
      Rows.lawS1463AFirstComesSpec.post enc Yba.checked.prog Yba.f3 false true false false W #[.slice a0 len cap] (.bool true) W' := by
    intro W' hnx
    refine ⟨_, _, _, [], p, [], hW', ?_, ?_, rfl, hnx.frame _, fun h => by cases h⟩
    · exact trodAll_mk1 (shut_bool Yba.underlying4 true)
    · exact trodAll_mk1 (Below.trod laidOut (by kernel_rfl) (of_decide_eq_true (by kernel_rfl)) h0k hnx hlt)
  rcases open_strings Yba.underlying22 Yba.underlying9 cells9 hf with ⟨hcs, hx⟩ | ⟨a, len', cap', ss, hcs, _, hl, hm, hz, hx, hcell, hws⟩
  · simp [Value.cells] at hcs
    obtain ⟨rfl, rfl, rfl⟩ := hcs
    refine (first_any none 0 0 [] W (by decide) rfl ⟨none, 0, rfl, fun hn => absurd rfl hn⟩).mono fun e W' ⟨he, hb⟩ => ?_
    subst he
    exact ⟨_, rfl, fin W' hb⟩
  · simp [Value.cells] at hcs
    obtain ⟨rfl, rfl, rfl⟩ := hcs
    simp only [Prod.mk.injEq] at hx
    obtain ⟨_, rfl⟩ := hx
    simp only [if_true] at hz
    by_cases hlong : 1024 < len
    · refine (first_long (some a) len cap W (by omega) hlong).mono fun e W' ⟨he, hb⟩ => ?_
      subst he
      exact ⟨_, rfl, fin W' hb⟩
    · by_cases hl0 : len = 0
      · subst hl0
        refine (first_any (some a) 0 cap [] W (by decide) rfl ⟨some a, cap, rfl, fun hn => absurd rfl hn⟩).mono fun e W' ⟨he, hb⟩ => ?_
        subst he
        exact ⟨_, rfl, fin W' hb⟩
      · obtain ⟨b, off, spot⟩ := a
        have hspot : spot = none := by simpa [Addr.add] using World.cell?_spot (hcell 0 (by omega))
        subst hspot
        have hbW : b < W.heap.size := hlt (.cell b off) (MemPlace.mem_row.2 ⟨0, by omega, by simp⟩)
        have htl : (ss.take len).length = len := by rw [List.length_take]; omega
        have hc : ∀ j, j < (ss.take len).length → W.cell? ⟨b, off + j, none⟩ = some (.string ((ss.take len).getD j ByteArray.empty)) := by
          intro j hj
          rw [← add_plain, hcell j (by omega)]
          congr 2
          rw [List.getD, List.getD, List.getElem?_take, if_pos (by omega)]
        refine (first_any (some ⟨b, off, none⟩) len cap (ss.take len) W (by omega) htl ⟨_, cap, by rw [htl], fun _ => ⟨b, off, rfl, hbW, hc⟩⟩).mono fun e W' ⟨he, hb⟩ => ?_
        subst he
        exact ⟨_, rfl, fin W' hb⟩

theorem first_holds : Rows.LawS1463AFirstComesSaid :=
  OpenClaim.holds_of_wide 3 Yba.f3 rfl rfl rfl rfl rfl rfl rfl ⟨rfl, rfl, rfl, rfl, rfl⟩ rfl rfl rfl rfl rfl (by kernel_rfl) Yba.func3 (by kernel_rfl)
    (of_decide_eq_true (by kernel_rfl)) (by unfold Func.isWrapper; first | (rw [if_pos (by decide +kernel)]; kernel_rfl) | (rw [if_neg (by decide +kernel)]; exact ⟨rfl, rfl⟩))
    (fun os started H enc _ => first_lifted os started H enc)
#print axioms first_holds

end Go.Proofs.Ybulkadgu
