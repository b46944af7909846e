/-
  'Rows.LawS1470AReopenedSaid', PROVED: every state byte, every slice of steps, a nil one too.
-/
import Derived.Test.YbulkadkoLaw
import Derived.Deep.Slices
import Derived.Deep.Strs
import Derived.ProofKit
namespace Go.Proofs.Ybulkadko
open Go.ChangeShapes Go.WideShapes Go.ChangeAt Go.RowKit Go.Deep

theorem ownNone : ownKnob Yba.prog.godebug = none := by kernel_rfl
theorem laidOut : laidOutB Yba.prog = true := by kernel_rfl
theorem cells40 : Yba.prog.cellsOf 40 = 2 := by kernel_rfl

theorem args_nil {H : Type} {enc : TypeId × Value → H} {P : Program} {w : World} {base : Nat} {spare : Nat → Bool} {held : Bool} : DataW.TrodAll enc P w base spare held [] [] [] [] := rfl
theorem args_cons {H : Type} {enc : TypeId × Value → H} {P : Program} {w : World} {base : Nat} {spare : Nat → Bool} {held : Bool} {t : TypeId} {ts : List TypeId} {v : Value} {vs : List Value} {d : DataW H} {ds : List (DataW H)} {p p' : List MemPlace}
    (h : DataW.Trod enc P w base spare held t v d p) (hs : DataW.TrodAll enc P w base spare held ts vs ds p') : DataW.TrodAll enc P w base spare held (t :: ts) (v :: vs) (d :: ds) (p ++ p') := ⟨p, p', h, hs, rfl⟩

theorem u8_bd {n : Int} (h : (Lit.int .u8 n).wf = true) : 0 ≤ n ∧ n ≤ 255 := by
  have h1 : IntKind.u8.min = 0 := rfl
  have h2 : IntKind.u8.max = 255 := rfl
  simp only [Lit.wf, Bool.and_eq_true, decide_eq_true_eq, h1, h2] at h
  exact h

set_option maxRecDepth 100000 in
theorem law_long (a : Option Addr) (len cap : Nat) (state : Int) (w : World) (hm : len ≤ maxLen) (h : 1024 < len) :
    Calls Yba.prog 3 #[.int .u8 state, .slice a len cap] w fun e w' => e = .returned (.bool true) ∧ Below w.heap.size w w' := by
  unfold maxLen at hm
  go_enter Yba.func3, Yba.ntmps3
  go_wp2
  go_ret
  exact ⟨rfl, Below.refl _ _⟩

theorem two_of {l : List Value} (h : l.length = 2) : ∃ a b, l = [a, b] := by
  match l, h with
  | [a, b], _ => exact ⟨a, b, rfl⟩

/-- The steps' cells, out of their reading. -/
theorem open_steps {H : Type} {enc : TypeId × Value → H} {W : World} {fuel : Nat} {cs : List Value} {x : DataW H × List MemPlace} (h : DataW.trod enc Yba.prog W 0 (fun _ => true) true fuel 22 cs = some x) :
    (cs = [.slice none 0 0]) ∨ ∃ (a : Addr) (len cap : Nat) (E : List (Bool × Int)), cs = [.slice (some a) len cap] ∧ len ≤ maxLen ∧ E.length = len ∧ (0 < len → a = ⟨a.block, a.off, none⟩ ∧ .cell a.block a.off ∈ x.2) ∧ laidE W a.block a.off E := by
  rcases open_slice Yba.underlying22 h with ⟨h0, _⟩ | ⟨a, len, cap, m, n, D, Pl, hcs, hb, hl, hm, hmm, hx, hall⟩
  · exact Or.inl h0
  right
  simp only [if_true] at hmm
  have each : ∀ i, i < len → ∃ e : Bool × Int, W.cell? (a.add (i * 2)) = some (.bool e.1) ∧ W.cell? (a.add (i * 2 + 1)) = some (.int .u8 e.2) ∧ (0 ≤ e.2 ∧ e.2 ≤ 255) := by
    intro i hi
    obtain ⟨cs', h1, h2⟩ := hall i (by omega)
    rw [cells40] at h1
    obtain ⟨_, hlen, hcell⟩ := World.cells?_some h1
    obtain ⟨y0, y1, n', _, _, t0, t1⟩ := trod_struct2 Yba.underlying40 h2
    obtain ⟨v0, v1, rfl⟩ : ∃ v0 v1, cs' = [v0, v1] := two_of hlen
    · have k4 : Yba.prog.cellsOf 4 = 1 := by kernel_rfl
      have k5 : Yba.prog.cellsOf 5 = 1 := by kernel_rfl
      simp only [k4, k5, List.drop_zero, List.drop_succ_cons, List.take_succ_cons, List.take_zero] at t0 t1
      obtain ⟨n0, e0, _⟩ := DataW.trod_bool Yba.underlying4 t0
      obtain ⟨n1, e1, _, w1⟩ := DataW.trod_int Yba.underlying5 t1
      simp only [List.cons.injEq, and_true] at e0 e1
      subst e0 e1
      refine ⟨(n0, n1), ?_, ?_, u8_bd w1⟩
      · have := hcell 0 (by omega); rw [add_add] at this; simpa using this
      · have := hcell 1 (by omega); rw [add_add] at this; simpa using this
  obtain ⟨F, hF⟩ := choose_lt each
  refine ⟨a, len, cap, (List.range len).map F, hcs, by omega, by simp, ?_, ?_⟩
  · intro hpos
    have h0 := (hF 0 hpos).1
    rw [Nat.zero_mul] at h0
    have hsp : a.spot = none := by
      have := World.cell?_spot h0
      simpa [Addr.add] using this
    obtain ⟨b, off, spot⟩ := a
    simp only at hsp
    subst hsp
    refine ⟨rfl, ?_⟩
    rw [hx]
    exact List.mem_append_left _ (MemPlace.mem_row.2 ⟨0, by rw [cells40]; omega, by simp⟩)
  · intro j e he
    have hj : j < len := by have := (List.getElem?_eq_some_iff.1 he).1; simpa using this
    have hFe : F j = e := by simpa [hj] using he
    subst hFe
    have h0 := (hF 0 (by omega)).1
    rw [Nat.zero_mul] at h0
    obtain ⟨b, off, spot⟩ := a
    have hsp : spot = none := by simpa [Addr.add] using World.cell?_spot h0
    subst hsp
    obtain ⟨c0, c1, b0⟩ := hF j hj
    rw [add_plain] at c0 c1
    exact ⟨c0, by rw [Nat.add_assoc]; exact c1, b0⟩

set_option maxRecDepth 100000 in
theorem reopened_lifted (os : Os) (started : os.Started) (H : Type) (enc : TypeId × Value → H) :
    ReturnsInHanded {} Yba.checked os 3 .any (Rows.lawS1470AReopenedSpec.pre6 enc Yba.prog Yba.f3 Rows.lawS1470AReopenedRow.domain false) (Rows.lawS1470AReopenedSpec.post enc Yba.prog Yba.f3 false true false false) := by
  refine returnsInHanded_of_change (C := Yba.checked) ownNone started (by kernel_rfl) Yba.func3
    (ChangeSpec.witness6 (enc := enc) (C := Yba.checked) false ⟨#[], #[.int .u8 0, .slice none 0 0], []⟩ 8 (by kernel_rfl) (by kernel_rfl) (by kernel_rfl) (by kernel_rfl)) ?_
  intro W base args ds gs before hval0 hW _ _
  have hval : ∀ (j : Nat) t v, Yba.f3.params[j]? = some t → args[j]? = some v → Value.okWide Yba.prog W .any base t v := hval0
  have hW' := hW
  obtain ⟨p, q, hA0, hV, rfl, _, _⟩ := hW
  have hA : DataW.TrodAll enc Yba.prog W 0 (fun _ => true) true Yba.f3.params.toList args.toList ds p := hA0
  rw [Yba.params3] at hA hval
  obtain ⟨v0, vs0, d0, ds0, p0, q0, hargs, rfl, rfl, h0, r0⟩ := trodAll_cons hA
  obtain ⟨v1, vs1, d1, ds1, p1, q1, rfl, rfl, rfl, h1, r1⟩ := trodAll_cons r0
  obtain ⟨rfl, rfl, rfl⟩ := trodAll_nil r1
  obtain rfl : args = #[v0, v1] := by cases args; simp_all
  obtain ⟨rfl, rfl⟩ := trodVars_none hV
  obtain ⟨state, rfl, rfl, rfl, ws⟩ := open_int Yba.underlying5 (hval 0 5 v0 rfl rfl) h0
  obtain ⟨a0, len, cap, rfl⟩ := okWide_slice Yba.underlying22 (hval 1 22 v1 rfl rfl)
  have h1k := h1
  obtain ⟨fuel, hf⟩ := h1
  clear hA0 hval0
  simp only [List.append_nil, List.nil_append] at hW'
  have hlt : ∀ x ∈ p1, x.block < W.heap.size := fun x hx => by simpa using hW'.lt x hx
  have fin : ∀ (W' : World), Below W.heap.size W W' →
      Rows.lawS1470AReopenedSpec.post enc Yba.checked.prog Yba.f3 false true false false W #[.int .u8 state, .slice a0 len cap] (.bool true) W' := by
    intro W' hnx
    refine ⟨_, _, _, [], p1, [], hW', ?_, ?_, rfl, hnx.frame _, fun h => by cases h⟩
    · exact trodAll_mk1 (shut_bool Yba.underlying4 true)
    · have := args_cons (shut_int Yba.underlying5 ws) (args_cons (Below.trod laidOut (by kernel_rfl) (of_decide_eq_true (by kernel_rfl)) h1k hnx hlt) args_nil)
      simp only [List.append_nil, List.nil_append] at this
      exact this
  have bs := u8_bd ws
  rcases open_steps (by simpa [Value.cells] using hf) with hcs | ⟨a, len', cap', E, hcs, hm, hEl, hpos, hlaid⟩
  · simp at hcs
    obtain ⟨rfl, rfl, rfl⟩ := hcs
    refine (law_any none 0 0 0 [] state W (by simp) (fun h => absurd h (by simp)) (fun j e he => by simp at he) bs.1 bs.2).mono fun e W' ⟨he, hb⟩ => ?_
    subst he
    exact ⟨_, rfl, fin W' hb⟩
  · simp at hcs
    obtain ⟨rfl, rfl, rfl⟩ := hcs
    by_cases hlong : 1024 < len
    · refine (law_long (some a) len cap state W hm hlong).mono fun e W' ⟨he, hb⟩ => ?_
      subst he
      exact ⟨_, rfl, fin W' hb⟩
    · have hw := law_any (some a) a.block a.off cap E state W (by omega) (fun h => ⟨congrArg some (hpos (by omega)).1, hlt _ (hpos (by omega)).2⟩) hlaid bs.1 bs.2
      rw [hEl] at hw
      refine hw.mono fun e W' ⟨he, hb⟩ => ?_
      subst he
      exact ⟨_, rfl, fin W' hb⟩

theorem reopened_holds : Rows.LawS1470AReopenedSaid :=
  OpenClaim.holds_of_wide 3 Yba.f3 rfl rfl rfl rfl rfl rfl rfl ⟨rfl, rfl, rfl, rfl, rfl⟩ rfl rfl rfl rfl rfl (by kernel_rfl) Yba.func3 (by kernel_rfl)
    (of_decide_eq_true (by kernel_rfl)) (by unfold Func.isWrapper; first | (rw [if_pos (by decide +kernel)]; kernel_rfl) | (rw [if_neg (by decide +kernel)]; exact ⟨rfl, rfl⟩))
    (fun os started H enc _ => reopened_lifted os started H enc)
#print axioms reopened_holds

end Go.Proofs.Ybulkadko
