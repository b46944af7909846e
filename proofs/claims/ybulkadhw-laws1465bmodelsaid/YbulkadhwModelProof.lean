/-
  'Rows.LawS1465BModelSaid', PROVED: every slice of entries, a nil one too.
-/
import Derived.Test.YbulkadhwModel
import Derived.Deep.Slices
import Derived.Deep.Strs
import Derived.ProofKit
namespace Go.Proofs.Ybulkadhw
open Go.ChangeShapes Go.WideShapes Go.ChangeAt Go.RowKit Go.Deep

theorem own : ownKnob Yba.prog.godebug = none := by kernel_rfl
theorem laidOut : laidOutB Yba.prog = true := by kernel_rfl
theorem cells86 : Yba.prog.cellsOf 86 = 3 := by kernel_rfl

theorem args_nil {H : Type} {enc : TypeId × Value → H} {P : Program} {w : World} {base : Nat} {spare : Nat → Bool} {held : Bool} : DataW.TrodAll enc P w base spare held [] [] [] [] := rfl
theorem args_cons {H : Type} {enc : TypeId × Value → H} {P : Program} {w : World} {base : Nat} {spare : Nat → Bool} {held : Bool} {t : TypeId} {ts : List TypeId} {v : Value} {vs : List Value} {d : DataW H} {ds : List (DataW H)} {p p' : List MemPlace}
    (h : DataW.Trod enc P w base spare held t v d p) (hs : DataW.TrodAll enc P w base spare held ts vs ds p') : DataW.TrodAll enc P w base spare held (t :: ts) (v :: vs) (d :: ds) (p ++ p') := ⟨p, p', h, hs, rfl⟩

theorem u8_bd {n : Int} (h : (Lit.int .u8 n).wf = true) : 0 ≤ n ∧ n ≤ 255 := by
  have h1 : IntKind.u8.min = 0 := rfl
  have h2 : IntKind.u8.max = 255 := rfl
  simp only [Lit.wf, Bool.and_eq_true, decide_eq_true_eq, h1, h2] at h
  exact h

set_option maxRecDepth 100000 in
theorem model_long (a : Option Addr) (len cap : Nat) (kind node timer ev : Int) (us : Bool) (w : World) (hm : len ≤ maxLen) (h : 1024 < len) :
    Calls Yba.prog 6 #[.slice a len cap, .int .u8 kind, .int .u8 node, .int .u8 timer, .int .u64 ev, .bool us] w fun e w' => e = .returned (.bool true) ∧ Below w.heap.size w w' := by
  unfold maxLen at hm
  go_enter Yba.func6, Yba.ntmps6
  go_wp2
  go_ret
  exact ⟨rfl, Below.refl _ _⟩

theorem three_of {l : List Value} (h : l.length = 3) : ∃ a b c, l = [a, b, c] := by
  match l, h with
  | [a, b, c], _ => exact ⟨a, b, c, rfl⟩

/-- The entries' cells, out of their reading. -/
theorem open_entries {H : Type} {enc : TypeId × Value → H} {W : World} {fuel : Nat} {cs : List Value} {x : DataW H × List MemPlace} (h : DataW.trod enc Yba.prog W 0 (fun _ => true) true fuel 82 cs = some x) :
    (cs = [.slice none 0 0]) ∨ ∃ (a : Addr) (len cap : Nat) (E : List (Int × Int × Int)), cs = [.slice (some a) len cap] ∧ len ≤ maxLen ∧ E.length = len ∧ (0 < len → a = ⟨a.block, a.off, none⟩ ∧ .cell a.block a.off ∈ x.2) ∧ laid W a.block a.off E := by
  rcases open_slice Yba.underlying82 h with ⟨h0, _⟩ | ⟨a, len, cap, m, n, D, Pl, hcs, hb, hl, hm, hmm, hx, hall⟩
  · exact Or.inl h0
  right
  simp only [if_true] at hmm
  have each : ∀ i, i < len → ∃ e : Int × Int × Int, W.cell? (a.add (i * 3)) = some (.int .u8 e.1) ∧ W.cell? (a.add (i * 3 + 1)) = some (.int .u8 e.2.1) ∧ W.cell? (a.add (i * 3 + 2)) = some (.int .u64 e.2.2) ∧ (0 ≤ e.1 ∧ e.1 ≤ 255) ∧ (0 ≤ e.2.1 ∧ e.2.1 ≤ 255) := by
    intro i hi
    obtain ⟨cs', h1, h2⟩ := hall i (by omega)
    rw [cells86] at h1
    obtain ⟨_, hlen, hcell⟩ := World.cells?_some h1
    obtain ⟨y0, y1, y2, n', _, _, t0, t1, t2⟩ := trod_struct3 Yba.underlying86 h2
    obtain ⟨v0, v1, v2, rfl⟩ : ∃ v0 v1 v2, cs' = [v0, v1, v2] := three_of hlen
    · have k5 : Yba.prog.cellsOf 5 = 1 := by kernel_rfl
      have k25 : Yba.prog.cellsOf 25 = 1 := by kernel_rfl
      simp only [k5, k25, List.drop_zero, List.drop_succ_cons, List.take_succ_cons, List.take_zero] at t0 t1 t2
      obtain ⟨n0, e0, _, w0⟩ := DataW.trod_int Yba.underlying5 t0
      obtain ⟨n1, e1, _, w1⟩ := DataW.trod_int Yba.underlying5 t1
      obtain ⟨n2, e2, _, _⟩ := DataW.trod_int Yba.underlying25 t2
      simp only [List.cons.injEq, and_true] at e0 e1 e2
      subst e0 e1 e2
      refine ⟨(n0, n1, n2), ?_, ?_, ?_, u8_bd w0, u8_bd w1⟩
      · have := hcell 0 (by omega); rw [add_add] at this; simpa using this
      · have := hcell 1 (by omega); rw [add_add] at this; simpa using this
      · have := hcell 2 (by omega); rw [add_add] at this; simpa using this
  obtain ⟨F, hF⟩ := choose_lt each
  refine ⟨a, len, cap, (List.range len).map F, hcs, by omega, by simp, ?_, ?_⟩
  · intro hpos
    have h0 := (hF 0 hpos).1
    rw [Nat.zero_mul] at h0
    have hsp : a.spot = none := by
      have := World.cell?_spot h0
      simpa [Addr.add] using this
    obtain ⟨b, off, spot⟩ := a
    simp only at hsp
    subst hsp
    refine ⟨rfl, ?_⟩
    rw [hx]
    exact List.mem_append_left _ (MemPlace.mem_row.2 ⟨0, by rw [cells86]; omega, by simp⟩)
  · intro j e he
    have hj : j < len := by have := (List.getElem?_eq_some_iff.1 he).1; simpa using this
    have hFe : F j = e := by simpa [hj] using he
    subst hFe
    have h0 := (hF 0 (by omega)).1
    rw [Nat.zero_mul] at h0
    obtain ⟨b, off, spot⟩ := a
    have hsp : spot = none := by simpa [Addr.add] using World.cell?_spot h0
    subst hsp
    obtain ⟨c0, c1, c2, b0, b1⟩ := hF j hj
    rw [add_plain] at c0 c1 c2
    exact ⟨c0, by rw [Nat.add_assoc]; exact c1, by rw [Nat.add_assoc]; exact c2, b0, b1⟩

set_option maxRecDepth 100000 in
theorem model_lifted (os : Os) (started : os.Started) (H : Type) (enc : TypeId × Value → H) :
    ReturnsInHanded {} Yba.checked os 6 .any (Rows.lawS1465BModelSpec.pre6 enc Yba.prog Yba.f6 Rows.lawS1465BModelRow.domain false) (Rows.lawS1465BModelSpec.post enc Yba.prog Yba.f6 false true false false) := by
  refine returnsInHanded_of_change (C := Yba.checked) own started (by kernel_rfl) Yba.func6
    (ChangeSpec.witness6 (enc := enc) (C := Yba.checked) false ⟨#[], #[.slice none 0 0, .int .u8 0, .int .u8 0, .int .u8 0, .int .u64 0, .bool false], []⟩ 8 (by kernel_rfl) (by kernel_rfl) (by kernel_rfl) (by kernel_rfl)) ?_
  intro W base args ds gs before hval0 hW _ _
  have hval : ∀ (j : Nat) t v, Yba.f6.params[j]? = some t → args[j]? = some v → Value.okWide Yba.prog W .any base t v := hval0
  have hW' := hW
  obtain ⟨p, q, hA0, hV, rfl, _, _⟩ := hW
  have hA : DataW.TrodAll enc Yba.prog W 0 (fun _ => true) true Yba.f6.params.toList args.toList ds p := hA0
  rw [Yba.params6] at hA hval
  obtain ⟨v0, vs0, d0, ds0, p0, q0, hargs, rfl, rfl, h0, r0⟩ := trodAll_cons hA
  obtain ⟨v1, vs1, d1, ds1, p1, q1, rfl, rfl, rfl, h1, r1⟩ := trodAll_cons r0
  obtain ⟨v2, vs2, d2, ds2, p2, q2, rfl, rfl, rfl, h2, r2⟩ := trodAll_cons r1
  obtain ⟨v3, vs3, d3, ds3, p3, q3, rfl, rfl, rfl, h3, r3⟩ := trodAll_cons r2
  obtain ⟨v4, vs4, d4, ds4, p4, q4, rfl, rfl, rfl, h4, r4⟩ := trodAll_cons r3
  obtain ⟨v5, vs5, d5, ds5, p5, q5, rfl, rfl, rfl, h5, r5⟩ := trodAll_cons r4
  obtain ⟨rfl, rfl, rfl⟩ := trodAll_nil r5
  obtain rfl : args = #[v0, v1, v2, v3, v4, v5] := by cases args; simp_all
  obtain ⟨rfl, rfl⟩ := trodVars_none hV
  obtain ⟨a0, len, cap, rfl⟩ := okWide_slice Yba.underlying82 (hval 0 82 v0 rfl rfl)
  obtain ⟨kind, rfl, rfl, rfl, wk⟩ := open_int Yba.underlying5 (hval 1 5 v1 rfl rfl) h1
  obtain ⟨node, rfl, rfl, rfl, wn⟩ := open_int Yba.underlying5 (hval 2 5 v2 rfl rfl) h2
  obtain ⟨timer, rfl, rfl, rfl, wt⟩ := open_int Yba.underlying5 (hval 3 5 v3 rfl rfl) h3
  obtain ⟨ev, rfl, rfl, rfl, we⟩ := open_int Yba.underlying25 (hval 4 25 v4 rfl rfl) h4
  obtain ⟨us, rfl, rfl, rfl⟩ := open_bool Yba.underlying4 (hval 5 4 v5 rfl rfl) h5
  have h0k := h0
  obtain ⟨fuel, hf⟩ := h0
  clear hA0 hval0
  simp only [List.append_nil] at hW'
  have hlt : ∀ x ∈ p0, x.block < W.heap.size := fun x hx => by simpa using hW'.lt x hx
  have fin : ∀ (W' : World), Below W.heap.size W W' →
      Rows.lawS1465BModelSpec.post enc Yba.checked.prog Yba.f6 false true false false W #[.slice a0 len cap, .int .u8 kind, .int .u8 node, .int .u8 timer, .int .u64 ev, .bool us] (.bool true) W' := by
    intro W' hnx
    refine ⟨_, _, _, [], p0, [], hW', ?_, ?_, rfl, hnx.frame _, fun h => by cases h⟩
    · exact trodAll_mk1 (shut_bool Yba.underlying4 true)
    · have := args_cons (Below.trod laidOut (by kernel_rfl) (of_decide_eq_true (by kernel_rfl)) h0k hnx hlt) (args_cons (shut_int Yba.underlying5 wk) (args_cons (shut_int Yba.underlying5 wn) (args_cons (shut_int Yba.underlying5 wt) (args_cons (shut_int Yba.underlying25 we) (args_cons (shut_bool Yba.underlying4 us) args_nil)))))
      simp only [List.append_nil] at this
      exact this
  have bk := u8_bd wk
  have bn := u8_bd wn
  have bt := u8_bd wt
  rcases open_entries (by simpa [Value.cells] using hf) with hcs | ⟨a, len', cap', E, hcs, hm, hEl, hpos, hlaid⟩
  · simp at hcs
    obtain ⟨rfl, rfl, rfl⟩ := hcs
    refine (model_any none 0 0 0 [] kind node timer ev us W (by simp) (fun h => absurd h (by simp)) (fun j e he => by simp at he) bk.1 bk.2 bn.1 bn.2 bt.1 bt.2).mono fun e W' ⟨he, hb⟩ => ?_
    subst he
    exact ⟨_, rfl, fin W' hb⟩
  · simp at hcs
    obtain ⟨rfl, rfl, rfl⟩ := hcs
    by_cases hlong : 1024 < len
    · refine (model_long (some a) len cap kind node timer ev us W hm hlong).mono fun e W' ⟨he, hb⟩ => ?_
      subst he
      exact ⟨_, rfl, fin W' hb⟩
    · have hw := model_any (some a) a.block a.off cap E kind node timer ev us W (by omega) (fun h => ⟨congrArg some (hpos (by omega)).1, hlt _ (hpos (by omega)).2⟩) hlaid bk.1 bk.2 bn.1 bn.2 bt.1 bt.2
      rw [hEl] at hw
      refine hw.mono fun e W' ⟨he, hb⟩ => ?_
      subst he
      exact ⟨_, rfl, fin W' hb⟩

theorem model_holds : Rows.LawS1465BModelSaid :=
  OpenClaim.holds_of_wide 6 Yba.f6 rfl rfl rfl rfl rfl rfl rfl ⟨rfl, rfl, rfl, rfl, rfl⟩ rfl rfl rfl rfl rfl (by kernel_rfl) Yba.func6 (by kernel_rfl)
    (of_decide_eq_true (by kernel_rfl)) (by unfold Func.isWrapper; first | (rw [if_pos (by decide +kernel)]; kernel_rfl) | (rw [if_neg (by decide +kernel)]; exact ⟨rfl, rfl⟩))
    (fun os started H enc _ => model_lifted os started H enc)
#print axioms model_holds

end Go.Proofs.Ybulkadhw
