/-
  'Rows.LawS1465BScriptSaid', PROVED: every slice of steps, a nil one too.
-/
import Derived.Test.YbulkadhwScript
import Derived.Deep.Slices
import Derived.Deep.Strs
import Derived.ProofKit
namespace Go.Proofs.Ybulkadhw
open Go.ChangeShapes Go.WideShapes Go.ChangeAt Go.RowKit Go.Deep

theorem ownNone : ownKnob Yba.prog.godebug = none := by kernel_rfl
theorem laidOut : laidOutB Yba.prog = true := by kernel_rfl
theorem cells111 : Yba.prog.cellsOf 111 = 4 := by kernel_rfl

theorem args_nil {H : Type} {enc : TypeId × Value → H} {P : Program} {w : World} {base : Nat} {spare : Nat → Bool} {held : Bool} : DataW.TrodAll enc P w base spare held [] [] [] [] := rfl
theorem args_cons {H : Type} {enc : TypeId × Value → H} {P : Program} {w : World} {base : Nat} {spare : Nat → Bool} {held : Bool} {t : TypeId} {ts : List TypeId} {v : Value} {vs : List Value} {d : DataW H} {ds : List (DataW H)} {p p' : List MemPlace}
    (h : DataW.Trod enc P w base spare held t v d p) (hs : DataW.TrodAll enc P w base spare held ts vs ds p') : DataW.TrodAll enc P w base spare held (t :: ts) (v :: vs) (d :: ds) (p ++ p') := ⟨p, p', h, hs, rfl⟩

theorem u8_bd {n : Int} (h : (Lit.int .u8 n).wf = true) : 0 ≤ n ∧ n ≤ 255 := by
  have h1 : IntKind.u8.min = 0 := rfl
  have h2 : IntKind.u8.max = 255 := rfl
  simp only [Lit.wf, Bool.and_eq_true, decide_eq_true_eq, h1, h2] at h
  exact h

set_option maxRecDepth 100000 in
theorem script_long (a : Option Addr) (len cap : Nat) (node timer probe : Int) (w : World) (hm : len ≤ maxLen) (h : 1024 < len) :
    Calls Yba.prog 7 #[.slice a len cap, .int .u8 node, .int .u8 timer, .int .u16 probe] w fun e w' => e = .returned (.bool true) ∧ Below w.heap.size w w' := by
  unfold maxLen at hm
  go_enter Yba.func7, Yba.ntmps7
  go_wp2
  go_ret
  exact ⟨rfl, Below.refl _ _⟩

theorem u16_bd {n : Int} (h : (Lit.int .u16 n).wf = true) : 0 ≤ n ∧ n ≤ 65535 := by
  have h1 : IntKind.u16.min = 0 := rfl
  have h2 : IntKind.u16.max = 65535 := rfl
  simp only [Lit.wf, Bool.and_eq_true, decide_eq_true_eq, h1, h2] at h
  exact h

theorem four_of {l : List Value} (h : l.length = 4) : ∃ a b c d, l = [a, b, c, d] := by
  match l, h with
  | [a, b, c, d], _ => exact ⟨a, b, c, d, rfl⟩

theorem open4 {H : Type} {enc : TypeId × Value → H} {P : Program} {w : World} {base : Nat} {spare : Nat → Bool} {held : Bool} {t : TypeId} {f0 f1 f2 f3 : Field} {fuel : Nat} {cs : List Value} {x : DataW H × List MemPlace} (ht : P.underlying t = some (.struct #[f0, f1, f2, f3])) (h : DataW.trod enc P w base spare held fuel t cs = some x) :
    ∃ y0 y1 y2 y3 n, cs.length = P.cellsOf t ∧ DataW.trod enc P w base spare held n f0.type ((cs.drop f0.offset).take (P.cellsOf f0.type)) = some y0 ∧ DataW.trod enc P w base spare held n f1.type ((cs.drop f1.offset).take (P.cellsOf f1.type)) = some y1 ∧
      DataW.trod enc P w base spare held n f2.type ((cs.drop f2.offset).take (P.cellsOf f2.type)) = some y2 ∧ DataW.trod enc P w base spare held n f3.type ((cs.drop f3.offset).take (P.cellsOf f3.type)) = some y3 := by
  obtain ⟨xs, n, _, rfl, hl, hlen, hf⟩ := DataW.trod_struct ht h
  match xs, hlen with
  | [y0, y1, y2, y3], _ => exact ⟨y0, y1, y2, y3, n, hl, by simpa using hf 0 f0 rfl, by simpa using hf 1 f1 rfl, by simpa using hf 2 f2 rfl, by simpa using hf 3 f3 rfl⟩

/-- The steps' cells, out of their reading. -/
theorem open_steps {H : Type} {enc : TypeId × Value → H} {W : World} {fuel : Nat} {cs : List Value} {x : DataW H × List MemPlace} (h : DataW.trod enc Yba.prog W 0 (fun _ => true) true fuel 108 cs = some x) :
    (cs = [.slice none 0 0]) ∨ ∃ (a : Addr) (len cap : Nat) (E : List (Bool × Int × Int × Int)), cs = [.slice (some a) len cap] ∧ len ≤ maxLen ∧ E.length = len ∧ (0 < len → a = ⟨a.block, a.off, none⟩ ∧ .cell a.block a.off ∈ x.2) ∧ laidS W a.block a.off E := by
  rcases open_slice Yba.underlying108 h with ⟨h0, _⟩ | ⟨a, len, cap, m, n, D, Pl, hcs, hb, hl, hm, hmm, hx, hall⟩
  · exact Or.inl h0
  right
  simp only [if_true] at hmm
  have each : ∀ i, i < len → ∃ e : Bool × Int × Int × Int, W.cell? (a.add (i * 4)) = some (.bool e.1) ∧ W.cell? (a.add (i * 4 + 1)) = some (.int .u8 e.2.1) ∧ W.cell? (a.add (i * 4 + 2)) = some (.int .u8 e.2.2.1) ∧ W.cell? (a.add (i * 4 + 3)) = some (.int .u16 e.2.2.2) ∧ (0 ≤ e.2.1 ∧ e.2.1 ≤ 255) ∧ (0 ≤ e.2.2.1 ∧ e.2.2.1 ≤ 255) ∧ (0 ≤ e.2.2.2 ∧ e.2.2.2 ≤ 65535) := by
    intro i hi
    obtain ⟨cs', h1, h2⟩ := hall i (by omega)
    rw [cells111] at h1
    obtain ⟨_, hlen, hcell⟩ := World.cells?_some h1
    obtain ⟨y0, y1, y2, y3, n', _, t0, t1, t2, t3⟩ := open4 Yba.underlying111 h2
    obtain ⟨v0, v1, v2, v3, rfl⟩ : ∃ v0 v1 v2 v3, cs' = [v0, v1, v2, v3] := four_of hlen
    · have k4 : Yba.prog.cellsOf 4 = 1 := by kernel_rfl
      have k5 : Yba.prog.cellsOf 5 = 1 := by kernel_rfl
      have k109 : Yba.prog.cellsOf 109 = 1 := by kernel_rfl
      simp only [k4, k5, k109, List.drop_zero, List.drop_succ_cons, List.take_succ_cons, List.take_zero] at t0 t1 t2 t3
      obtain ⟨n0, e0, _⟩ := DataW.trod_bool Yba.underlying4 t0
      obtain ⟨n1, e1, _, w1⟩ := DataW.trod_int Yba.underlying5 t1
      obtain ⟨n2, e2, _, w2⟩ := DataW.trod_int Yba.underlying5 t2
      obtain ⟨n3, e3, _, w3⟩ := DataW.trod_int Yba.underlying109 t3
      simp only [List.cons.injEq, and_true] at e0 e1 e2 e3
      subst e0 e1 e2 e3
      refine ⟨(n0, n1, n2, n3), ?_, ?_, ?_, ?_, u8_bd w1, u8_bd w2, u16_bd w3⟩
      · have := hcell 0 (by omega); rw [add_add] at this; simpa using this
      · have := hcell 1 (by omega); rw [add_add] at this; simpa using this
      · have := hcell 2 (by omega); rw [add_add] at this; simpa using this
      · have := hcell 3 (by omega); rw [add_add] at this; simpa using this
  obtain ⟨F, hF⟩ := choose_lt each
  refine ⟨a, len, cap, (List.range len).map F, hcs, by omega, by simp, ?_, ?_⟩
  · intro hpos
    have h0 := (hF 0 hpos).1
    rw [Nat.zero_mul] at h0
    have hsp : a.spot = none := by
      have := World.cell?_spot h0
      simpa [Addr.add] using this
    obtain ⟨b, off, spot⟩ := a
    simp only at hsp
    subst hsp
    refine ⟨rfl, ?_⟩
    rw [hx]
    exact List.mem_append_left _ (MemPlace.mem_row.2 ⟨0, by rw [cells111]; omega, by simp⟩)
  · intro j e he
    have hj : j < len := by have := (List.getElem?_eq_some_iff.1 he).1; simpa using this
    have hFe : F j = e := by simpa [hj] using he
    subst hFe
    have h0 := (hF 0 (by omega)).1
    rw [Nat.zero_mul] at h0
    obtain ⟨b, off, spot⟩ := a
    have hsp : spot = none := by simpa [Addr.add] using World.cell?_spot h0
    subst hsp
    obtain ⟨c0, c1, c2, c3, b0, b1, b2⟩ := hF j hj
    rw [add_plain] at c0 c1 c2 c3
    exact ⟨c0, by rw [Nat.add_assoc]; exact c1, by rw [Nat.add_assoc]; exact c2, by rw [Nat.add_assoc]; exact c3, b0, b1, b2⟩

set_option maxRecDepth 100000 in
theorem script_lifted (os : Os) (started : os.Started) (H : Type) (enc : TypeId × Value → H) :
    ReturnsInHanded {} Yba.checked os 7 .any (Rows.lawS1465BScriptSpec.pre6 enc Yba.prog Yba.f7 Rows.lawS1465BScriptRow.domain false) (Rows.lawS1465BScriptSpec.post enc Yba.prog Yba.f7 false true false false) := by
  refine returnsInHanded_of_change (C := Yba.checked) ownNone started (by kernel_rfl) Yba.func7
    (ChangeSpec.witness6 (enc := enc) (C := Yba.checked) false ⟨#[], #[.slice none 0 0, .int .u8 0, .int .u8 0, .int .u16 0], []⟩ 8 (by kernel_rfl) (by kernel_rfl) (by kernel_rfl) (by kernel_rfl)) ?_
  intro W base args ds gs before hval0 hW _ _
  have hval : ∀ (j : Nat) t v, Yba.f7.params[j]? = some t → args[j]? = some v → Value.okWide Yba.prog W .any base t v := hval0
  have hW' := hW
  obtain ⟨p, q, hA0, hV, rfl, _, _⟩ := hW
  have hA : DataW.TrodAll enc Yba.prog W 0 (fun _ => true) true Yba.f7.params.toList args.toList ds p := hA0
  rw [Yba.params7] at hA hval
  obtain ⟨v0, vs0, d0, ds0, p0, q0, hargs, rfl, rfl, h0, r0⟩ := trodAll_cons hA
  obtain ⟨v1, vs1, d1, ds1, p1, q1, rfl, rfl, rfl, h1, r1⟩ := trodAll_cons r0
  obtain ⟨v2, vs2, d2, ds2, p2, q2, rfl, rfl, rfl, h2, r2⟩ := trodAll_cons r1
  obtain ⟨v3, vs3, d3, ds3, p3, q3, rfl, rfl, rfl, h3, r3⟩ := trodAll_cons r2
  obtain ⟨rfl, rfl, rfl⟩ := trodAll_nil r3
  obtain rfl : args = #[v0, v1, v2, v3] := by cases args; simp_all
  obtain ⟨rfl, rfl⟩ := trodVars_none hV
  obtain ⟨a0, len, cap, rfl⟩ := okWide_slice Yba.underlying108 (hval 0 108 v0 rfl rfl)
  obtain ⟨node, rfl, rfl, rfl, wn⟩ := open_int Yba.underlying5 (hval 1 5 v1 rfl rfl) h1
  obtain ⟨timer, rfl, rfl, rfl, wt⟩ := open_int Yba.underlying5 (hval 2 5 v2 rfl rfl) h2
  obtain ⟨probe, rfl, rfl, rfl, wp⟩ := open_int Yba.underlying109 (hval 3 109 v3 rfl rfl) h3
  have h0k := h0
  obtain ⟨fuel, hf⟩ := h0
  clear hA0 hval0
  simp only [List.append_nil] at hW'
  have hlt : ∀ x ∈ p0, x.block < W.heap.size := fun x hx => by simpa using hW'.lt x hx
  have fin : ∀ (W' : World), Below W.heap.size W W' →
      Rows.lawS1465BScriptSpec.post enc Yba.checked.prog Yba.f7 false true false false W #[.slice a0 len cap, .int .u8 node, .int .u8 timer, .int .u16 probe] (.bool true) W' := by
    intro W' hnx
    refine ⟨_, _, _, [], p0, [], hW', ?_, ?_, rfl, hnx.frame _, fun h => by cases h⟩
    · exact trodAll_mk1 (shut_bool Yba.underlying4 true)
    · have := args_cons (Below.trod laidOut (by kernel_rfl) (of_decide_eq_true (by kernel_rfl)) h0k hnx hlt) (args_cons (shut_int Yba.underlying5 wn) (args_cons (shut_int Yba.underlying5 wt) (args_cons (shut_int Yba.underlying109 wp) args_nil)))
      simp only [List.append_nil] at this
      exact this
  have bn := u8_bd wn
  have bt := u8_bd wt
  have bp := u16_bd wp
  rcases open_steps (by simpa [Value.cells] using hf) with hcs | ⟨a, len', cap', E, hcs, hm, hEl, hpos, hlaid⟩
  · simp at hcs
    obtain ⟨rfl, rfl, rfl⟩ := hcs
    refine (script_any none 0 0 0 [] node timer probe W (by simp) (fun h => absurd h (by simp)) (fun j e he => by simp at he) bn.1 bn.2 bt.1 bt.2 bp.1 bp.2).mono fun e W' ⟨he, hb⟩ => ?_
    subst he
    exact ⟨_, rfl, fin W' hb⟩
  · simp at hcs
    obtain ⟨rfl, rfl, rfl⟩ := hcs
    by_cases hlong : 1024 < len
    · refine (script_long (some a) len cap node timer probe W hm hlong).mono fun e W' ⟨he, hb⟩ => ?_
      subst he
      exact ⟨_, rfl, fin W' hb⟩
    · have hw := script_any (some a) a.block a.off cap E node timer probe W (by omega) (fun h => ⟨congrArg some (hpos (by omega)).1, hlt _ (hpos (by omega)).2⟩) hlaid bn.1 bn.2 bt.1 bt.2 bp.1 bp.2
      rw [hEl] at hw
      refine hw.mono fun e W' ⟨he, hb⟩ => ?_
      subst he
      exact ⟨_, rfl, fin W' hb⟩

theorem script_holds : Rows.LawS1465BScriptSaid :=
  OpenClaim.holds_of_wide 7 Yba.f7 rfl rfl rfl rfl rfl rfl rfl ⟨rfl, rfl, rfl, rfl, rfl⟩ rfl rfl rfl rfl rfl (by kernel_rfl) Yba.func7 (by kernel_rfl)
    (of_decide_eq_true (by kernel_rfl)) (by unfold Func.isWrapper; first | (rw [if_pos (by decide +kernel)]; kernel_rfl) | (rw [if_neg (by decide +kernel)]; exact ⟨rfl, rfl⟩))
    (fun os started H enc _ => script_lifted os started H enc)
#print axioms script_holds

end Go.Proofs.Ybulkadhw
