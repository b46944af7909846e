/-
  THE KEYS OF lab.timerKey (type 89): a string and an int behind 'any'.
-/
import Derived.Test.YbulkadhwTab
import Derived.Test.YbulkadhwRows
import Derived.Laws.StructEq
import Derived.WalkKit
namespace Go.Tab

section
variable {α : Type} [DecidableEq α] {P : Program} {k : TypeId} {fs : Array Field} {f : α → Value} {ok : α → Prop}

/-- A struct's key is sought by Go's own '=='. -/
theorem struct_find (hk : P.underlying k = some (.struct fs)) (hagg : ∀ x, ∃ cs, f x = .agg cs)
    (heq : ∀ (w : World) (x y : α), ok x → ok y → (Op.equal k (f x) (f y)).run P w = .ok (decide (y = x)) w)
    (w : World) (x : α) (es : List MapEntry) (T : List α) (hx : ok x) (hT : ∀ y ∈ T, ok y) (h : es.map (·.key) = T.map f) :
    (Instr.findKey k (f x) es).run P w = .ok ((T.findIdx? (fun y => decide (y = x))).bind (fun i => es[i]?.map (fun e => (i, e.val)))) w := by
  have ask : ∀ (T : List α) (es : List MapEntry) (i : Nat), (∀ y ∈ T, ok y) → es.map (·.key) = T.map f →
      (Instr.findAsking k (f x) es i).run P w = .ok ((T.findIdx? (fun y => decide (y = x))).bind (fun j => es[j]?.map (fun e => (i + j, e.val)))) w := by
    intro T
    induction T with
    | nil =>
      intro es i _ h
      cases es with
      | nil => simp [Instr.findAsking]
      | cons e es => simp at h
    | cons y T ih =>
      intro es i hT h
      cases es with
      | nil => simp at h
      | cons e es =>
        simp only [List.map_cons, List.cons.injEq] at h
        obtain ⟨h1, h2⟩ := h
        have hq := heq w x y hx (hT y (by simp))
        rw [List.findIdx?_cons]
        by_cases hxy : y = x
        · have hd : decide (y = x) = true := by simp [hxy]
          rw [hd] at hq
          simp [Instr.findAsking, h1, hq, hd, Result.andThen]
        · have hd : decide (y = x) = false := by simp [hxy]
          rw [hd] at hq
          have ih' := ih es (i + 1) (fun z hz => hT z (by simp [hz])) h2
          simp only [Instr.findAsking, h1, Sem.run_bind, hq, Result.andThen_ok, hd, Bool.false_eq_true, if_false]
          rw [ih']
          congr 1
          cases T.findIdx? (fun y => decide (y = x)) with
          | none => rfl
          | some j => simp [Nat.add_assoc, Nat.add_comm 1 j]
  cases es with
  | nil =>
    cases T with
    | nil => simp [Instr.findKey, run_underlying hk, Instr.findNow]
    | cons y T => simp at h
  | cons e es =>
    cases T with
    | nil => simp at h
    | cons y T =>
      obtain ⟨cs, hcs⟩ := hagg x
      have hn : Instr.findNow (.struct fs) (f x) (e :: es) 0 = none := by
        rw [Instr.findNow, hcs]
        simp [Instr.sameNow]
      simp only [Instr.findKey, Sem.run_bind, run_underlying hk, Result.andThen_ok, hn]
      simpa using ask (y :: T) (e :: es) 0 hT h

end
end Go.Tab

namespace Go.Proofs.Ybulkadhw
open Go.Tab

/-- A timer's key: the node and the timer's number. -/
def tk (p : ByteArray × Int) : Value := .agg #[.string p.1, .iface 3 (.int .i64 p.2)]

theorem flds89 : ∃ f1 f2 : Field, (Yba.prog.fieldsOf 89).toList = [f1, f2] ∧ f1.name ≠ "_" ∧ f2.name ≠ "_" ∧ f1.type = 9 ∧ f2.type = 20 ∧ f1.offset = 0 ∧ f2.offset = 1 := by
  unfold Program.fieldsOf
  rw [Yba.underlying89]
  exact ⟨_, _, rfl, by decide, by decide, rfl, rfl, rfl, rfl⟩
theorem part9 (w : World) (a b : Value) : (part 9 #[a, b] 0).run Yba.prog w = .ok a w := by kernel_rfl
theorem part20 (w : World) (a b : Value) : (part 20 #[a, b] 1).run Yba.prog w = .ok b w := by kernel_rfl
theorem eq9 (w : World) (a b : ByteArray) : (Op.equalIn 9999 9 (.string a) (.string b)).run Yba.prog w = .ok (a == b) w := by kernel_rfl
theorem eq20 (w : World) (a b : Int) : (Op.equalIn 9999 20 (.iface 3 (.int .i64 a)) (.iface 3 (.int .i64 b))).run Yba.prog w = .ok (a == b) w := by kernel_rfl

theorem tk_eq (w : World) (x y : ByteArray × Int) : (Op.equal 89 (tk x) (tk y)).run Yba.prog w = .ok (decide (y = x)) w := by
  have h0 : (Op.equal 89 (tk x) (tk y)).run Yba.prog w = (Op.eqFields 9999 #[.string x.1, .iface 3 (.int .i64 x.2)] #[.string y.1, .iface 3 (.int .i64 y.2)] (Yba.prog.fieldsOf 89).toList).run Yba.prog w :=
    run_equalIn_struct w 9999 89 _ _ (by kernel_rfl) (by kernel_rfl)
  obtain ⟨f1, f2, hf, n1, n2, t1, t2, o1, o2⟩ := flds89
  rw [h0, hf]
  obtain ⟨x1, x2⟩ := x
  obtain ⟨y1, y2⟩ := y
  simp only [Op.eqFields, n1, n2, t1, t2, o1, o2, ne_eq, not_false_eq_true, if_true, Sem.run_bind, part9, eq9, Result.andThen_ok]
  by_cases h1 : x1 = y1
  · subst h1
    have e1 : (x1 == x1) = true := (MapKept.bytes_beq x1 x1).2 rfl
    by_cases h2 : x2 = y2
    · subst h2
      simp [e1, part20, eq20]
    · have h2' : ¬ y2 = x2 := fun e => h2 e.symm
      simp [e1, part20, eq20, h2, h2']
  · have e1 : (x1 == y1) = false := by
      cases hb : (x1 == y1) with
      | false => rfl
      | true => exact absurd ((MapKept.bytes_beq x1 y1).1 hb) h1
    have h1' : ¬ y1 = x1 := fun e => h1 e.symm
    simp [e1, h1']

theorem tk_check (w : World) (em : Bool) (x : ByteArray × Int) : (Instr.checkKey em 10000 89 (tk x)).run Yba.prog w = .ok () w := by
  kernel_rfl

theorem keys89 : Keys Yba.prog 89 tk (fun _ => True) where
  check w em x _ := tk_check w em x
  find := struct_find Yba.underlying89 (fun x => ⟨_, rfl⟩) (fun w x y _ _ => tk_eq w x y)
  stays x _ := by simp [tk, Instr.sameBits, (MapKept.bytes_beq x.1 x.1).2 rfl]

end Go.Proofs.Ybulkadhw
