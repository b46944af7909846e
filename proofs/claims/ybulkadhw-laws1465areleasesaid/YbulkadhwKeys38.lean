/-
  THE KEYS OF nsmf.Ref (type 38): a string and a uint8.
-/
import Derived.Test.YbulkadhwSteps
import Derived.LaidEqlPtr
namespace Go.Proofs.Ybulkadhw
open Go.Tab Go.RowKit

def rk (p : ByteArray × Int) : Value := .agg #[.string p.1, .int .u8 p.2]

theorem flds38 : ∃ f1 f2 : Field, (Yba.prog.fieldsOf 38).toList = [f1, f2] ∧ f1.name ≠ "_" ∧ f2.name ≠ "_" ∧ f1.type = 9 ∧ f2.type = 36 ∧ f1.offset = 0 ∧ f2.offset = 1 := by
  unfold Program.fieldsOf
  rw [Yba.underlying38]
  exact ⟨_, _, rfl, by decide, by decide, rfl, rfl, rfl, rfl⟩
theorem part36 (w : World) (a b : Value) : (part 36 #[a, b] 1).run Yba.prog w = .ok b w := by kernel_rfl
theorem eq36 (w : World) (a b : Int) : (Op.equalIn 9999 36 (.int .u8 a) (.int .u8 b)).run Yba.prog w = .ok (a == b) w := by kernel_rfl

theorem rk_eq (w : World) (x y : ByteArray × Int) : (Op.equal 38 (rk x) (rk y)).run Yba.prog w = .ok (decide (y = x)) w := by
  have h0 : (Op.equal 38 (rk x) (rk y)).run Yba.prog w = (Op.eqFields 9999 #[.string x.1, .int .u8 x.2] #[.string y.1, .int .u8 y.2] (Yba.prog.fieldsOf 38).toList).run Yba.prog w :=
    run_equalIn_struct w 9999 38 _ _ (by kernel_rfl) (by kernel_rfl)
  obtain ⟨f1, f2, hf, n1, n2, t1, t2, o1, o2⟩ := flds38
  rw [h0, hf]
  obtain ⟨x1, x2⟩ := x
  obtain ⟨y1, y2⟩ := y
  simp only [Op.eqFields, n1, n2, t1, t2, o1, o2, ne_eq, not_false_eq_true, if_true, Sem.run_bind, part9, eq9, Result.andThen_ok]
  by_cases h1 : x1 = y1
  · subst h1
    have e1 : (x1 == x1) = true := (MapKept.bytes_beq x1 x1).2 rfl
    by_cases h2 : x2 = y2
    · subst h2
      simp [e1, part36, eq36]
    · have h2' : ¬ y2 = x2 := fun e => h2 e.symm
      simp [e1, part36, eq36, h2, h2']
  · have e1 : (x1 == y1) = false := by
      cases hb : (x1 == y1) with
      | false => rfl
      | true => exact absurd ((MapKept.bytes_beq x1 y1).1 hb) h1
    have h1' : ¬ y1 = x1 := fun e => h1 e.symm
    simp [e1, h1']

theorem rk_check (w : World) (em : Bool) (x : ByteArray × Int) : (Instr.checkKey em 10000 38 (rk x)).run Yba.prog w = .ok () w := by
  kernel_rfl

theorem keys38 : Keys Yba.prog 38 rk (fun _ => True) where
  check w em x _ := rk_check w em x
  find := struct_find Yba.underlying38 (fun x => ⟨_, rfl⟩) (fun w x y _ _ => rk_eq w x y)
  stays x _ := by simp [rk, Instr.sameBits, (MapKept.bytes_beq x.1 x.1).2 rfl]

/-- The state's name as the Go text picks it. -/
def hoOf (k : Int) : ByteArray :=
  if k % 5 = 0 then ⟨#[78, 79, 78, 69]⟩ else if k % 5 = 1 then ⟨#[80, 82, 69, 80, 65, 82, 73, 78, 71]⟩ else if k % 5 = 2 then ⟨#[80, 82, 69, 80, 65, 82, 69, 68]⟩ else if k % 5 = 3 then ⟨#[67, 79, 77, 80, 76, 69, 84, 69, 68]⟩ else ⟨#[67, 65, 78, 67, 69, 76, 76, 69, 68]⟩

theorem ho_any (i : Int) (h0 : 0 ≤ i) (h1 : i ≤ 255) (w : World) : Calls Yba.prog 9 #[.int .u8 i] w fun e w' => e = .returned (.string (hoOf i)) ∧ w' = w := by
  unfold hoOf
  by_cases c0 : i % 5 = 0
  · rw [if_pos c0]
    go_enter Yba.func9, Yba.ntmps9
    go_wp2
    go_ret
    exact ⟨rfl, rfl⟩
  · rw [if_neg c0]
    by_cases c1 : i % 5 = 1
    · rw [if_pos c1]
      go_enter Yba.func9, Yba.ntmps9
      go_wp2
      go_ret
      exact ⟨rfl, rfl⟩
    · rw [if_neg c1]
      by_cases c2 : i % 5 = 2
      · rw [if_pos c2]
        go_enter Yba.func9, Yba.ntmps9
        go_wp2
        go_ret
        exact ⟨rfl, rfl⟩
      · rw [if_neg c2]
        by_cases c3 : i % 5 = 3
        · rw [if_pos c3]
          go_enter Yba.func9, Yba.ntmps9
          go_wp2
          go_ret
          exact ⟨rfl, rfl⟩
        · rw [if_neg c3]
          go_enter Yba.func9, Yba.ntmps9
          go_wp2
          go_ret
          exact ⟨rfl, rfl⟩

theorem same62 (w : World) (a : Addr) : (binOp .eql 62 (.pointer (some a)) (.pointer (some a))).run Yba.prog w = .ok (.bool true) w := by
  obtain ⟨j, hj⟩ := info_of_underlying Yba.underlying67
  exact run_eql_ptr_same w a Yba.underlying62 hj

set_option maxRecDepth 100000 in
/-- The one message: it goes to the asker with the answer and no N4 message. -/
theorem one_any (bo : Nat) (asker : ByteArray) (ba : Nat) (w : World) (hm0 : w.cell? ⟨bo, 0, none⟩ = some (.string asker)) (hm1 : w.cell? ⟨bo, 1, none⟩ = some (.pointer (some ⟨ba, 0, none⟩))) (hm2 : w.cell? ⟨bo, 2, none⟩ = some .nilIface) :
    Calls Yba.prog 11 #[.slice (some ⟨bo, 0, none⟩) 1 1, .string asker, .pointer (some ⟨ba, 0, none⟩)] w fun e w' => e = .returned (.bool true) ∧ w' = w := by
  have hpe : ∀ w, (binOp .eql 62 (.pointer (some ⟨ba, 0, none⟩)) (.pointer (some ⟨ba, 0, none⟩))).run Yba.prog w = .ok (.bool true) w := fun w => same62 w _
  go_enter Yba.func11, Yba.ntmps11
  go_wp2
  go_ret
  exact ⟨rfl, rfl⟩

end Go.Proofs.Ybulkadhw
