/-
  THE PLAIN PART OF LawS1465BScript: the map of timers and the model that goes beside it agree.
-/
import Derived.Test.YbulkadhwParts
namespace Go.Tab
section
variable {α β : Type} [DecidableEq α]

theorem get_put : ∀ (T : List (α × β)) (x : α) (v : β) (y : α), get (put T x v) y = if y = x then some v else get T y
  | [], x, v, y => by
    rw [put_none (idx_nil x)]
    simp only [List.nil_append, get_cons, get_nil]
    by_cases h : y = x
    · subst h; simp
    · rw [if_neg h, if_neg (fun e => h e.symm)]
  | p :: T, x, v, y => by
    have ih := get_put T x v y
    by_cases hp : p.1 = x
    · rw [put_some (i := 0) (by rw [idx_cons, if_pos hp])]
      simp only [List.set_cons_zero, get_cons]
      by_cases h : y = x
      · rw [if_pos h, if_pos h.symm]
      · rw [if_neg h, if_neg (fun e => h e.symm), hp, if_neg (fun e => h e.symm)]
    · have e : put (p :: T) x v = p :: put T x v := by
        cases hi : idx T x with
        | none => rw [put_none hi, put_none (by rw [idx_cons, if_neg hp, hi]; rfl)]; rfl
        | some i => rw [put_some hi, put_some (i := i + 1) (by rw [idx_cons, if_neg hp, hi]; rfl)]; rfl
      rw [e, get_cons, ih, get_cons]
      by_cases h : y = x
      · subst h; rw [if_neg hp, if_pos rfl]; simp
      · rw [if_neg h, if_neg h]

theorem get_absent : ∀ {T : List (α × β)} {x : α}, (∀ p ∈ T, p.1 ≠ x) → get T x = none
  | [], _, _ => rfl
  | p :: T, x, h => by
    rw [get_cons, if_neg (h p (by simp))]
    exact get_absent (fun q hq => h q (by simp [hq]))

theorem get_del : ∀ {T : List (α × β)} (_ : (T.map (·.1)).Nodup) (x y : α), get (del T x) y = if y = x then none else get T y
  | [], _, x, y => by
    rw [del_none (idx_nil x), get_nil]; simp
  | p :: T, h, x, y => by
    have hT : (T.map (·.1)).Nodup := (List.nodup_cons.1 h).2
    have hpn : p.1 ∉ T.map (·.1) := (List.nodup_cons.1 h).1
    have ih := get_del hT x y
    by_cases hp : p.1 = x
    · rw [del_some (i := 0) (by rw [idx_cons, if_pos hp])]
      simp only [List.eraseIdx_cons_zero, get_cons]
      by_cases hy : y = x
      · rw [if_pos hy]
        subst hy
        exact get_absent (fun q hq e => hpn (List.mem_map.2 ⟨q, hq, e.trans hp.symm⟩))
      · rw [if_neg hy, hp, if_neg (fun e => hy e.symm)]
    · have e : del (p :: T) x = p :: del T x := by
        cases hi : idx T x with
        | none => rw [del_none hi, del_none (by rw [idx_cons, if_neg hp, hi]; rfl)]
        | some i => rw [del_some hi, del_some (i := i + 1) (by rw [idx_cons, if_neg hp, hi]; rfl)]; rfl
      rw [e, get_cons, ih, get_cons]
      by_cases hy : y = x
      · subst hy; rw [if_neg hp, if_pos rfl]; simp
      · rw [if_neg hy, if_neg hy]

theorem keys_del {T : List (α × β)} {x : α} (h : (T.map (·.1)).Nodup) : ((del T x).map (·.1)).Nodup := by
  cases hi : idx T x with
  | none => rw [del_none hi]; exact h
  | some i =>
    rw [del_some hi]
    exact List.Nodup.sublist ((List.eraseIdx_sublist T i).map _) h

theorem get_snoc (T : List (α × β)) (x : α) (v : β) (hx : idx T x = none) (y : α) : get (T ++ [(x, v)]) y = if y = x then some v else get T y := by
  rw [← put_none hx v]
  exact get_put T x v y
theorem idx_snoc {T : List (α × β)} {x : α} (v : β) (hx : idx T x = none) : idx (T ++ [(x, v)]) x = some T.length := by
  refine Proofs.Ybulkadhw.idx_first (p := (x, v)) (by simp) rfl (fun j q hj hq => ?_)
  rw [List.getElem?_append_left hj] at hq
  exact (idx_none hx).2 q (List.mem_of_getElem? hq)
end
end Go.Tab

namespace Go.Proofs.Ybulkadhw
open Go.Tab

/-- The seq of a key that runs. -/
def run (S : List ((ByteArray × Int) × (Int × Bool))) (x : ByteArray × Int) : Option Int := (get S x).bind (fun p => if p.2 then some p.1 else none)

structure Inv (T : List ((ByteArray × Int) × Int)) (S : List ((ByteArray × Int) × (Int × Bool))) : Prop where
  nd : (T.map (·.1)).Nodup
  eq : ∀ y, get T y = run S y

theorem Inv.nil : Inv [] [] := ⟨List.nodup_nil, fun _ => rfl⟩
theorem Inv.start {T S} (h : Inv T S) (x : ByteArray × Int) (q : Int) : Inv (put (del T x) x q) (put S x (q, true)) := by
  refine ⟨keys_put (keys_del h.nd), fun y => ?_⟩
  unfold run
  rw [get_put, get_put, get_del h.nd]
  by_cases hy : y = x
  · simp [hy]
  · simp only [if_neg hy]
    exact h.eq y
theorem Inv.stop {T S} (h : Inv T S) (x : ByteArray × Int) (q : Int) : Inv (del T x) (put S x (q, false)) := by
  refine ⟨keys_del h.nd, fun y => ?_⟩
  unfold run
  rw [get_put, get_del h.nd]
  by_cases hy : y = x
  · simp [hy]
  · simp only [if_neg hy]
    exact h.eq y
theorem Inv.new {T S} (h : Inv T S) {x : ByteArray × Int} (hx : idx S x = none) : Inv T (S ++ [(x, (0, false))]) := by
  refine ⟨h.nd, fun y => ?_⟩
  unfold run
  rw [get_snoc S x _ hx, h.eq y]
  by_cases hy : y = x
  · subst hy
    simp [run, (idx_none hx).1]
  · simp only [if_neg hy]
    rfl

theorem run_none {S} {x : ByteArray × Int} (h : idx S x = none) : run S x = none := by
  unfold run; rw [(idx_none h).1]; rfl
theorem run_some {S} {x : ByteArray × Int} {i : Nat} {q : Int} {r : Bool} (h : idx S x = some i) (hi : S[i]? = some (x, (q, r))) : run S x = if r then some q else none := by
  unfold run; rw [(get_of_idx h hi).1]; rfl

theorem cells_set3 : ∀ (S : List ((ByteArray × Int) × (Int × Bool))) (i : Nat) (x : ByteArray × Int) (q : Int) (r0 r : Bool), S[i]? = some (x, (q, r0)) → cellsOf (S.set i (x, (q, r))) = (cellsOf S).set (i * 4 + 3) (.bool r)
  | [], i, x, q, r0, r, h => by simp at h
  | p :: S, 0, x, q, r0, r, h => by
    simp at h
    subst h
    simp [cellsOf, slotCells]
  | p :: S, i + 1, x, q, r0, r, h => by
    have ih := cells_set3 S i x q r0 r (by simpa using h)
    simp only [cellsOf, List.set_cons_succ, List.flatMap_cons] at ih ⊢
    rw [ih, List.set_append_right _ _ (by simp [slotCells]; omega)]
    congr 2
    simp [slotCells]
    omega

theorem cells_snoc (S : List ((ByteArray × Int) × (Int × Bool))) (p) : cellsOf (S ++ [p]) = cellsOf S ++ slotCells p := by
  simp [cellsOf]

end Go.Proofs.Ybulkadhw
