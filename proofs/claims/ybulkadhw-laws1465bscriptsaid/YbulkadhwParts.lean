/-
  THE PLAIN PART OF LawS1465BModel: the table of running timers after the entries, and the model that goes beside it.
-/
import Derived.Test.YbulkadhwFind
namespace Go.Tab
section
variable {α β γ : Type} [DecidableEq α]

theorem idx_map (h : β → γ) (T : List (α × β)) (x : α) : idx (T.map (fun p => (p.1, h p.2))) x = idx T x := by
  unfold idx
  rw [List.findIdx?_map]
  rfl
theorem keys_put {T : List (α × β)} {x : α} {v : β} (h : (T.map (·.1)).Nodup) : ((put T x v).map (·.1)).Nodup := by
  cases hi : idx T x with
  | none =>
    rw [put_none hi]
    simp only [List.map_append, List.map_cons, List.map_nil]
    refine List.nodup_append.2 ⟨h, by simp, ?_⟩
    intro a ha b hb e
    simp only [List.mem_singleton] at hb
    obtain ⟨p, hp, rfl⟩ := List.mem_map.1 ha
    exact (idx_none hi).2 p hp (e.trans hb)
  | some i =>
    rw [put_some hi]
    obtain ⟨v0, h1, _⟩ := idx_some hi
    have e : (T.set i (x, v)).map (·.1) = T.map (·.1) := by
      apply List.ext_getElem?
      intro j
      simp only [List.getElem?_map, List.getElem?_set]
      by_cases hj : i = j
      · subst hj
        rw [if_pos rfl, if_pos (idx_lt hi), h1]
        rfl
      · simp [hj]
    rw [e]
    exact h
theorem put_length {T : List (α × β)} {x : α} {v : β} : (put T x v).length ≤ T.length + 1 := by
  cases hi : idx T x with
  | none => rw [put_none hi]; simp
  | some i => rw [put_some hi]; simp

/-- With no key twice, the k-th entry is the one at its key. -/
theorem idx_nodup {T : List (α × β)} (h : (T.map (·.1)).Nodup) {k : Nat} {p : α × β} (hk : T[k]? = some p) : idx T p.1 = some k := by
  refine Proofs.Ybulkadhw.idx_first hk rfl (fun j q hj hq e => ?_)
  have h1 : (T.map (·.1))[j]? = some p.1 := by simp [hq, e]
  have h2 : (T.map (·.1))[k]? = some p.1 := by simp [hk]
  have hl := (List.getElem?_eq_some_iff.1 h1).1
  have := (List.getElem?_inj hl h).1 (h1.trans h2.symm)
  omega
theorem get_nodup {T : List (α × β)} (h : (T.map (·.1)).Nodup) {k : Nat} {p : α × β} (hk : T[k]? = some p) : get T p.1 = some p.2 := by
  obtain ⟨v, h1, h2⟩ := idx_some (idx_nodup h hk)
  rw [hk] at h1
  have e : p = (p.1, v) := Option.some.inj h1
  rw [h2, congrArg Prod.snd e]
theorem get_of_idx {T : List (α × β)} {x : α} {i : Nat} {p : α × β} (h : idx T x = some i) (hp : T[i]? = some p) : get T x = some p.2 ∧ p.1 = x := by
  obtain ⟨v, h1, h2⟩ := idx_some h
  rw [hp] at h1
  cases h1
  exact ⟨h2, rfl⟩

/-- Behind a delete of the i-th entry's key: that key is gone, each other stays. -/
theorem del_at {T : List (α × β)} (h : (T.map (·.1)).Nodup) {i k : Nat} {p q : α × β} (hi : T[i]? = some p) (hk : T[k]? = some q) : get (del T p.1) q.1 = if k = i then none else some q.2 := by
  rw [del_some (idx_nodup h hi)]
  have hn : ((T.eraseIdx i).map (·.1)).Nodup := by
    have : ((T.eraseIdx i).map (·.1)).Sublist (T.map (·.1)) := (List.eraseIdx_sublist T i).map _
    exact this.nodup h
  by_cases e : k = i
  · subst e
    rw [if_pos rfl]
    rw [hi] at hk
    cases hk
    refine (idx_none (Proofs.Ybulkadhw.idx_absent (fun j r hr e => ?_))).1
    rw [List.getElem?_eraseIdx] at hr
    split at hr
    · have h1 := idx_nodup h hr
      rw [e, idx_nodup h hi] at h1
      cases h1
      omega
    · have h1 := idx_nodup h hr
      rw [e, idx_nodup h hi] at h1
      cases h1
      omega
  · rw [if_neg e]
    by_cases hlt : k < i
    · exact get_nodup hn (k := k) (p := q) (by rw [List.getElem?_eraseIdx, if_pos hlt]; exact hk)
    · exact get_nodup hn (k := k - 1) (p := q) (by rw [List.getElem?_eraseIdx, if_neg (by omega), show k - 1 + 1 = k by omega]; exact hk)
theorem del_length {T : List (α × β)} {x : α} {i : Nat} (h : idx T x = some i) : (del T x).length = T.length - 1 := by
  rw [del_some h, List.length_eraseIdx, if_pos (idx_lt h)]
end
end Go.Tab

namespace Go.Proofs.Ybulkadhw
open Go.Tab

/-- An entry: the node's number, the timer's, the seq. -/
def ekey (e : Int × Int × Int) : ByteArray × Int := (nodeOf e.1, e.2.1 % 4)
def table (E : List (Int × Int × Int)) : List ((ByteArray × Int) × Int) := E.foldl (fun T e => put T (ekey e) e.2.2) []
def slots (T : List ((ByteArray × Int) × Int)) : List ((ByteArray × Int) × (Int × Bool)) := T.map (fun p => (p.1, (p.2, true)))

theorem table_succ (E : List (Int × Int × Int)) (k : Nat) (e : Int × Int × Int) (h : E[k]? = some e) : table (E.take (k + 1)) = put (table (E.take k)) (ekey e) e.2.2 := by
  obtain ⟨hk, he⟩ := List.getElem?_eq_some_iff.1 h
  rw [List.take_succ_eq_append_getElem hk, he]
  simp [table, List.foldl_append]
theorem fold_nodup (E : List (Int × Int × Int)) : ∀ T : List ((ByteArray × Int) × Int), (T.map (·.1)).Nodup → ((E.foldl (fun T e => put T (ekey e) e.2.2) T).map (·.1)).Nodup := by
  induction E with
  | nil => intro T h; exact h
  | cons e E ih => intro T h; exact ih _ (keys_put h)
theorem table_nodup (E : List (Int × Int × Int)) : ((table E).map (·.1)).Nodup := fold_nodup E [] List.nodup_nil
theorem fold_length (E : List (Int × Int × Int)) : ∀ T : List ((ByteArray × Int) × Int), (E.foldl (fun T e => put T (ekey e) e.2.2) T).length ≤ T.length + E.length := by
  induction E with
  | nil => intro T; simp
  | cons e E ih =>
    intro T
    have h1 := ih (put T (ekey e) e.2.2)
    have h2 := put_length (T := T) (x := ekey e) (v := e.2.2)
    simp only [List.foldl_cons, List.length_cons]
    omega
theorem table_length (E : List (Int × Int × Int)) (k : Nat) : (table (E.take k)).length ≤ k := by
  have := fold_length (E.take k) []
  have := List.length_take_le k E
  simp [table] at *
  omega

theorem slots_length (T : List ((ByteArray × Int) × Int)) : (slots T).length = T.length := by simp [slots]
theorem slots_idx (T : List ((ByteArray × Int) × Int)) (x : ByteArray × Int) : idx (slots T) x = idx T x := idx_map (fun q => (q, true)) T x
theorem slots_at {T : List ((ByteArray × Int) × Int)} {k : Nat} {p : (ByteArray × Int) × Int} (h : T[k]? = some p) : (slots T)[k]? = some (p.1, (p.2, true)) := by simp [slots, h]

/-- A new key: one slot more. -/
theorem slots_new {T : List ((ByteArray × Int) × Int)} {x : ByteArray × Int} (h : idx T x = none) (q : Int) :
    cellsOf (slots (put T x q)) = cellsOf (slots T) ++ [.string x.1, .int .i64 x.2, .int .u64 q, .bool true] ∧ (slots (put T x q)).length = (slots T).length + 1 := by
  rw [put_none h]
  simp [slots, cellsOf, slotCells]
/-- A key that is there: its seq is written. -/
theorem cells_set : ∀ (S : List ((ByteArray × Int) × (Int × Bool))) (i : Nat) (x : ByteArray × Int) (q0 q : Int) (r : Bool), S[i]? = some (x, (q0, r)) → cellsOf (S.set i (x, (q, r))) = (cellsOf S).set (i * 4 + 2) (.int .u64 q)
  | [], i, x, q0, q, r, h => by simp at h
  | p :: S, 0, x, q0, q, r, h => by
    simp at h
    subst h
    simp [cellsOf, slotCells]
  | p :: S, i + 1, x, q0, q, r, h => by
    have ih := cells_set S i x q0 q r (by simpa using h)
    simp only [cellsOf, List.set_cons_succ, List.flatMap_cons] at ih ⊢
    rw [ih, show (i + 1) * 4 + 2 = (i * 4 + 2) + 4 by omega]
    simp [slotCells]
theorem slots_old {T : List ((ByteArray × Int) × Int)} {x : ByteArray × Int} {i : Nat} (h : idx T x = some i) (q : Int) :
    cellsOf (slots (put T x q)) = (cellsOf (slots T)).set (i * 4 + 2) (.int .u64 q) ∧ (slots (put T x q)).length = (slots T).length := by
  obtain ⟨v, h1, _⟩ := idx_some h
  rw [put_some h]
  refine ⟨?_, by simp [slots]⟩
  rw [← cells_set (slots T) i x v q true (by simp [slots, h1])]
  congr 1
  simp [slots, List.map_set]

end Go.Proofs.Ybulkadhw
