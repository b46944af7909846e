/-
  THE PLAIN LAW: a list without its repeats, each at its first place. No Go here.
-/
import Derived.Test.YbulkadguTab
namespace Go.Proofs.Ybulkadgu
open Go.Tab

/-- One name more: it goes to the end unless it is there. -/
def has (x : ByteArray) (l : List ByteArray) : Bool := l.any (fun y => decide (y = x))
theorem has_iff (x : ByteArray) (l : List ByteArray) : has x l = true ↔ x ∈ l := by
  unfold has
  rw [List.any_eq_true]
  constructor
  · rintro ⟨y, hy, h⟩
    have e : y = x := by simpa using h
    exact e ▸ hy
  · exact fun h => ⟨x, h, by simp⟩
def add (acc : List ByteArray) (x : ByteArray) : List ByteArray := if has x acc = true then acc else acc ++ [x]
theorem add_in {acc : List ByteArray} {x : ByteArray} (h : x ∈ acc) : add acc x = acc := by rw [add, if_pos ((has_iff x acc).2 h)]
theorem add_out {acc : List ByteArray} {x : ByteArray} (h : ¬ x ∈ acc) : add acc x = acc ++ [x] := by rw [add, if_neg (fun e => h ((has_iff x acc).1 e))]
theorem add_cases (acc : List ByteArray) (x : ByteArray) : (x ∈ acc ∧ add acc x = acc) ∨ (¬ x ∈ acc ∧ add acc x = acc ++ [x]) := by
  by_cases h : x ∈ acc
  · exact Or.inl ⟨h, add_in h⟩
  · exact Or.inr ⟨h, add_out h⟩
def dd (l : List ByteArray) : List ByteArray := l.foldl add []

theorem dd_nil : dd [] = [] := rfl
theorem dd_snoc (l : List ByteArray) (x : ByteArray) : dd (l ++ [x]) = add (dd l) x := by simp [dd, List.foldl_append]

theorem take_snoc (l : List ByteArray) (k : Nat) (hk : k < l.length) : l.take (k + 1) = l.take k ++ [l.getD k ByteArray.empty] := by
  rw [List.take_succ_eq_append_getElem hk, List.getD, List.getElem?_eq_getElem hk]; rfl

theorem dd_succ (l : List ByteArray) (k : Nat) (hk : k < l.length) : dd (l.take (k + 1)) = add (dd (l.take k)) (l.getD k ByteArray.empty) := by
  rw [take_snoc l k hk, dd_snoc]
theorem dd_old (l : List ByteArray) (k : Nat) (hk : k < l.length) (h : l.getD k ByteArray.empty ∈ dd (l.take k)) : dd (l.take (k + 1)) = dd (l.take k) := by
  rw [dd_succ l k hk, add_in h]
theorem dd_new (l : List ByteArray) (k : Nat) (hk : k < l.length) (h : ¬ l.getD k ByteArray.empty ∈ dd (l.take k)) : dd (l.take (k + 1)) = dd (l.take k) ++ [l.getD k ByteArray.empty] := by
  rw [dd_succ l k hk, add_out h]

theorem fold_mem (l : List ByteArray) : ∀ (acc : List ByteArray) (x : ByteArray), x ∈ l.foldl add acc ↔ x ∈ acc ∨ x ∈ l := by
  induction l with
  | nil => intro acc x; simp
  | cons a r ih =>
    intro acc x
    rw [List.foldl_cons, ih]
    rcases add_cases acc a with ⟨h, e⟩ | ⟨h, e⟩ <;> rw [e]
    · constructor
      · rintro (h1 | h1)
        · exact Or.inl h1
        · exact Or.inr (List.mem_cons_of_mem _ h1)
      · rintro (h1 | h1)
        · exact Or.inl h1
        · rcases List.mem_cons.1 h1 with rfl | h1
          · exact Or.inl h
          · exact Or.inr h1
    · simp only [List.mem_append, List.mem_cons, List.not_mem_nil, or_false]
      constructor
      · rintro ((h1 | h1) | h1)
        · exact Or.inl h1
        · exact Or.inr (Or.inl h1)
        · exact Or.inr (Or.inr h1)
      · rintro (h1 | h1 | h1)
        · exact Or.inl (Or.inl h1)
        · exact Or.inl (Or.inr h1)
        · exact Or.inr h1
theorem mem_dd (l : List ByteArray) (x : ByteArray) : x ∈ dd l ↔ x ∈ l := by
  unfold dd; rw [fold_mem]; simp

theorem fold_len (l : List ByteArray) : ∀ acc : List ByteArray, (l.foldl add acc).length ≤ acc.length + l.length := by
  induction l with
  | nil => intro acc; simp
  | cons a r ih =>
    intro acc
    rw [List.foldl_cons]
    have h := ih (add acc a)
    have h2 : (add acc a).length ≤ acc.length + 1 := by rcases add_cases acc a with ⟨_, e⟩ | ⟨_, e⟩ <;> rw [e] <;> simp
    simp only [List.length_cons]
    omega
theorem dd_len (l : List ByteArray) : (dd l).length ≤ l.length := by
  have := fold_len l []
  simpa [dd] using this
theorem dd_len_take (l : List ByteArray) (k : Nat) : (dd (l.take k)).length ≤ k := Nat.le_trans (dd_len _) (List.length_take_le _ _)

theorem fold_nodup (l : List ByteArray) : ∀ acc : List ByteArray, acc.Nodup → (l.foldl add acc).Nodup := by
  induction l with
  | nil => intro acc h; exact h
  | cons a r ih =>
    intro acc h
    rw [List.foldl_cons]
    refine ih _ ?_
    rcases add_cases acc a with ⟨hn, e⟩ | ⟨hn, e⟩ <;> rw [e]
    · exact h
    · refine List.nodup_append.2 ⟨h, by simp, ?_⟩
      intro x hx y hy
      simp only [List.mem_singleton] at hy
      subst hy
      intro e
      subst e
      exact hn hx
theorem dd_nodup (l : List ByteArray) : (dd l).Nodup := fold_nodup l [] List.nodup_nil

theorem fold_id (l : List ByteArray) : ∀ acc : List ByteArray, (acc ++ l).Nodup → l.foldl add acc = acc ++ l := by
  induction l with
  | nil => intro acc _; simp
  | cons a r ih =>
    intro acc h
    rw [List.foldl_cons]
    have hn : ¬ a ∈ acc := fun ha => (List.nodup_append.1 h).2.2 a ha a (by simp) rfl
    have e : add acc a = acc ++ [a] := add_out hn
    rw [e, ih (acc ++ [a]) (by simpa using h)]
    simp
/-- Once is enough. -/
theorem dd_dd (l : List ByteArray) : dd (dd l) = dd l := by
  have := fold_id (dd l) [] (by simpa using dd_nodup l)
  simpa [dd] using this

theorem fold_head (l : List ByteArray) : ∀ (x : ByteArray) (acc : List ByteArray), ∃ r, l.foldl add (x :: acc) = x :: r := by
  induction l with
  | nil => intro x acc; exact ⟨acc, rfl⟩
  | cons a r ih =>
    intro x acc
    rw [List.foldl_cons]
    rcases add_cases (x :: acc) a with ⟨_, e⟩ | ⟨_, e⟩ <;> rw [e]
    · exact ih x acc
    · exact ih x (acc ++ [a])
/-- The first name comes first. -/
theorem dd_head (x : ByteArray) (r : List ByteArray) : ∃ r', dd (x :: r) = x :: r' := by
  unfold dd
  rw [List.foldl_cons]
  have e : add [] x = [x] := add_out (by simp)
  rw [e]
  exact fold_head r x []
theorem dd_ne {l : List ByteArray} (h : l ≠ []) : dd l ≠ [] := by
  cases l with
  | nil => exact absurd rfl h
  | cons x r => obtain ⟨r', e⟩ := dd_head x r; rw [e]; simp
theorem dd_at {l : List ByteArray} (h : l ≠ []) : (dd l).getD 0 ByteArray.empty = l.getD 0 ByteArray.empty := by
  cases l with
  | nil => exact absurd rfl h
  | cons x r => obtain ⟨r', e⟩ := dd_head x r; rw [e]; rfl

/-- The set as the map holds it. -/
def ents (l : List ByteArray) : List (ByteArray × Unit) := l.map (fun x => (x, ()))
theorem ents_in {x : ByteArray} : ∀ {l : List ByteArray}, x ∈ l → get (ents l) x = some ()
  | a :: r, h => by
    show get ((a, ()) :: ents r) x = _
    rw [get_cons]
    by_cases e : a = x
    · rw [if_pos e]
    · rw [if_neg e]
      rcases List.mem_cons.1 h with h | h
      · exact absurd h.symm e
      · exact ents_in h
theorem ents_out {x : ByteArray} : ∀ {l : List ByteArray}, ¬ x ∈ l → get (ents l) x = none
  | [], _ => rfl
  | a :: r, h => by
    show get ((a, ()) :: ents r) x = _
    rw [get_cons, if_neg (fun e : a = x => h (by rw [e]; exact List.mem_cons_self))]
    exact ents_out (fun hr => h (List.mem_cons_of_mem _ hr))
theorem ents_put {l : List ByteArray} {x : ByteArray} (h : ¬ x ∈ l) : put (ents l) x () = ents (l ++ [x]) := by
  have hi : idx (ents l) x = none := by
    cases hi : idx (ents l) x with
    | none => rfl
    | some i =>
      obtain ⟨v, h1, _⟩ := idx_some hi
      have := List.mem_of_getElem? h1
      simp [ents] at this
      exact absurd this h
  rw [put_none hi]
  simp [ents]

/-- A slice value that reads as l. -/
def reads (w : World) (v : Value) (l : List ByteArray) : Prop :=
  ∃ ao cap, v = .slice ao l.length cap ∧ (l ≠ [] → ∃ b off, ao = some ⟨b, off, none⟩ ∧ b < w.heap.size ∧ ∀ j, j < l.length → w.cell? ⟨b, off + j, none⟩ = some (.string (l.getD j ByteArray.empty)))

theorem reads_below {w w' : World} {v : Value} {l : List ByteArray} (h : reads w v l) (hb : RowKit.Below w.heap.size w w') : reads w' v l := by
  obtain ⟨ao, cap, rfl, h1⟩ := h
  refine ⟨ao, cap, rfl, fun hl => ?_⟩
  obtain ⟨b, off, rfl, hlt, hc⟩ := h1 hl
  exact ⟨b, off, rfl, Nat.lt_of_lt_of_le hlt hb.size, fun j hj => (hb.cell (p := ⟨b, off + j, none⟩) hlt).trans (hc j hj)⟩

theorem reads_row {w : World} {base e : Nat} {v : Value} {l : List ByteArray} (h : w.ownsRow base e 1 v l.length (l.map Value.string)) : reads w v l := by
  have hlt := h.lt
  obtain ⟨hx, h0⟩ := h
  rcases h0 with ⟨rfl, h0⟩ | ⟨g, cap, cur, rfl, hg, hh, h1, h2, h3, h4⟩
  · refine ⟨none, 0, by rw [h0], fun hl => ?_⟩
    exact absurd (List.eq_nil_of_length_eq_zero h0) hl
  · refine ⟨_, cap, rfl, fun _ => ⟨g, 0, rfl, (hlt g rfl).2, fun j hj => ?_⟩⟩
    have hown : w.ownsRow base e 1 (.slice (some ⟨g, 0, none⟩) l.length cap) l.length (l.map Value.string) := ⟨hx, Or.inr ⟨g, cap, cur, rfl, hg, hh, h1, h2, h3, h4⟩⟩
    rw [Nat.zero_add, hown.cellAt j (by omega)]
    simp [List.getElem?_eq_getElem hj]

end Go.Proofs.Ybulkadgu
