/-
  A MAP AS AN ASSOCIATION LIST. The block of a map holds its entries in the order in which their keys came; a store at a key that is there turns the element in its place, at a new key it goes to the end; a delete takes the entry out. 'tab w b f g T': block b is a map whose entries are T, keys by f, elements by g. No Go text here; nothing but the model's own runs of look-up, store, delete, len.
-/
import Derived.Maps.OwnSet
namespace Go.Tab
open Go.ChangeMaps (setBlock heap_setBlock_same heap_setBlock_other)
set_option linter.unusedSectionVars false

section
variable {α β : Type} [DecidableEq α]

def idx (T : List (α × β)) (x : α) : Option Nat := T.findIdx? (fun p => decide (p.1 = x))
def get (T : List (α × β)) (x : α) : Option β := (T.find? (fun p => decide (p.1 = x))).map (·.2)
def put (T : List (α × β)) (x : α) (v : β) : List (α × β) :=
  match idx T x with
  | some i => T.set i (x, v)
  | none => T ++ [(x, v)]
def del (T : List (α × β)) (x : α) : List (α × β) :=
  match idx T x with
  | some i => T.eraseIdx i
  | none => T

theorem idx_nil (x : α) : idx ([] : List (α × β)) x = none := rfl
theorem get_nil (x : α) : get ([] : List (α × β)) x = none := rfl
theorem idx_cons (p : α × β) (T : List (α × β)) (x : α) : idx (p :: T) x = if p.1 = x then some 0 else (idx T x).map (· + 1) := by
  unfold idx
  rw [List.findIdx?_cons]
  by_cases h : p.1 = x <;> simp [h]
theorem get_cons (p : α × β) (T : List (α × β)) (x : α) : get (p :: T) x = if p.1 = x then some p.2 else get T x := by
  unfold get
  rw [List.find?_cons]
  by_cases h : p.1 = x <;> simp [h]

theorem idx_some : ∀ {T : List (α × β)} {x : α} {i : Nat}, idx T x = some i → ∃ v, T[i]? = some (x, v) ∧ get T x = some v
  | [], x, i, h => by simp [idx_nil] at h
  | p :: T, x, i, h => by
    rw [idx_cons] at h
    rw [get_cons]
    by_cases e : p.1 = x
    · rw [if_pos e] at h
      cases h
      obtain ⟨a, v⟩ := p
      simp only at e
      subst e
      exact ⟨v, rfl, by simp⟩
    · rw [if_neg e] at h
      rw [if_neg e]
      cases hi : idx T x with
      | none => rw [hi] at h; cases h
      | some j =>
        rw [hi] at h
        simp at h
        subst h
        obtain ⟨v, h1, h2⟩ := idx_some hi
        exact ⟨v, by simpa using h1, h2⟩

theorem idx_none : ∀ {T : List (α × β)} {x : α}, idx T x = none → get T x = none ∧ ∀ p ∈ T, p.1 ≠ x
  | [], x, _ => ⟨rfl, by simp⟩
  | p :: T, x, h => by
    rw [idx_cons] at h
    rw [get_cons]
    by_cases e : p.1 = x
    · rw [if_pos e] at h; cases h
    · rw [if_neg e] at h
      rw [if_neg e]
      have h' : idx T x = none := by
        cases hi : idx T x with
        | none => rfl
        | some j => rw [hi] at h; cases h
      obtain ⟨h1, h2⟩ := idx_none h'
      refine ⟨h1, fun q hq => ?_⟩
      rcases List.mem_cons.1 hq with rfl | hq
      · exact e
      · exact h2 q hq

theorem idx_lt {T : List (α × β)} {x : α} {i : Nat} (h : idx T x = some i) : i < T.length := by
  obtain ⟨v, h1, _⟩ := idx_some h
  exact (List.getElem?_eq_some_iff.1 h1).1

theorem put_some {T : List (α × β)} {x : α} {i : Nat} (h : idx T x = some i) (v : β) : put T x v = T.set i (x, v) := by
  unfold put; rw [h]
theorem put_none {T : List (α × β)} {x : α} (h : idx T x = none) (v : β) : put T x v = T ++ [(x, v)] := by
  unfold put; rw [h]
theorem del_some {T : List (α × β)} {x : α} {i : Nat} (h : idx T x = some i) : del T x = T.eraseIdx i := by
  unfold del; rw [h]
theorem del_none {T : List (α × β)} {x : α} (h : idx T x = none) : del T x = T := by
  unfold del; rw [h]

theorem erase_map {γ δ : Type} (h : γ → δ) : ∀ (l : List γ) (i : Nat), (l.map h).eraseIdx i = (l.eraseIdx i).map h
  | [], i => by simp
  | a :: l, 0 => by simp
  | a :: l, i + 1 => by simp [erase_map h l i]

/-- WHAT THE LAWS BELOW NEED OF THE KEYS: those x with 'ok x' stand as 'f x' and are told apart. -/
structure Keys (P : Program) (k : TypeId) (f : α → Value) (ok : α → Prop) : Prop where
  check : ∀ (w : World) (em : Bool) (x : α), ok x → (Instr.checkKey em 10000 k (f x)).run P w = .ok () w
  find : ∀ (w : World) (x : α) (es : List MapEntry) (T : List α), ok x → (∀ y ∈ T, ok y) → es.map (·.key) = T.map f →
    (Instr.findKey k (f x) es).run P w = .ok ((T.findIdx? (fun y => decide (y = x))).bind (fun i => es[i]?.map (fun e => (i, e.val)))) w
  stays : ∀ (x : α), ok x → Instr.sameBits 10000 (f x) (f x) = true

/-- Block b of w is a map with the entries T. -/
def tab (w : World) (b : Nat) (f : α → Value) (g : β → Value) (T : List (α × β)) : Prop :=
  ∃ es clock, w.heap[b]? = some (.map es clock) ∧ es.toList.map (fun e => (e.key, e.val)) = T.map (fun p => (f p.1, g p.2))

variable {P : Program} {k t e : TypeId} {f : α → Value} {g : β → Value} {ok : α → Prop} {w : World} {b : Nat} {T : List (α × β)}

theorem tab_made (w : World) (f : α → Value) (g : β → Value) : tab (w.alloc (.map #[] 0)) w.heap.size f g [] :=
  ⟨#[], 0, (MapKept.heap_alloc w _).1, rfl⟩

theorem tab.lt (h : tab w b f g T) : b < w.heap.size := by
  obtain ⟨es, clock, hb, _⟩ := h
  exact (Array.getElem?_eq_some_iff.1 hb).1

theorem tab.of_block {w' : World} (h : tab w b f g T) (hb : w'.heap[b]? = w.heap[b]?) : tab w' b f g T := by
  obtain ⟨es, clock, h1, h2⟩ := h
  exact ⟨es, clock, hb.trans h1, h2⟩

theorem tab.kept {w' : World} {row : Option Nat} (h : tab w b f g T) (hg : w.grownBy w' row) (hne : some b ≠ row) : tab w' b f g T :=
  h.of_block (hg.block b h.lt hne)

theorem tab.alloc (h : tab w b f g T) (o : Obj) : tab (w.alloc o) b f g T := h.kept (World.grownBy_alloc w o none) (by simp)
theorem tab.drew (h : tab w b f g T) : tab w.drew b f g T := h
theorem tab.setCell (h : tab w b f g T) {a : Addr} (ha : b ≠ a.block) (u : Value) : tab (w.setCell a u) b f g T :=
  h.of_block (RowKit.Below.heap_setCell _ _ _ _ ha)

/-- The find's answer, in the list's words. -/
theorem find_run (K : Keys P k f ok) (hT : ∀ p ∈ T, ok p.1) {x : α} (hx : ok x) {es : Array MapEntry} (he : es.toList.map (fun e => (e.key, e.val)) = T.map (fun p => (f p.1, g p.2))) (w : World) :
    (Instr.findKey k (f x) es.toList).run P w = .ok ((idx T x).bind (fun i => T[i]?.map (fun p => (i, g p.2)))) w := by
  have h1 : es.toList.map (·.key) = (T.map (·.1)).map f := by
    have := congrArg (List.map Prod.fst) he
    simpa [List.map_map, Function.comp_def] using this
  rw [K.find w x es.toList (T.map (·.1)) hx (by simpa using fun a b h => hT (a, b) h) h1]
  have h2 : (T.map (·.1)).findIdx? (fun y => decide (y = x)) = idx T x := by
    unfold idx
    rw [List.findIdx?_map]
    rfl
  rw [h2]
  congr 1
  cases hi : idx T x with
  | none => rfl
  | some i =>
    simp only [Option.bind_some]
    have h3 := congrArg (fun l => l[i]?) he
    simp only [List.getElem?_map] at h3
    cases hE : es.toList[i]? with
    | none =>
      rw [hE] at h3
      cases hTi : T[i]? with
      | none => rfl
      | some p => rw [hTi] at h3; cases h3
    | some e0 =>
      rw [hE] at h3
      cases hTi : T[i]? with
      | none => rw [hTi] at h3; cases h3
      | some p =>
        rw [hTi] at h3
        simp at h3
        simp [h3.2]

theorem tab.look (h : tab w b f g T) (K : Keys P k f ok) (hT : ∀ p ∈ T, ok p.1) (ht : P.underlying t = some (.map k e)) {x : α} (hx : ok x) {z : Value} (hz : (zeroValue e).run P w = .ok z w) (c : Bool) :
    (Instr.lookup t (.map (some b)) (f x) c).run P w = .ok (if c then .tuple #[(get T x).elim z g, .bool (get T x).isSome] else (get T x).elim z g) w := by
  obtain ⟨es, clock, hb, he⟩ := h
  have hf := find_run (g := g) K hT hx he w
  cases hi : idx T x with
  | none =>
    rw [hi] at hf
    have hg := (idx_none hi).1
    simp [Instr.lookup, run_underlying ht, MapKept.run_getObj_map hb, K.check w _ x hx, hf, hz, Result.andThen, hg]
  | some i =>
    obtain ⟨v, h1, h2⟩ := idx_some hi
    rw [hi] at hf
    simp [h1] at hf
    simp [Instr.lookup, run_underlying ht, MapKept.run_getObj_map hb, K.check w _ x hx, hf, Result.andThen, h2]

theorem tab.store (h : tab w b f g T) (K : Keys P k f ok) (hT : ∀ p ∈ T, ok p.1) (ht : P.underlying t = some (.map k e)) {x : α} (hx : ok x) (v : β) :
    ∃ w', (Instr.mapUpdate t (.map (some b)) (f x) (g v)).run P w = .ok () w' ∧ tab w' b f g (put T x v) ∧ w.mapTurned w' b := by
  obtain ⟨es, clock, hb, he⟩ := h
  have hf := find_run (g := g) K hT hx he w
  cases hi : idx T x with
  | none =>
    rw [hi] at hf
    simp only [Option.bind_none] at hf
    refine ⟨setBlock w b (.map (es.push ⟨f x, g v, clock⟩) (clock + 1)), ?_, ⟨_, _, heap_setBlock_same hb _, ?_⟩, ⟨es, clock, _, _, hb, rfl⟩⟩
    · simp [Instr.mapUpdate, run_underlying ht, MapKept.run_getObj_map hb, K.check w false x hx, hf, MapKept.run_setObj_map _ hb, Result.andThen, setBlock]
    · rw [put_none hi]
      simp [he]
  | some i =>
    obtain ⟨v0, h1, h2⟩ := idx_some hi
    rw [hi] at hf
    simp [h1] at hf
    have h3 := congrArg (fun l => l[i]?) he
    simp only [List.getElem?_map, h1, Option.map_some] at h3
    have hkey : ∃ e0, es[i]? = some e0 ∧ e0.key = f x := by
      cases hE : es.toList[i]? with
      | none => rw [hE] at h3; cases h3
      | some e0 =>
        rw [hE] at h3
        simp at h3
        exact ⟨e0, by simpa using hE, h3.1⟩
    obtain ⟨e0, hE, hk0⟩ := hkey
    have hst : (Instr.keyThatStays (f x) (f x)).run P w = .ok (f x) w := by simp [Instr.keyThatStays, K.stays x hx]
    refine ⟨setBlock w b (.map (es.modify i fun e => { e with key := f x, val := g v }) clock), ?_, ⟨_, _, heap_setBlock_same hb _, ?_⟩, ⟨es, clock, _, _, hb, rfl⟩⟩
    · simp [Instr.mapUpdate, run_underlying ht, MapKept.run_getObj_map hb, K.check w false x hx, hf, hE, hk0, hst, MapKept.run_setObj_map _ hb, Result.andThen, setBlock]
    · rw [put_some hi]
      apply List.ext_getElem?
      intro j
      have h4 := congrArg (fun l => l[j]?) he
      simp only [List.getElem?_map] at h4
      simp only [List.getElem?_map, Array.getElem?_toList, Array.getElem?_modify, List.getElem?_set] at h4 ⊢
      by_cases hj : i = j
      · subst hj
        have hl := idx_lt hi
        simp [hE, hl]
      · simp [hj, h4]

theorem tab.drop (h : tab w b f g T) (K : Keys P k f ok) (hT : ∀ p ∈ T, ok p.1) (ht : P.underlying t = some (.map k e)) {x : α} (hx : ok x) (ty : TypeId) :
    ∃ w', (Builtin.delete_ #[t, k] ty #[.map (some b), f x]).run P w = .ok (.tuple #[]) w' ∧ tab w' b f g (del T x) ∧ w.mapTurned w' b := by
  obtain ⟨es, clock, hb, he⟩ := h
  have hf := find_run (g := g) K hT hx he w
  cases hi : idx T x with
  | none =>
    rw [hi] at hf
    simp only [Option.bind_none] at hf
    refine ⟨setBlock w b (.map es clock), ?_, ⟨_, _, heap_setBlock_same hb _, ?_⟩, ⟨es, clock, _, _, hb, rfl⟩⟩
    · simp [Builtin.delete_, run_underlying ht, MapKept.run_getObj_map hb, K.check w _ x hx, hf, MapKept.run_setObj_map _ hb, Result.andThen, setBlock]
    · rw [del_none hi]; exact he
  | some i =>
    obtain ⟨v0, h1, h2⟩ := idx_some hi
    rw [hi] at hf
    simp [h1] at hf
    refine ⟨setBlock w b (.map (es.eraseIdxIfInBounds i) clock), ?_, ⟨_, _, heap_setBlock_same hb _, ?_⟩, ⟨es, clock, _, _, hb, rfl⟩⟩
    · simp [Builtin.delete_, run_underlying ht, MapKept.run_getObj_map hb, K.check w _ x hx, hf, MapKept.run_setObj_map _ hb, Result.andThen, setBlock]
    · rw [del_some hi]
      have hl : es.size = T.length := by have := congrArg List.length he; simpa using this
      have hlt := idx_lt hi
      have e1 : (es.eraseIdxIfInBounds i).toList = es.toList.eraseIdx i := by
        unfold Array.eraseIdxIfInBounds
        rw [dif_pos (by omega)]
        simp
      rw [e1, ← erase_map, ← erase_map, he]

theorem tab.len (h : tab w b f g T) (ht : P.underlying t = some (.map k e)) (ty : TypeId) : (Builtin.len_ #[t] ty #[.map (some b)]).run P w = .ok (.int .i64 T.length) w := by
  obtain ⟨es, clock, hb, he⟩ := h
  have hl : es.size = T.length := by have := congrArg List.length he; simpa using this
  simp [Builtin.len_, run_underlying ht, MapKept.run_getObj_map hb, goInt, Result.andThen, hl]

end

/-! ### at the operation, for the walk -/
section
variable {α β : Type} [DecidableEq α]
variable {P : Program} (w : World) {ops : Array Oper} {rest : List Oper} {o : Oper} {a : Act} {Q : Exit → Act → World → Prop}

theorem wpList_lookup_hit (hg : o.guard = none) (m x : Operand) (t : TypeId) (c : Bool) (hop : o.op = Op.lookup t m x c)
    (k e : TypeId) {f : α → Value} {g : β → Value} {ok : α → Prop} (K : Keys P k f ok) (ht : P.underlying t = some (.map k e)) {z : Value} (hz : (zeroValue e).run P w = .ok z w) (b : Nat) {T : List (α × β)}
    (hm : a.eval m = .map (some b)) (hown : tab w b f g T) (hT : ∀ p ∈ T, ok p.1) (y : α) (hy : ok y) (hx : a.eval x = f y) (v : β) (hv : get T y = some v)
    (hK : wpList P ops Q rest (a.put o.dst (if c then .tuple #[g v, .bool true] else g v)) w) :
    wpList P ops Q (o :: rest) a w := by
  refine wpList_plain hg fun K' hK' => ?_
  have hrun := hown.look K hT ht hy hz c
  rw [hv] at hrun
  unfold Oper.wp
  simp only [Option.elim_some, Option.isSome_some] at hrun
  simp [execOp, hop, hm, hx, hrun, Result.andThen]
  exact hK' _ _ hK

theorem wpList_lookup_miss (hg : o.guard = none) (m x : Operand) (t : TypeId) (c : Bool) (hop : o.op = Op.lookup t m x c)
    (k e : TypeId) {f : α → Value} {g : β → Value} {ok : α → Prop} (K : Keys P k f ok) (ht : P.underlying t = some (.map k e)) {z : Value} (hz : (zeroValue e).run P w = .ok z w) (b : Nat) {T : List (α × β)}
    (hm : a.eval m = .map (some b)) (hown : tab w b f g T) (hT : ∀ p ∈ T, ok p.1) (y : α) (hy : ok y) (hx : a.eval x = f y) (hv : get T y = none)
    (hK : wpList P ops Q rest (a.put o.dst (if c then .tuple #[z, .bool false] else z)) w) :
    wpList P ops Q (o :: rest) a w := by
  refine wpList_plain hg fun K' hK' => ?_
  have hrun := hown.look K hT ht hy hz c
  rw [hv] at hrun
  unfold Oper.wp
  simp only [Option.elim_none, Option.isSome_none] at hrun
  simp [execOp, hop, hm, hx, hrun, Result.andThen]
  exact hK' _ _ hK

theorem wpList_store_tab (hg : o.guard = none) (m x v : Operand) (t : TypeId) (hop : o.op = Op.mapUpdate t m x v)
    (k e : TypeId) {f : α → Value} {g : β → Value} {ok : α → Prop} (K : Keys P k f ok) (ht : P.underlying t = some (.map k e)) (b : Nat) {T : List (α × β)}
    (hm : a.eval m = .map (some b)) (hown : tab w b f g T) (hT : ∀ p ∈ T, ok p.1) (y : α) (hy : ok y) (hx : a.eval x = f y) (u : β) (hv : a.eval v = g u)
    (hK : ∀ w', tab w' b f g (put T y u) → w.mapTurned w' b → wpList P ops Q rest (a.put o.dst undef) w') :
    wpList P ops Q (o :: rest) a w := by
  refine wpList_plain hg fun K' hK' => ?_
  obtain ⟨w', hrun, r1, r2⟩ := hown.store K hT ht hy u
  unfold Oper.wp
  simp [execOp, hop, hm, hx, hv, hrun, Result.andThen]
  exact hK' _ _ (hK w' r1 r2)

theorem wpList_delete_tab (hg : o.guard = none) (m x : Operand) (t k : TypeId) (hop : o.op = Op.call { callee := Callee.builtin Builtin.delete, args := #[m, x], argTypes := #[t, k] })
    (e : TypeId) {f : α → Value} {g : β → Value} {ok : α → Prop} (K : Keys P k f ok) (ht : P.underlying t = some (.map k e)) (b : Nat) {T : List (α × β)}
    (hm : a.eval m = .map (some b)) (hown : tab w b f g T) (hT : ∀ p ∈ T, ok p.1) (y : α) (hy : ok y) (hx : a.eval x = f y)
    (hK : ∀ w', tab w' b f g (del T y) → w.mapTurned w' b → wpList P ops Q rest (a.put o.dst (.tuple #[])) w') :
    wpList P ops Q (o :: rest) a w := by
  refine wpList_plain hg fun K' hK' => ?_
  obtain ⟨w', hrun, r1, r2⟩ := hown.drop K hT ht hy o.type
  unfold Oper.wp
  simp [execOp, hop, resolve, invoke, builtin, hm, hx, hrun, Result.andThen]
  exact hK' _ _ (hK w' r1 r2)

theorem wpList_len_tab (hg : o.guard = none) (m : Operand) (t : TypeId) (hop : o.op = Op.call { callee := Callee.builtin Builtin.len, args := #[m], argTypes := #[t] })
    (k e : TypeId) (ht : P.underlying t = some (.map k e)) {f : α → Value} {g : β → Value} (b : Nat) {T : List (α × β)} (hm : a.eval m = .map (some b)) (hown : tab w b f g T)
    (hK : wpList P ops Q rest (a.put o.dst (.int .i64 T.length)) w) :
    wpList P ops Q (o :: rest) a w := by
  refine wpList_plain hg fun K' hK' => ?_
  unfold Oper.wp
  simp [execOp, hop, resolve, invoke, builtin, hm, hown.len ht o.type, Result.andThen]
  exact hK' _ _ hK

end

/-- Keys of a string's kind. -/
theorem string_keys {P : Program} {k : TypeId} (hk : P.underlying k = some .string) : Keys P k Value.string (fun _ => True) where
  check w em x _ := MapKept.run_checkKey hk (show MapKept.IsKey .string (.string x) from trivial) em 9999
  find w x es T _ _ h := by
    refine MapKept.run_findKey hk ?_
    have go : ∀ (T : List ByteArray) (es : List MapEntry) (i : Nat), es.map (·.key) = T.map Value.string →
        Instr.findNow .string (.string x) es i = some ((T.findIdx? (fun y => decide (y = x))).bind (fun j => es[j]?.map (fun e => (i + j, e.val)))) := by
      intro T
      induction T with
      | nil =>
        intro es i h
        cases es with
        | nil => rfl
        | cons e es => simp at h
      | cons y T ih =>
        intro es i h
        cases es with
        | nil => simp at h
        | cons e es =>
          simp only [List.map_cons, List.cons.injEq] at h
          obtain ⟨h1, h2⟩ := h
          rw [Instr.findNow, h1, List.findIdx?_cons]
          by_cases hxy : y = x
          · subst hxy
            have : (y == y) = true := (MapKept.bytes_beq y y).2 rfl
            simp [Instr.sameNow, this]
          · have : (x == y) = false := by
              cases hb : (x == y) with
              | false => rfl
              | true => exact absurd ((MapKept.bytes_beq x y).1 hb).symm hxy
            simp only [Instr.sameNow, this, hxy, decide_false]
            rw [ih es (i + 1) h2]
            congr 1
            cases T.findIdx? (fun y => decide (y = x)) with
            | none => rfl
            | some j => simp [Nat.add_assoc, Nat.add_comm 1 j]
    simpa using go T es 0 h
  stays x _ := by simp [Instr.sameBits, (MapKept.bytes_beq x x).2 rfl]

#print axioms string_keys
#print axioms wpList_store_tab
#print axioms wpList_delete_tab

end Go.Tab
