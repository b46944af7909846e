/-
  WHAT LawS1470AReopened (3) LAYS IN MEMORY.
-/
import Derived.Test.YbulkadkoReopened
import Derived.Laws.MakeOwn
import Derived.Laws.IdiomCopy
import Derived.Laws.Rows
namespace Go.Proofs.Ybulkadko
open Go.RowKit
set_option linter.unusedVariables false
set_option linter.unusedSimpArgs false

/-- The given steps' cells. -/
def laidE (w : World) (b off : Nat) (E : List (Bool × Int)) : Prop :=
  ∀ j e, E[j]? = some e → w.cell? ⟨b, off + j * 2, none⟩ = some (.bool e.1) ∧ w.cell? ⟨b, off + j * 2 + 1, none⟩ = some (.int .u8 e.2) ∧ (0 ≤ e.2 ∧ e.2 ≤ 255)

theorem info45 : (Yba.prog.info? 45).map (fun i => (i.zero, i.size, i.bytes)) = some (some (.agg #[.string ⟨#[]⟩, .string ⟨#[]⟩, .int .i64 0, .slice none 0 0, .string ⟨#[]⟩, .string ⟨#[]⟩, .string ⟨#[]⟩]), 7, 112) := by kernel_rfl
theorem info77 : (Yba.prog.info? 77).map (fun i => (i.zero.isSome, decide (i.bytes ≤ 100000))) = some (true, true) := by kernel_rfl

theorem make41 (l : Int) (h0 : 0 ≤ l) (h1 : l ≤ 255) : ∃ O, ∀ W : World, (Instr.makeSlice 41 (.int .i64 l) (.int .i64 l)).run Yba.prog W = .ok (.slice (some ⟨W.heap.size, 0, none⟩) l.toNat l.toNat) (W.alloc O) := by
  have h := info77
  cases hi : Yba.prog.info? 77 with
  | none => rw [hi] at h; simp at h
  | some i =>
    rw [hi] at h
    simp at h
    obtain ⟨hz, hb⟩ := h
    cases hz' : i.zero with
    | none => rw [hz'] at hz; simp at hz
    | some z =>
      refine ⟨_, fun W => run_make W 41 77 i z Yba.underlying41 hi hz' .i64 .i64 l l h0 (Int.le_refl _) ?_ (by omega)⟩
      have h2 : (i.bytes : Int) * l ≤ 100000 * 255 := Int.mul_le_mul (by omega) h1 h0 (by omega)
      omega
theorem make30 (n : Nat) (h1 : n ≤ 1024) : ∃ cur : Array Value, cur.size = n * 7 ∧ ∀ W : World, (Instr.makeSlice 30 (.int .i64 n) (.int .i64 n)).run Yba.prog W = .ok (.slice (some ⟨W.heap.size, 0, none⟩) n n) (W.alloc (.cells cur 45)) := by
  obtain ⟨i, hi, hz0, hz1, hz2⟩ := info_parts info45
  refine ⟨madeCells (Value.agg #[.string ⟨#[]⟩, .string ⟨#[]⟩, .int .i64 0, .slice none 0 0, .string ⟨#[]⟩, .string ⟨#[]⟩, .string ⟨#[]⟩]).cells (n * 7), size_madeCells _ _, fun W => ?_⟩
  have h := run_make W 30 45 i _ Yba.underlying30 hi hz0 .i64 .i64 n n (by omega) (Int.le_refl _) (by rw [hz2]; omega) (by omega)
  rw [hz1] at h
  exact h

/-- The item's cells. -/
def itemArr (st : ByteArray) (g n : Nat) : Array Value := #[.string ⟨#[]⟩, .string ⟨#[]⟩, .string st, .bool false, .int .i64 0, .string ⟨#[]⟩, .string ⟨#[]⟩, .int .u64 0, .int .i64 0, .pointer none, .pointer none, .slice (some ⟨g, 0, none⟩) n n, .slice none 0 0, .string ⟨#[]⟩, .bool false, .slice none 0 0]

/-- What lies in memory while the steps are laid. -/
structure L1 (w wr : World) (st : ByteArray) (E : List (Bool × Int)) (D : List D1) : Prop where
  it : wr.heap[w.heap.size]? = some (.cells (itemArr st (w.heap.size + 1) E.length) 36 (0, 0))
  row : ∃ cur, wr.heap[w.heap.size + 1]? = some (.cells cur 45 (0, 0)) ∧ cur.size = E.length * 7
  laid : Laid wr (w.heap.size + 1) D
  fl : D.map (·.1) = (E.take D.length).map (·.1)
  ap : D.map (·.2.2) = (E.take D.length).map (fun e => (e.2 % 8).toNat)
  le : D.length ≤ E.length
  below : Below w.heap.size w wr
  size : w.heap.size + 2 ≤ wr.heap.size

theorem L1.start (w : World) (st : ByteArray) (E : List (Bool × Int)) (cur : Array Value) (hc : cur.size = E.length * 7) :
    L1 w ((w.alloc (.cells (itemArr st (w.heap.size + 1) E.length) 36)).alloc (.cells cur 45)) st E [] := by
  have e : (w.alloc (.cells (itemArr st (w.heap.size + 1) E.length) 36)).heap.size = w.heap.size + 1 := by simp
  refine ⟨?_, ⟨cur, ?_, hc⟩, fun j d hd => by simp at hd, rfl, rfl, Nat.zero_le _, ?_, ?_⟩
  · rw [(MapKept.heap_alloc _ _).2 _ (by rw [e]; omega)]
    exact (MapKept.heap_alloc w _).1
  · have h := (MapKept.heap_alloc (w.alloc (.cells (itemArr st (w.heap.size + 1) E.length) 36)) (.cells cur 45)).1
    rw [e] at h
    exact h
  · exact ((Below.refl _ _).alloc (Nat.le_refl _) _).alloc (by rw [e]; omega) _
  · simp

theorem setCells_row (g : Nat) (t : TypeId) : ∀ (vs : List Value) (o : Nat) (W : World) (cur : Array Value), W.heap[g]? = some (.cells cur t (0, 0)) → ∃ cur' : Array Value, (W.setCells g o vs).heap[g]? = some (.cells cur' t (0, 0)) ∧ cur'.size = cur.size
  | [], o, W, cur, hg => ⟨cur, hg, rfl⟩
  | v :: vs, o, W, cur, hg => by
    obtain ⟨c, h1, h2⟩ := setCells_row g t vs (o + 1) (W.setCell ⟨g, o, none⟩ v) _ (heap_setCell_same W g o cur t v hg)
    exact ⟨c, h1, by rw [h2]; simp⟩
theorem setCells_other (g : Nat) : ∀ (vs : List Value) (o : Nat) (W : World) (k : Nat), k ≠ g → (W.setCells g o vs).heap[k]? = W.heap[k]? ∧ (W.setCells g o vs).heap.size = W.heap.size
  | [], o, W, k, _ => ⟨rfl, rfl⟩
  | v :: vs, o, W, k, hk => by
    obtain ⟨h1, h2⟩ := setCells_other g vs (o + 1) (W.setCell ⟨g, o, none⟩ v) k hk
    exact ⟨h1.trans (heap_setCell_other W ⟨g, o, none⟩ k v hk), h2.trans (by simp)⟩
theorem setCells_below {B g : Nat} {a : World} (hB : B ≤ g) : ∀ (vs : List Value) (o : Nat) (W : World), Below B a W → Below B a (W.setCells g o vs)
  | [], o, W, h => h
  | v :: vs, o, W, h => setCells_below hB vs (o + 1) _ (h.setCell (p := ⟨g, o, none⟩) hB v)
theorem drewN_heap (w : World) : ∀ n, (w.drewN n).heap = w.heap
  | 0 => rfl
  | n + 1 => drewN_heap w n
theorem below_drewN {B : Nat} {a w : World} (h : Below B a w) : ∀ n, Below B a (w.drewN n)
  | 0 => h
  | n + 1 => (below_drewN h n).drew

theorem row_cell {w : World} {g n k : Nat} {cur : Array Value} (hg : w.heap[g]? = some (.cells cur 45 (0, 0))) (hcs : cur.size = n * 7) (hn : k < n) (i : Nat) (hi : i < 7) : ∃ v, w.cell? ⟨g, k * 7 + i, none⟩ = some v := by
  have h : k * 7 + i < cur.size := by omega
  exact ⟨cur[k * 7 + i], by simp [World.cell?, hg, h]⟩

theorem L1.step {w wr : World} {st : ByteArray} {E : List (Bool × Int)} {D : List D1} (h : L1 w wr st E D) {b : Bool} {q : Int} (he : E[D.length]? = some (b, q)) (ao : Option Addr) :
    L1 w (wr.setCells (w.heap.size + 1) (D.length * 7) [.string ⟨#[115]⟩, .string (stat b), .int .i64 1, .slice ao (q % 8).toNat (q % 8).toNat, .string ⟨#[]⟩, .string ⟨#[]⟩, .string ⟨#[]⟩]) st E (D ++ [(b, ao, (q % 8).toNat)]) := by
  have hlt : D.length < E.length := (List.getElem?_eq_some_iff.1 he).1
  obtain ⟨cur, hcur, hcs⟩ := h.row
  have hsz := h.size
  have hcurW := hcur
  have hbW := h.below
  have hlW := h.laid
  generalize hvs : [Value.string ⟨#[115]⟩, .string (stat b), .int .i64 1, .slice ao (q % 8).toNat (q % 8).toNat, .string ⟨#[]⟩, .string ⟨#[]⟩, .string ⟨#[]⟩] = vs
  have hvl : vs.length = 7 := by rw [← hvs]; rfl
  have hin := World.cell?_setCells_in (w.heap.size + 1) vs (D.length * 7) wr (fun j hj => by
    obtain ⟨v, hv⟩ := row_cell hcurW hcs hlt j (by omega)
    rw [hv]; rfl)
  have hout : ∀ o, o < D.length * 7 → (wr.setCells (w.heap.size + 1) (D.length * 7) vs).cell? ⟨w.heap.size + 1, o, none⟩ = wr.cell? ⟨w.heap.size + 1, o, none⟩ := fun o ho => World.cell?_setCells_out _ vs _ _ _ (fun _ _ => Or.inl ho)
  refine ⟨?_, ?_, ?_, ?_, ?_, by simp; omega, setCells_below (by omega) vs _ wr hbW, ?_⟩
  · rw [(setCells_other _ vs _ wr _ (by omega)).1]; exact h.it
  · obtain ⟨c, h1, h2⟩ := setCells_row _ 45 vs (D.length * 7) wr cur hcurW
    exact ⟨c, h1, h2.trans hcs⟩
  · intro j d hd
    by_cases hj : j < D.length
    · rw [List.getElem?_append_left hj] at hd
      rw [hout _ (by omega), hout _ (by omega), hout _ (by omega), hout _ (by omega), hout _ (by omega), hout _ (by omega), hout _ (by omega)]
      exact hlW j d hd
    · have hjl := (List.getElem?_eq_some_iff.1 hd).1
      simp at hjl
      obtain rfl : j = D.length := by omega
      simp at hd
      subst hd
      subst hvs
      exact ⟨hin 0 (by simp), hin 1 (by simp), hin 2 (by simp), hin 3 (by simp), hin 4 (by simp), hin 5 (by simp), hin 6 (by simp)⟩
  · have e : (D ++ [(b, ao, (q % 8).toNat)]).length = D.length + 1 := by simp
    rw [e, List.take_add_one, he, List.map_append, List.map_append, h.fl]
    simp
  · have e : (D ++ [(b, ao, (q % 8).toNat)]).length = D.length + 1 := by simp
    rw [e, List.take_add_one, he, List.map_append, List.map_append, h.ap]
    simp
  · rw [(setCells_other (w.heap.size + 1) vs _ wr 0 (by omega)).2]; omega

theorem L1.alloc {w wr : World} {st : ByteArray} {E : List (Bool × Int)} {D : List D1} (h : L1 w wr st E D) (O : Obj) : L1 w (wr.alloc O) st E D := by
  have hsz := h.size
  have hh : ∀ k, k < wr.heap.size → (wr.alloc O).heap[k]? = wr.heap[k]? := (MapKept.heap_alloc wr O).2
  obtain ⟨cur, hcur, hcs⟩ := h.row
  exact ⟨(hh _ (by omega)).trans h.it, ⟨cur, (hh _ (by omega)).trans hcur, hcs⟩, laid_kept h.laid (hh _ (by omega)), h.fl, h.ap, h.le, h.below.alloc h.below.size O, by simp; omega⟩
theorem L1.drew {w wr : World} {st : ByteArray} {E : List (Bool × Int)} {D : List D1} (h : L1 w wr st E D) : L1 w wr.drew st E D :=
  ⟨h.it, h.row, laid_kept h.laid rfl, h.fl, h.ap, h.le, h.below.drew, h.size⟩

theorem L1.flag {w wr : World} {st : ByteArray} {E : List (Bool × Int)} {D : List D1} (h : L1 w wr st E D) (hl : D.length = E.length) : D.map (·.1) = E.map (·.1) := by
  rw [h.fl, hl, List.take_length]
theorem L1.at {w wr : World} {st : ByteArray} {E : List (Bool × Int)} {D : List D1} (h : L1 w wr st E D) (hl : D.length = E.length) {j : Nat} {e : Bool × Int} (he : E[j]? = some e) : ∃ d, D[j]? = some d ∧ d.2.2 = (e.2 % 8).toNat := by
  have hj := (List.getElem?_eq_some_iff.1 he).1
  have h1 : (D.map (·.2.2))[j]? = some (e.2 % 8).toNat := by rw [h.ap, hl, List.take_length, List.getElem?_map, he]; rfl
  rw [List.getElem?_map] at h1
  cases hd : D[j]? with
  | none => rw [hd] at h1; simp at h1
  | some d => rw [hd] at h1; simp at h1; exact ⟨d, rfl, h1⟩
theorem L1.seven {w wr : World} {st : ByteArray} {E : List (Bool × Int)} {D : List D1} (h : L1 w wr st E D) : ∀ d ∈ D, d.2.2 ≤ 7 := by
  intro d hd
  have : d.2.2 ∈ D.map (·.2.2) := List.mem_map.2 ⟨d, hd, rfl⟩
  rw [h.ap] at this
  obtain ⟨e, _, he⟩ := List.mem_map.1 this
  have : e.2 % 8 < 8 := Int.emod_lt_of_pos _ (by omega)
  omega

end Go.Proofs.Ybulkadko
