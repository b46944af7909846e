/-
  THE WALK OF (*queue).push (18): a ring that doubles when it is full. What lies in the ring is not said: that it is there, and that nothing else turns.
-/
import Derived.Test.YbulkadhwSteps
import Derived.Laws.CopyRow
import Derived.Laws.MakeOwn
import Derived.Laws.BitsAllLaws
import Derived.Laws.IdiomCopy
import Derived.Deep.QuietTactic
import Derived.BigQuiet
import Derived.BigRegion
namespace Go.Proofs.Ybulkadhw
open Go.RowKit Go.Tab
set_option linter.unusedVariables false

/-- A queue as the proof sees it: its block, its delay, its ring's block, the ring's length, how many events it holds. -/
structure QI where
  blk : Nat
  aft : Int
  ring : Option Nat
  len : Nat
  n : Nat

def ringv (q : QI) : Value := match q.ring with | none => .slice none 0 0 | some g => .slice (some ⟨g, 0, none⟩) q.len q.len

/-- The ring's length: nought, or a power of two from 64 on. -/
def P2 (L : Nat) : Prop := L = 0 ∨ ∃ e, 6 ≤ e ∧ L = 2 ^ e

structure QOk (base : Nat) (w : World) (q : QI) : Prop where
  cells : w.heap[q.blk]? = some (.cells #[.int .i64 q.aft, ringv q, .int .i64 0, .int .i64 q.n] 122 (0, 0))
  low : base ≤ q.blk
  le : q.n ≤ q.len
  p2 : P2 q.len
  small : q.len ≤ 2048
  none : q.ring = none → q.len = 0
  some : ∀ g, q.ring = some g → base ≤ g ∧ 0 < q.len ∧ ∃ cur, w.heap[g]? = some (.cells cur 104 (0, 0)) ∧ cur.size = q.len * 10 ∧ ∀ v ∈ cur.toList, v.oneCell' = true

/-- An event as push is handed it. -/
def evCells (a0 a1 : Int) (s : ByteArray) (c : Int) (t : Int) (d : Int) (st : Bool) : Array Value :=
  #[.int .i64 a0, .int .u64 a1, .string s, .string ⟨#[]⟩, .int .u8 c, .slice none 0 0, .iface 3 (.int .i64 t), .int .u64 0, .int .i64 d, .bool st]

/-- But for the blocks in S, what was there is as it was. -/
structure Kept (S : Nat → Prop) (w w' : World) : Prop where
  os : w'.os = w.os
  tape : w'.tape = w.tape
  output : w'.output = w.output
  size : w.heap.size ≤ w'.heap.size
  block : ∀ k, k < w.heap.size → ¬ S k → w'.heap[k]? = w.heap[k]?

theorem Kept.refl (S : Nat → Prop) (w : World) : Kept S w w := ⟨rfl, rfl, rfl, Nat.le_refl _, fun _ _ _ => rfl⟩
theorem Kept.trans {S : Nat → Prop} {a b c : World} (h : Kept S a b) (k : Kept S b c) : Kept S a c :=
  ⟨k.os.trans h.os, k.tape.trans h.tape, k.output.trans h.output, Nat.le_trans h.size k.size, fun i hi hS => (k.block i (Nat.lt_of_lt_of_le hi h.size) hS).trans (h.block i hi hS)⟩
/-- What the second step writes may be new to the first world. -/
theorem Kept.andThen {S S' : Nat → Prop} {a b c : World} (h : Kept S a b) (k : Kept S' b c) (hS : ∀ i, i < a.heap.size → S' i → S i) : Kept S a c :=
  ⟨k.os.trans h.os, k.tape.trans h.tape, k.output.trans h.output, Nat.le_trans h.size k.size, fun i hi hn => (k.block i (Nat.lt_of_lt_of_le hi h.size) (fun h' => hn (hS i hi h'))).trans (h.block i hi hn)⟩
theorem Kept.mono {S S' : Nat → Prop} {a b : World} (h : Kept S a b) (hS : ∀ i, i < a.heap.size → S i → S' i) : Kept S' a b :=
  ⟨h.os, h.tape, h.output, h.size, fun i hi hn => h.block i hi (fun h' => hn (hS i hi h'))⟩
theorem kept_alloc (S : Nat → Prop) (w : World) (o : Obj) : Kept S w (w.alloc o) := ⟨rfl, rfl, rfl, by simp, fun k hk _ => (MapKept.heap_alloc w o).2 k hk⟩
theorem kept_drew (S : Nat → Prop) (w : World) : Kept S w w.drew := ⟨rfl, rfl, rfl, Nat.le_refl _, fun _ _ _ => rfl⟩
theorem kept_drewN (S : Nat → Prop) (w : World) : ∀ n, Kept S w (w.drewN n)
  | 0 => Kept.refl S w
  | n + 1 => (kept_drewN S w n).trans (kept_drew S _)
theorem kept_set (w : World) (b j : Nat) (u : Value) : Kept (fun k => k = b) w (w.setCell ⟨b, j, none⟩ u) :=
  ⟨rfl, rfl, rfl, by simp, fun k _ hk => heap_setCell_other w ⟨b, j, none⟩ k u hk⟩
theorem Kept.grown {w w' : World} {row : Option Nat} (h : w.grownBy w' row) : Kept (fun k => some k = row) w w' := ⟨h.os, h.tape, h.output, h.size, fun k hk hn => h.block k hk hn⟩

theorem setCells_facts (g : Nat) (t : TypeId) : ∀ (vs : List Value) (o : Nat) (W : World) (cur : Array Value), W.heap[g]? = some (.cells cur t (0, 0)) → (∀ v ∈ vs, v.oneCell' = true) → (∀ v ∈ cur.toList, v.oneCell' = true) →
    ∃ cur' : Array Value, (W.setCells g o vs).heap[g]? = some (.cells cur' t (0, 0)) ∧ cur'.size = cur.size ∧ (∀ v ∈ cur'.toList, v.oneCell' = true) ∧ Kept (fun k => k = g) W (W.setCells g o vs)
  | [], o, W, cur, hg, _, hc => ⟨cur, hg, rfl, hc, Kept.refl _ _⟩
  | v :: vs, o, W, cur, hg, hv, hc => by
    have h1 := heap_setCell_same W g o cur t v hg
    have h2 : ∀ u ∈ (cur.setIfInBounds o v).toList, u.oneCell' = true := by
      intro u hu
      rw [Array.toList_setIfInBounds] at hu
      rcases List.mem_or_eq_of_mem_set hu with h | rfl
      · exact hc u h
      · exact hv _ (by simp)
    obtain ⟨cur', e1, e2, e3, e4⟩ := setCells_facts g t vs (o + 1) (W.setCell ⟨g, o, none⟩ v) _ h1 (fun u hu => hv u (by simp [hu])) h2
    exact ⟨cur', e1, by rw [e2]; simp, e3, (kept_set W g o v).trans e4⟩

/-- What push leaves. -/
def PushOk (base : Nat) (w : World) (q : QI) (w' : World) : Prop :=
  ∃ q' : QI, q'.blk = q.blk ∧ q'.aft = q.aft ∧ q'.n = q.n + 1 ∧ QOk base w' q' ∧ (q'.ring = q.ring ∨ ∃ g, q'.ring = some g ∧ w.heap.size ≤ g) ∧ Kept (fun k => k = q.blk ∨ some k = q.ring) w w'

/-- The event laid into the ring, and the count raised: from a world W that has kept w's blocks. -/
theorem laid_ok {base : Nat} {w W : World} {q : QI} {g L : Nat} {cur : Array Value} (vs : List Value) (o : Nat) (hvs : ∀ v ∈ vs, v.oneCell' = true)
    (hk : Kept (fun k => k = q.blk ∨ some k = q.ring) w W) (hq : W.heap[q.blk]? = some (.cells #[.int .i64 q.aft, .slice (some ⟨g, 0, none⟩) L L, .int .i64 0, .int .i64 q.n] 122 (0, 0)))
    (hg : W.heap[g]? = some (.cells cur 104 (0, 0))) (hcs : cur.size = L * 10) (hone : ∀ v ∈ cur.toList, v.oneCell' = true) (hn : q.n < L) (hL : L ≤ 2048) (hp : P2 L) (hb : base ≤ q.blk) (hbg : base ≤ g)
    (hr : q.ring = some g ∨ w.heap.size ≤ g) :
    PushOk base w q ((W.setCells g o vs).setCell ⟨q.blk, 3, none⟩ (.int .i64 ((q.n : Int) + 1))) := by
  have hgq : q.blk ≠ g := fun e => by rw [e, hg] at hq; simp at hq
  obtain ⟨cur', e1, e2, e3, e4⟩ := setCells_facts g 104 vs o W cur hg hvs hone
  have hqW : q.blk < W.heap.size := (Array.getElem?_eq_some_iff.1 hq).1
  have h1 := (e4.block q.blk hqW hgq).trans hq
  have h2 := heap_setCell_same _ q.blk 3 _ 122 (.int .i64 ((q.n : Int) + 1)) h1
  have h3 : ((W.setCells g o vs).setCell ⟨q.blk, 3, none⟩ (.int .i64 ((q.n : Int) + 1))).heap[g]? = some (.cells cur' 104 (0, 0)) := by
    rw [heap_setCell_other _ _ _ _ (fun e => hgq e.symm)]; exact e1
  refine ⟨⟨q.blk, q.aft, some g, L, q.n + 1⟩, rfl, rfl, rfl, ⟨?_, hb, by show q.n + 1 ≤ L; omega, hp, hL, (by intro h; cases h), ?_⟩, ?_, ?_⟩
  · rw [h2]; simp [ringv]
  · intro g' hg'
    cases hg'
    exact ⟨hbg, by show 0 < L; omega, cur', h3, by rw [e2, hcs], e3⟩
  · rcases hr with h | h
    · exact Or.inl h.symm
    · exact Or.inr ⟨g, rfl, h⟩
  · refine (hk.andThen e4 ?_).andThen (kept_set _ _ _ _) (fun i _ h => Or.inl h)
    intro i hi h
    rcases hr with h' | h'
    · exact Or.inr (by rw [h, h'])
    · omega

theorem ring_idx {n L : Nat} (h : P2 L) (hn : n < L) (hL : L ≤ 2048) : bits .and .i64 (n : Int) ((L : Int) - 1) = (n : Int) := by
  rcases h with h | ⟨e, _, rfl⟩
  · omega
  · have e1 : ((2 ^ e : Nat) : Int) - 1 = ((2 ^ e - 1 : Nat) : Int) := by omega
    rw [e1]
    show IntKind.i64.wrap ((BitVec.ofInt 64 (n : Int) &&& BitVec.ofInt 64 ((2 ^ e - 1 : Nat) : Int)).toNat : Int) = _
    rw [BitVec.toNat_and, ofInt_u64 n (by omega), ofInt_u64 (2 ^ e - 1) (by omega), Nat.and_two_pow_sub_one_eq_mod, Nat.mod_eq_of_lt hn]
    simp [IntKind.wrap, IntKind.bits, IntKind.signed]
    omega

theorem ring_cell {w : World} {g L n : Nat} {cur : Array Value} (hg : w.heap[g]? = some (.cells cur 104 (0, 0))) (hcs : cur.size = L * 10) (hn : n < L) (i : Nat) (hi : i < 10) : ∃ v, w.cell? ⟨g, n * 10 + i, none⟩ = some v := by
  have h : n * 10 + i < cur.size := by omega
  exact ⟨cur[n * 10 + i], by simp [World.cell?, hg, h]⟩

theorem ev_one (a0 a1 : Int) (s : ByteArray) (c t d : Int) (st : Bool) : ∀ v ∈ [Value.int .i64 a0, .int .u64 a1, .string s, .string ⟨#[]⟩, .int .u8 c, .slice none 0 0, .iface 3 (.int .i64 t), .int .u64 0, .int .i64 d, .bool st], v.oneCell' = true := by
  intro v hv
  simp at hv
  rcases hv with rfl | rfl | rfl | rfl | rfl | rfl | rfl | rfl | rfl | rfl <;> rfl
theorem at_old' {w : World} {k : Nat} {o : Obj} (h : w.heap[k]? = some o) (o' : Obj) : (w.alloc o').heap[k]? = some o := by
  rw [(MapKept.heap_alloc w o').2 k (Array.getElem?_eq_some_iff.1 h).1]; exact h
theorem drewN_block' {w : World} {k : Nat} {o : Obj} (h : w.heap[k]? = some o) : ∀ n, (w.drewN n).heap[k]? = some o
  | 0 => h
  | n + 1 => drewN_block' h n

set_option maxHeartbeats 1000000 in
set_option maxRecDepth 100000 in
theorem push_room (base bq g L n : Nat) (aft a0 a1 : Int) (s : ByteArray) (c t d : Int) (st : Bool) (cur : Array Value) (w : World)
    (hq : w.heap[bq]? = some (.cells #[.int .i64 aft, .slice (some ⟨g, 0, none⟩) L L, .int .i64 0, .int .i64 n] 122 (0, 0)))
    (hg : w.heap[g]? = some (.cells cur 104 (0, 0))) (hcs : cur.size = L * 10) (hn : n < L) (hL : L ≤ 2048) (hp : P2 L) (hb : base ≤ bq) (hlow : base ≤ g) (hone : ∀ v ∈ cur.toList, v.oneCell' = true) :
    Calls Yba.prog 18 #[.pointer (some ⟨bq, 0, none⟩), .agg #[.int .i64 a0, .int .u64 a1, .string s, .string ⟨#[]⟩, .int .u8 c, .slice none 0 0, .iface 3 (.int .i64 t), .int .u64 0, .int .i64 d, .bool st]] w fun e w' => e = .returned (.tuple #[]) ∧ PushOk base w ⟨bq, aft, some g, L, n⟩ w' := by
  have q1 : w.cell? ⟨bq, 1, none⟩ = some (.slice (some ⟨g, 0, none⟩) L L) := by simp [World.cell?, hq]
  have q2 : w.cell? ⟨bq, 2, none⟩ = some (.int .i64 0) := by simp [World.cell?, hq]
  have q3 : w.cell? ⟨bq, 3, none⟩ = some (.int .i64 n) := by simp [World.cell?, hq]
  have hbq : bq < w.heap.size := (Array.getElem?_eq_some_iff.1 hq).1
  have hbg : g < w.heap.size := (Array.getElem?_eq_some_iff.1 hg).1
  have hne : ((n : Int) == (L : Int)) = false := by rw [beq_eq_false_iff_ne]; omega
  have hand := ring_idx hp hn hL
  obtain ⟨v0, k0⟩ := ring_cell hg hcs hn 0 (by omega)
  obtain ⟨v1, k1⟩ := ring_cell hg hcs hn 1 (by omega)
  obtain ⟨v2, k2⟩ := ring_cell hg hcs hn 2 (by omega)
  obtain ⟨v3, k3⟩ := ring_cell hg hcs hn 3 (by omega)
  obtain ⟨v4, k4⟩ := ring_cell hg hcs hn 4 (by omega)
  obtain ⟨v5, k5⟩ := ring_cell hg hcs hn 5 (by omega)
  obtain ⟨v6, k6⟩ := ring_cell hg hcs hn 6 (by omega)
  obtain ⟨v7, k7⟩ := ring_cell hg hcs hn 7 (by omega)
  obtain ⟨v8, k8⟩ := ring_cell hg hcs hn 8 (by omega)
  obtain ⟨v9, k9⟩ := ring_cell hg hcs hn 9 (by omega)
  rw [Nat.add_zero] at k0
  have hfg : ∀ o, w.frozen? ⟨g, o, none⟩ = false := fun o => frozen_of_row w g o _ _ hg
  have hfq : ∀ o, w.frozen? ⟨bq, o, none⟩ = false := fun o => frozen_of_row w bq o _ _ hq
  have hgq : ¬ g = bq := fun e => by rw [e, hq] at hg; simp at hg
  have hqg : ¬ bq = g := fun e => hgq e.symm
  have HE : Hid (∀ m, PushOk base w ⟨bq, aft, some g, L, n⟩ ((((w.alloc (.cells #[.int .i64 a0, .int .u64 a1, .string s, .string ⟨#[]⟩, .int .u8 c, .slice none 0 0, .iface 3 (.int .i64 t), .int .u64 0, .int .i64 d, .bool st] 104)).drewN m).setCells g (n * 10) [.int .i64 a0, .int .u64 a1, .string s, .string ⟨#[]⟩, .int .u8 c, .slice none 0 0, .iface 3 (.int .i64 t), .int .u64 0, .int .i64 d, .bool st]).setCell ⟨bq, 3, none⟩ (.int .i64 ((n : Int) + 1)))) := fun m =>
    have hk : Kept (fun k => k = bq ∨ some k = some g) w ((w.alloc (.cells #[.int .i64 a0, .int .u64 a1, .string s, .string ⟨#[]⟩, .int .u8 c, .slice none 0 0, .iface 3 (.int .i64 t), .int .u64 0, .int .i64 d, .bool st] 104)).drewN m) := (kept_alloc _ w _).trans (kept_drewN _ _ m)
    laid_ok (q := ⟨bq, aft, some g, L, n⟩) (cur := cur) _ _ (ev_one a0 a1 s c t d st) hk ((drewN_block' (at_old' hq _) m)) (drewN_block' (at_old' hg _) m) hcs hone hn hL hp hb hlow (Or.inl rfl)
  clear hq hg
  go_enter Yba.func18, Yba.ntmps18
  go_wp2
  go_quiet (fail)
  go_wp2
  go_region
  go_wp2
  go_end0
  exact ⟨rfl, HE.out (nq + 1)⟩

end Go.Proofs.Ybulkadhw
