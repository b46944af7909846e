/-
  WHAT LIES IN MEMORY AT THE HEAD OF LawS1465BScript's LOOP, and how each step leaves it.
-/
import Derived.Test.YbulkadhwTimer
import Derived.Test.YbulkadhwRun
import Derived.Test.YbulkadhwDue
namespace Go.Proofs.Ybulkadhw
open Go.RowKit Go.Tab
set_option linter.unusedVariables false
set_option linter.unusedSimpArgs false

abbrev TT := List ((ByteArray × Int) × Int)
abbrev SS := List ((ByteArray × Int) × (Int × Bool))

theorem below_kept {S : Nat → Prop} {B : Nat} {a w w' : World} (h : Below B a w) (hk : Kept S w w') (hB : B ≤ w.heap.size) (hS : ∀ k, S k → B ≤ k) : Below B a w' :=
  ⟨hk.os.trans h.os, hk.tape.trans h.tape, hk.output.trans h.output, Nat.le_trans h.size hk.size, fun k hk' => (hk.block k (Nat.lt_of_lt_of_le hk' hB) (fun h' => by have := hS k h'; omega)).trans (h.block k hk')⟩

theorem tok_block {base B : Nat} {w : World} {T : TT} (h : TOk base w (.map (some B)) T) : base ≤ B ∧ B < w.heap.size ∧ ∃ es clock, w.heap[B]? = some (.map es clock) := by
  rcases h with ⟨h, _⟩ | ⟨B', h, h1, ht⟩
  · cases h
  · cases h
    refine ⟨h1, ht.lt, ?_⟩
    obtain ⟨es, clock, hb, _⟩ := ht
    exact ⟨es, clock, hb⟩

theorem tok_keep {S : Nat → Prop} {base : Nat} {m : Value} {w w' : World} {T : TT} (h : TOk base w m T) (hk : Kept S w w') (hS : ∀ B, m = .map (some B) → ¬ S B) : TOk base w' m T := by
  rcases h with ⟨h, h'⟩ | ⟨B, h, h1, ht⟩
  · exact Or.inl ⟨h, h'⟩
  · exact Or.inr ⟨B, h, h1, tab_keep ht hk (hS B h)⟩

/-- A block with another tag is none of setTimer's. -/
theorem not_ownT {base bs : Nat} {sq : Int} {qv m : Value} {Q : List QI} {w : World} {T : TT} (h : SOk base w bs sq qv m Q) (ht : TOk base w m T) {k : Nat} {c : Array Value} {t : TypeId} (hc : w.heap[k]? = some (.cells c t (0, 0))) (hn : t ≠ 97 ∧ t ≠ 104 ∧ t ≠ 117 ∧ t ≠ 122) : ¬ ownT bs qv m Q k := by
  rintro (ho | ho)
  · obtain ⟨_, _, c', t', hc', h4⟩ := own_tag h ho
    rw [hc] at hc'
    simp at hc'
    obtain ⟨_, e⟩ := hc'
    subst e
    rcases h4 with h | h | h | h
    · exact hn.1 h
    · exact hn.2.1 h
    · exact hn.2.2.1 h
    · exact hn.2.2.2 h
  · subst ho
    obtain ⟨_, _, es, clock, hb⟩ := tok_block ht
    rw [hc] at hb
    cases hb

theorem ownT_low {base bs : Nat} {sq : Int} {qv m : Value} {Q : List QI} {w : World} {T : TT} (h : SOk base w bs sq qv m Q) (ht : TOk base w m T) : ∀ k, ownT bs qv m Q k → base ≤ k := by
  rintro k (ho | ho)
  · exact (own_tag h ho).1
  · subst ho
    exact (tok_block ht).1

/-- The loop's state. base: where the law's own blocks begin. -/
structure LS (w wr : World) (bs : Nat) (sq : Int) (k : Nat) (v : Value) (T : TT) (S : SS) (qv m : Value) (Q : List QI) : Prop where
  sok : SOk w.heap.size wr bs sq qv m Q
  tok : TOk w.heap.size wr m T
  row : wr.ownsRow w.heap.size 92 4 v S.length (cellsOf S)
  s0 : 0 ≤ sq
  s1 : sq ≤ k
  ql : Q.length ≤ k
  qn : ∀ q ∈ Q, q.n ≤ k
  sl : S.length ≤ k
  below : Below w.heap.size w wr

theorem LS.alloc {w wr : World} {bs : Nat} {sq : Int} {k : Nat} {v : Value} {T : TT} {S : SS} {qv m : Value} {Q : List QI} (h : LS w wr bs sq k v T S qv m Q) (o : Obj) : LS w (wr.alloc o) bs sq k v T S qv m Q :=
  ⟨h.sok.keep (kept_alloc (fun _ => False) _ _) (fun _ _ h => h), tok_keep h.tok (kept_alloc (fun _ => False) _ _) (fun _ _ h => h), h.row.alloc o, h.s0, h.s1, h.ql, h.qn, h.sl, h.below.alloc h.below.size o⟩
theorem LS.drewN {w wr : World} {bs : Nat} {sq : Int} {k : Nat} {v : Value} {T : TT} {S : SS} {qv m : Value} {Q : List QI} (h : LS w wr bs sq k v T S qv m Q) (n : Nat) : LS w (wr.drewN n) bs sq k v T S qv m Q :=
  ⟨h.sok.keep (kept_drewN (fun _ => False) _ _) (fun _ _ h => h), tok_keep h.tok (kept_drewN (fun _ => False) _ _) (fun _ _ h => h), row_kept h.row (kept_drewN (fun _ => False) _ _) (fun _ _ h => h), h.s0, h.s1, h.ql, h.qn, h.sl, below_kept h.below (kept_drewN (fun _ => False) _ _) h.below.size (fun _ h => h.elim)⟩

/-- Behind setTimer. -/
theorem LS.timer {w wr w2 : World} {bs : Nat} {sq sq' : Int} {k : Nat} {v : Value} {T T' : TT} {S : SS} {qv m : Value} {Q : List QI} (h : LS w wr bs sq k v T S qv m Q) (ht : TimerOk w.heap.size wr bs qv m Q k sq' T' w2) (h0 : 0 ≤ sq') (h1 : sq' ≤ k + 1) :
    ∃ qv' m' Q', LS w w2 bs sq' (k + 1) v T' S qv' m' Q' := by
  obtain ⟨qv', m', Q', hS, hT, hl, hn, hk⟩ := ht
  refine ⟨qv', m', Q', hS, hT, row_kept h.row hk (fun g hg => ?_), h0, h1, by have := h.ql; omega, hn, by have := h.sl; omega, below_kept h.below hk h.below.size (ownT_low h.sok h.tok)⟩
  obtain ⟨cur, hc, _⟩ := row_tag h.row hg
  exact not_ownT h.sok h.tok hc (by decide)

theorem timer_block {w wr w2 : World} {bs : Nat} {sq sq' : Int} {k : Nat} {v : Value} {T T' : TT} {S : SS} {qv m : Value} {Q : List QI} (h : LS w wr bs sq k v T S qv m Q) (ht : TimerOk w.heap.size wr bs qv m Q k sq' T' w2) {b : Nat} {c : Array Value} (hc : wr.heap[b]? = some (.cells c 111 (0, 0))) : w2.heap[b]? = some (.cells c 111 (0, 0)) := by
  obtain ⟨qv', m', Q', hS, hT, hl, hn, hk⟩ := ht
  rw [hk.block b (Array.getElem?_eq_some_iff.1 hc).1 (not_ownT h.sok h.tok hc (by decide))]
  exact hc

/-- Behind a step on the model's own slots. -/
theorem LS.turn {w wr w2 : World} {bs : Nat} {sq : Int} {k : Nat} {v v' : Value} {T : TT} {S S' : SS} {qv m : Value} {Q : List QI} (h : LS w wr bs sq k v T S qv m Q) (hg : wr.grownBy w2 v.ownBlock) (hr : w2.ownsRow w.heap.size 92 4 v' S'.length (cellsOf S')) (hl : S'.length ≤ k) : LS w w2 bs sq k v' T S' qv m Q := by
  have hk : Kept (fun j => some j = v.ownBlock) wr w2 := Kept.grown hg
  have hno : ∀ j, ownT bs qv m Q j → ¬ (some j = v.ownBlock) := fun j ho e => by
    obtain ⟨cur, hc, _⟩ := row_tag h.row e.symm
    exact not_ownT h.sok h.tok hc (by decide) ho
  refine ⟨h.sok.keep hk (fun j ho => hno j (Or.inl ho)), tok_keep h.tok hk (fun B e => hno B (Or.inr e)), hr, h.s0, h.s1, h.ql, h.qn, hl, below_kept h.below hk h.below.size (fun j e => ?_)⟩
  exact (row_tag h.row e.symm).choose_spec.2

/-- due, by the map of timers. -/
theorem due_ok {base bs be : Nat} {sq : Int} {qv m : Value} {Q : List QI} {w : World} {T : TT} (p : Int) (x : ByteArray) (t : Int) (h : SOk base w bs sq qv m Q) (hT : TOk base w m T) (he : w.heap[be]? = some (.cells #[.int .i64 0, .int .u64 p, .string x, .string ⟨#[]⟩, .int .u8 6, .slice none 0 0, .iface 3 (.int .i64 t), .int .u64 0, .int .i64 0, .bool false] 104 (0, 0))) :
    Calls Yba.prog 14 #[.pointer (some ⟨bs, 0, none⟩), .pointer (some ⟨be, 0, none⟩)] w fun e w' => e = .returned (.bool (decide (get T (x, t) = some p))) ∧ SOk base w' bs sq qv m Q ∧ TOk base w' m (if get T (x, t) = some p then del T (x, t) else T) ∧
      w'.heap[be]? = some (.cells #[.int .i64 0, .int .u64 p, .string x, .string ⟨#[]⟩, .int .u8 6, .slice none 0 0, .iface 3 (.int .i64 t), .int .u64 0, .int .i64 0, .bool false] 104 (0, 0)) ∧ Kept (fun k => base ≤ k) w w' := by
  have hbe : be < w.heap.size := (Array.getElem?_eq_some_iff.1 he).1
  have hbs : bs < w.heap.size := (Array.getElem?_eq_some_iff.1 h.sch).1
  rcases hT with ⟨rfl, rfl⟩ | ⟨B, rfl, hB, ht⟩
  · refine (due_nil bs be p x t w (by simp [World.cell?, h.sch]) (by simp [World.cell?, he]) (by simp [World.cell?, he]) (by simp [World.cell?, he]) (by simp [World.cell?, he]) hbe hbs).mono fun e w' ⟨h1, h2⟩ => ?_
    have hk : Kept (fun _ => False) w w' := (Kept.grown h2).mono (fun _ _ e => by cases e)
    refine ⟨by rw [h1]; simp [get_nil], h.keep hk (fun _ _ h => h), by simp [get_nil]; exact Or.inl ⟨rfl, rfl⟩, (hk.block be hbe (fun h => h)).trans he, hk.mono (fun _ _ h => h.elim)⟩
  · refine (due_tab bs be B p x t T w (by simp [World.cell?, h.sch]) (by simp [World.cell?, he]) (by simp [World.cell?, he]) (by simp [World.cell?, he]) (by simp [World.cell?, he]) hbe hbs ht).mono fun e w' ⟨h1, h2, h3⟩ => ?_
    have hk : Kept (fun k => k = B) w w' := (Kept.grown h3).mono (fun _ _ e => by cases e; rfl)
    refine ⟨h1, h.keep hk (fun k ho e => tab_own h ht (e ▸ ho)), Or.inr ⟨B, rfl, hB, h2⟩, ?_, hk.mono (fun _ _ e => by rw [e]; exact hB)⟩
    rw [hk.block be hbe (fun e => ?_)]
    · exact he
    · obtain ⟨es, clock, hb, _⟩ := ht
      rw [← e, he] at hb
      cases hb

end Go.Proofs.Ybulkadhw
