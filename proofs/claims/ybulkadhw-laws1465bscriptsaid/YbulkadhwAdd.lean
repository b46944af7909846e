/-
  THE WALK OF (*schedule).add (16).
-/
import Derived.Test.YbulkadhwQueue
import Derived.Deep.RegionWith
namespace Go.Proofs.Ybulkadhw
open Go.RowKit Go.Tab
set_option linter.unusedVariables false
set_option linter.unusedSimpArgs false

/-- The blocks that the schedule may write. -/
def own (bs : Nat) (qv : Value) (Q : List QI) (k : Nat) : Prop := k = bs ∨ some k = qv.ownBlock ∨ ∃ q ∈ Q, k = q.blk ∨ some k = q.ring

theorem own_tag {base bs : Nat} {sq : Int} {qv m : Value} {Q : List QI} {w : World} (h : SOk base w bs sq qv m Q) {k : Nat} (hk : own bs qv Q k) :
    base ≤ k ∧ k < w.heap.size ∧ ∃ c t, w.heap[k]? = some (.cells c t (0, 0)) ∧ (t = 97 ∨ t = 104 ∨ t = 117 ∨ t = 122) := by
  rcases hk with rfl | hk | ⟨q, hq, rfl | hk⟩
  · exact ⟨h.low, (Array.getElem?_eq_some_iff.1 h.sch).1, _, _, h.sch, Or.inl rfl⟩
  · obtain ⟨cur, h1, h2⟩ := row_tag h.row hk.symm
    exact ⟨h2, (Array.getElem?_eq_some_iff.1 h1).1, _, _, h1, Or.inr (Or.inr (Or.inl rfl))⟩
  · exact ⟨(h.qs q hq).low, (Array.getElem?_eq_some_iff.1 (h.qs q hq).cells).1, _, _, (h.qs q hq).cells, Or.inr (Or.inr (Or.inr rfl))⟩
  · obtain ⟨a, _, cur, c, _⟩ := (h.qs q hq).some k hk.symm
    exact ⟨a, (Array.getElem?_eq_some_iff.1 c).1, _, _, c, Or.inr (Or.inl rfl)⟩

theorem SOk.keep {base bs : Nat} {sq : Int} {qv m : Value} {Q : List QI} {w w' : World} {S : Nat → Prop} (h : SOk base w bs sq qv m Q) (hk : Kept S w w') (hS : ∀ k, own bs qv Q k → ¬ S k) : SOk base w' bs sq qv m Q := by
  refine ⟨(hk.block _ (Array.getElem?_eq_some_iff.1 h.sch).1 (hS bs (Or.inl rfl))).trans h.sch, h.low, row_kept h.row hk (fun g hg => hS g (Or.inr (Or.inl hg.symm))), fun q hq => q_kept (h.qs q hq) hk (hS _ (Or.inr (Or.inr ⟨q, hq, Or.inl rfl⟩))) (fun g hg => hS g (Or.inr (Or.inr ⟨q, hq, Or.inr hg.symm⟩))), h.nd, h.rd⟩

theorem SOk.field {base bs : Nat} {sq : Int} {qv m : Value} {Q : List QI} {w : World} (h : SOk base w bs sq qv m Q) (j : Nat) (u : Value) (sq' : Int) (m' : Value) (he : (#[Value.int .i64 0, .int .u64 sq, qv, m].setIfInBounds j u) = #[.int .i64 0, .int .u64 sq', qv, m']) :
    SOk base (w.setCell ⟨bs, j, none⟩ u) bs sq' qv m' Q := by
  have hk := kept_set w bs j u
  refine ⟨?_, h.low, row_kept h.row hk ?_, fun q hq => q_kept (h.qs q hq) hk ?_ ?_, h.nd, h.rd⟩
  · rw [heap_setCell_same w bs j _ 97 u h.sch, he]
  · intro g hg e
    obtain ⟨cur, h1, _⟩ := row_tag h.row hg
    exact tag_ne h1 h.sch (by decide) e
  · exact fun e => tag_ne (h.qs q hq).cells h.sch (by decide) e
  · intro g hg e
    obtain ⟨_, _, cur, c, _⟩ := (h.qs q hq).some g hg
    exact tag_ne c h.sch (by decide) e

theorem SOk.pushed {base bs : Nat} {sq : Int} {qv m : Value} {Q : List QI} {w w' : World} {q : QI} {j : Nat} (h : SOk base w bs sq qv m Q) (hj : Q[j]? = some q) (hp : PushOk base w q w') :
    ∃ q', q'.n = q.n + 1 ∧ SOk base w' bs sq qv m (Q.set j q') ∧ Kept (fun k => k = q.blk ∨ some k = q.ring) w w' := by
  obtain ⟨q', e1, e2, e3, hq', hr, hk⟩ := hp
  have hjl : j < Q.length := (List.getElem?_eq_some_iff.1 hj).1
  have hqm : q ∈ Q := List.mem_of_getElem? hj
  have nS : ∀ k c t, w.heap[k]? = some (.cells c t (0, 0)) → t ≠ 122 → t ≠ 104 → ¬ (k = q.blk ∨ some k = q.ring) := by
    intro k c t hc h1 h2
    rintro (e | e)
    · exact tag_ne hc (h.qs q hqm).cells h1 e
    · obtain ⟨_, _, cur, c', _⟩ := (h.qs q hqm).some k e.symm
      exact tag_ne hc c' h2 rfl
  have hmem : ∀ p, p ∈ Q.set j q' → p = q' ∨ ∃ i, i ≠ j ∧ Q[i]? = some p := by
    intro p hp
    obtain ⟨i, hi⟩ := List.getElem?_of_mem hp
    rw [List.getElem?_set] at hi
    by_cases hij : j = i
    · rw [if_pos hij, if_pos hjl] at hi
      exact Or.inl (Option.some.inj hi).symm
    · rw [if_neg hij] at hi
      exact Or.inr ⟨i, fun e => hij e.symm, hi⟩
  have hblk : ∀ i p, i ≠ j → Q[i]? = some p → p.blk ≠ q.blk := by
    intro i p hij hp e
    have h1 : (Q.map (·.blk))[i]? = some q.blk := by simp [hp, e]
    have h2 : (Q.map (·.blk))[j]? = some q.blk := by simp [hj]
    exact hij ((List.getElem?_inj (List.getElem?_eq_some_iff.1 h1).1 h.nd).1 (h1.trans h2.symm))
  refine ⟨q', e3, ⟨?_, h.low, ?_, ?_, ?_, ?_⟩, hk⟩
  · rw [hk.block bs (Array.getElem?_eq_some_iff.1 h.sch).1 (nS bs _ _ h.sch (by decide) (by decide))]; exact h.sch
  · have hm : (Q.set j q').map qptr = Q.map qptr := by
      apply List.ext_getElem?
      intro i
      simp only [List.getElem?_map, List.getElem?_set]
      by_cases hij : j = i
      · subst hij
        rw [if_pos rfl, if_pos hjl, hj]
        simp [qptr, e1]
      · simp [hij]
    rw [hm, List.length_set]
    refine row_kept h.row hk (fun g hg => ?_)
    obtain ⟨cur, h1, _⟩ := row_tag h.row hg
    exact nS g _ _ h1 (by decide) (by decide)
  · intro p hp
    rcases hmem p hp with rfl | ⟨i, hij, hi⟩
    · exact hq'
    · have hpm : p ∈ Q := List.mem_of_getElem? hi
      refine q_kept (h.qs p hpm) hk ?_ ?_
      · rintro (e | e)
        · exact hblk i p hij hi e
        · obtain ⟨_, _, cur, c', _⟩ := (h.qs q hqm).some _ e.symm
          exact tag_ne (h.qs p hpm).cells c' (by decide) rfl
      · intro g hg
        obtain ⟨_, _, cur, c', _⟩ := (h.qs p hpm).some g hg
        rintro (e | e)
        · exact tag_ne c' (h.qs q hqm).cells (by decide) e
        · exact hij (h.rd i j p q g hi hj hg e.symm)
  · have hm : (Q.set j q').map (·.blk) = Q.map (·.blk) := by
      apply List.ext_getElem?
      intro i
      simp only [List.getElem?_map, List.getElem?_set]
      by_cases hij : j = i
      · subst hij
        rw [if_pos rfl, if_pos hjl, hj]
        simp [e1]
      · simp [hij]
    rw [hm]
    exact h.nd
  · intro a b pa pb g ha hb hga hgb
    have key : ∀ i p, (Q.set j q')[i]? = some p → p.ring = some g → i = j ∧ p = q' ∨ i ≠ j ∧ Q[i]? = some p := by
      intro i p hi hg
      rw [List.getElem?_set] at hi
      by_cases hij : j = i
      · rw [if_pos hij, if_pos hjl] at hi
        exact Or.inl ⟨hij.symm, (Option.some.inj hi).symm⟩
      · rw [if_neg hij] at hi
        exact Or.inr ⟨fun e => hij e.symm, hi⟩
    have cross : ∀ i p, i ≠ j → Q[i]? = some p → p.ring = some g → q'.ring = some g → False := by
      intro i p hij hi hpg hqg
      rcases hr with e | ⟨g', e, hg'⟩
      · rw [e] at hqg
        exact hij (h.rd i j p q g hi hj hpg hqg)
      · rw [e] at hqg
        cases hqg
        obtain ⟨_, _, cur, c', _⟩ := (h.qs p (List.mem_of_getElem? hi)).some _ hpg
        have := (Array.getElem?_eq_some_iff.1 c').1
        omega
    rcases key a pa ha hga with ⟨ea, ea'⟩ | ⟨na, ha'⟩
    · rcases key b pb hb hgb with ⟨eb, eb'⟩ | ⟨nb, hb'⟩
      · rw [ea, eb]
      · exact (cross b pb nb hb' hgb (ea' ▸ hga)).elim
    · rcases key b pb hb hgb with ⟨eb, eb'⟩ | ⟨nb, hb'⟩
      · exact (cross a pa na ha' hga (eb' ▸ hgb)).elim
      · exact h.rd a b pa pb g ha' hb' hga hgb

/-- What add leaves. -/
def AddOk (base : Nat) (w : World) (bs : Nat) (sq : Int) (qv m : Value) (Q : List QI) (K : Nat) (w' : World) : Prop :=
  ∃ (qv' : Value) (Q' : List QI), SOk base w' bs (sq + 1) qv' m Q' ∧ Q'.length ≤ Q.length + 1 ∧ (∀ q ∈ Q', q.n ≤ K + 1) ∧ Kept (own bs qv Q) w w'

theorem SOk.drewd {base bs : Nat} {sq : Int} {qv m : Value} {Q : List QI} {w : World} (h : SOk base w bs sq qv m Q) : SOk base w.drew bs sq qv m Q := h.keep (kept_drew (fun _ => False) w) (fun _ _ h => h)

theorem add_mid {base bs : Nat} {sq : Int} {qv m : Value} {Q : List QI} {w W : World} {ms ev : Array Value} (h : SOk base w bs sq qv m Q) (hW : W = (((w.setCell ⟨bs, 1, none⟩ (.int .u64 (sq + 1))).alloc (.cells ms 102)).alloc (.cells ev 104)).drew) :
    SOk base W bs (sq + 1) qv m Q ∧ W.heap[w.heap.size + 1]? = some (.cells ev 104 (0, 0)) ∧ Kept (own bs qv Q) w W ∧ W.heap.size = w.heap.size + 2 := by
  subst hW
  have h1 := h.field 1 (.int .u64 (sq + 1)) (sq + 1) m rfl
  have k1 : Kept (fun _ => False) (w.setCell ⟨bs, 1, none⟩ (.int .u64 (sq + 1))) (((w.setCell ⟨bs, 1, none⟩ (.int .u64 (sq + 1))).alloc (.cells ms 102)).alloc (.cells ev 104)).drew := ((kept_alloc _ _ _).trans (kept_alloc _ _ _)).trans (kept_drew _ _)
  refine ⟨h1.keep k1 (fun _ _ h => h), ?_, ?_, ?_⟩
  · have e : (((w.setCell ⟨bs, 1, none⟩ (.int .u64 (sq + 1))).alloc (.cells ms 102))).heap.size = w.heap.size + 1 := by simp
    have := (MapKept.heap_alloc ((w.setCell ⟨bs, 1, none⟩ (.int .u64 (sq + 1))).alloc (.cells ms 102)) (.cells ev 104)).1
    rw [e] at this
    exact this
  · exact ((kept_set w bs 1 _).mono (fun i _ h => Or.inl h)).andThen k1 (fun _ _ h => h.elim)
  · show ((((w.setCell ⟨bs, 1, none⟩ (.int .u64 (sq + 1))).alloc (.cells ms 102)).alloc (.cells ev 104))).heap.size = _
    simp

theorem add_ev {base bs : Nat} {sq : Int} {qv m : Value} {Q : List QI} {W w5 : World} {ev : Array Value} {E : Nat} (h : SOk base W bs sq qv m Q) (hE : W.heap[E]? = some (.cells ev 104 (0, 0))) (hk : Kept (fun k => k = bs ∨ some k = qv.ownBlock) W.drew w5) : w5.heap[E]? = some (.cells ev 104 (0, 0)) := by
  rw [hk.block E (Array.getElem?_eq_some_iff.1 hE).1 ?_]
  · exact hE
  · rintro (e | e)
    · exact tag_ne hE h.sch (by decide) e
    · obtain ⟨cur, h1, _⟩ := row_tag h.row e.symm
      exact tag_ne hE h1 (by decide) rfl

theorem queue_n {Q Q' : List QI} {q : QI} {j K z : Nat} (hn : ∀ q ∈ Q, q.n ≤ K) (hK : K ≤ 1023) (hnew : ∀ p ∈ Q', p ∈ Q ∨ (p.ring = none ∧ p.n = 0 ∧ z ≤ p.blk)) (hj : Q'[j]? = some q) : q.n ≤ 1023 := by
  rcases hnew q (List.mem_of_getElem? hj) with h | ⟨_, h, _⟩
  · exact Nat.le_trans (hn q h) hK
  · omega

theorem add_done {base bs : Nat} {sq : Int} {qv qv' m : Value} {Q Q' : List QI} {K : Nat} {w W w5 : World} {ev : Array Value} {q : QI} {j : Nat} (h : SOk base w bs sq qv m Q) (hn : ∀ q ∈ Q, q.n ≤ K) (hS3 : SOk base W bs (sq + 1) qv m Q)
    (hE3 : W.heap[w.heap.size + 1]? = some (.cells ev 104 (0, 0))) (hK3 : Kept (own bs qv Q) w W) (hz3 : W.heap.size = w.heap.size + 2) (hk5 : Kept (fun k => k = bs ∨ some k = qv.ownBlock) W.drew w5) (hS5 : SOk base w5 bs (sq + 1) qv' m Q') (hj : Q'[j]? = some q)
    (hnew : ∀ p ∈ Q', p ∈ Q ∨ (p.ring = none ∧ p.n = 0 ∧ W.drew.heap.size ≤ p.blk)) (hloc : ∀ g, qv'.ownBlock = some g → qv.ownBlock = some g ∨ W.drew.heap.size ≤ g) (hlen : Q'.length ≤ Q.length + 1) (hE5 : w5.heap[w.heap.size + 1]? = some (.cells ev 104 (0, 0))) :
    ∀ w6, PushOk base w5 q w6 → AddOk base w bs sq qv m Q K w6 ∧ w6.heap[w.heap.size + 1]? = some (.cells ev 104 (0, 0)) := by
  intro w6 hp
  have hqm := List.mem_of_getElem? hj
  have hWz : W.drew.heap.size = w.heap.size + 2 := hz3
  obtain ⟨q', hq'n, hS6, hk6⟩ := hS5.pushed hj hp
  have hw5 : Kept (own bs qv Q) w w5 := (hK3.trans (kept_drew _ _)).andThen hk5 (fun i _ h => by
    rcases h with h | h
    · exact Or.inl h
    · exact Or.inr (Or.inl h))
  refine ⟨⟨qv', Q'.set j q', hS6, by rw [List.length_set]; exact hlen, ?_, ?_⟩, ?_⟩
  · intro p hp'
    obtain ⟨i, hi⟩ := List.getElem?_of_mem hp'
    rw [List.getElem?_set] at hi
    have hle : ∀ p ∈ Q', p.n ≤ K := fun p hp => by
      rcases hnew p hp with h' | ⟨_, h', _⟩
      · exact hn p h'
      · omega
    by_cases hij : j = i
    · rw [if_pos hij, if_pos (List.getElem?_eq_some_iff.1 hj).1] at hi
      cases hi
      have := hle q hqm
      omega
    · rw [if_neg hij] at hi
      have := hle p (List.mem_of_getElem? hi)
      omega
  · refine hw5.andThen hk6 (fun i hi h => ?_)
    rcases hnew q hqm with hq | ⟨hr, _, hb⟩
    · exact Or.inr (Or.inr ⟨q, hq, h⟩)
    · rcases h with h | h
      · omega
      · rw [hr] at h; cases h
  · rw [hk6.block _ (Array.getElem?_eq_some_iff.1 hE5).1 ?_]
    · exact hE5
    · rintro (e | e)
      · exact tag_ne hE5 (hS5.qs q hqm).cells (by decide) e
      · rcases hnew q hqm with hq | ⟨hr, _, _⟩
        · obtain ⟨_, _, cur, c, _⟩ := (h.qs q hq).some _ e.symm
          have := (Array.getElem?_eq_some_iff.1 c).1
          omega
        · rw [hr] at e; cases e

set_option maxHeartbeats 1000000 in
set_option maxRecDepth 100000 in
theorem add_any (base bs : Nat) (sq aft : Int) (qv m : Value) (Q : List QI) (s : ByteArray) (t : Int) (st : Bool) (K : Nat) (w : World) (h : SOk base w bs sq qv m Q) (hQ : Q.length ≤ 1023) (hK : K ≤ 1023) (hn : ∀ q ∈ Q, q.n ≤ K) (hbw : base ≤ w.heap.size)
    (hs0 : 0 ≤ sq) (hs1 : sq ≤ 4096) (ha0 : 0 ≤ aft) (ha1 : aft ≤ 65535) :
    Calls Yba.prog 16 #[.pointer (some ⟨bs, 0, none⟩), .agg #[.string s, .string ⟨#[]⟩, .int .u8 6, .slice none 0 0, .iface 3 (.int .i64 t), .int .u64 0, .int .i64 aft, .bool st], .int .i64 aft] w fun e w' => e = .returned (.int .u64 sq) ∧ AddOk base w bs sq qv m Q K w' := by
  have s0 : w.cell? ⟨bs, 0, none⟩ = some (.int .i64 0) := by simp [World.cell?, h.sch]
  have s1 : w.cell? ⟨bs, 1, none⟩ = some (.int .u64 sq) := by simp [World.cell?, h.sch]
  have hbs : bs < w.heap.size := (Array.getElem?_eq_some_iff.1 h.sch).1
  have hf1 : w.frozen? ⟨bs, 1, none⟩ = false := frozen_of_row w bs 1 _ _ h.sch
  have HS : Hid (SOk base w bs sq qv m Q) := h
  have HN : Hid (∀ q ∈ Q, q.n ≤ K) := hn
  clear h hn
  go_enter Yba.func16, Yba.ntmps16
  go_wp2
  go_region
  go_wp2
  obtain ⟨W3, hW3⟩ : ∃ W, W = (((w.setCell ⟨bs, 1, none⟩ (.int .u64 (sq + 1))).alloc (.cells #[.string s, .string ⟨#[]⟩, .int .u8 6, .slice none 0 0, .iface 3 (.int .i64 t), .int .u64 0, .int .i64 aft, .bool st] 102)).alloc (.cells #[.int .i64 aft, .int .u64 sq, .string s, .string ⟨#[]⟩, .int .u8 6, .slice none 0 0, .iface 3 (.int .i64 t), .int .u64 0, .int .i64 aft, .bool st] 104)).drew := ⟨_, rfl⟩
  rw [← hW3]
  have h3 := add_mid HS.out hW3
  obtain ⟨hS3, hE3, hK3, hz3⟩ := h3
  have hbs3 : bs < W3.heap.size := by omega
  have HS3 : Hid (SOk base W3 bs (sq + 1) qv m Q) := hS3
  have HE3 : Hid (W3.heap[w.heap.size + 1]? = some (.cells #[.int .i64 aft, .int .u64 sq, .string s, .string ⟨#[]⟩, .int .u8 6, .slice none 0 0, .iface 3 (.int .i64 t), .int .u64 0, .int .i64 aft, .bool st] 104 (0, 0))) := hE3
  have HK3 : Hid (Kept (own bs qv Q) w W3) := hK3
  have f0 : W3.cell? ⟨w.heap.size + 1, 0, none⟩ = some (.int .i64 aft) := (by simp [World.cell?, HE3.out])
  have f1 : W3.cell? ⟨w.heap.size + 1, 1, none⟩ = some (.int .u64 sq) := (by simp [World.cell?, HE3.out])
  have f2 : W3.cell? ⟨w.heap.size + 1, 2, none⟩ = some (.string s) := (by simp [World.cell?, HE3.out])
  have f3 : W3.cell? ⟨w.heap.size + 1, 3, none⟩ = some (.string ⟨#[]⟩) := (by simp [World.cell?, HE3.out])
  have f4 : W3.cell? ⟨w.heap.size + 1, 4, none⟩ = some (.int .u8 6) := (by simp [World.cell?, HE3.out])
  have f5 : W3.cell? ⟨w.heap.size + 1, 5, none⟩ = some (.slice none 0 0) := (by simp [World.cell?, HE3.out])
  have f6 : W3.cell? ⟨w.heap.size + 1, 6, none⟩ = some (.iface 3 (.int .i64 t)) := (by simp [World.cell?, HE3.out])
  have f7 : W3.cell? ⟨w.heap.size + 1, 7, none⟩ = some (.int .u64 0) := (by simp [World.cell?, HE3.out])
  have f8 : W3.cell? ⟨w.heap.size + 1, 8, none⟩ = some (.int .i64 aft) := (by simp [World.cell?, HE3.out])
  have f9 : W3.cell? ⟨w.heap.size + 1, 9, none⟩ = some (.bool st) := (by simp [World.cell?, HE3.out])
  clear hW3 hS3 hE3 hK3 s0 s1 hf1
  go_region_with (first
    | (go_at_call 17; refine (queue_any base bs (sq + 1) aft qv m Q _ (SOk.drewd HS3.out) (by omega) (by simp; omega)).mono ?_; rintro e w5 ⟨v, rfl, hqk⟩; obtain ⟨qv', Q', q, j, rfl, hj, hS5, hk5, hnew, hloc, hlen⟩ := hqk; have hE5 := add_ev HS3.out HE3.out hk5; have g0 : w5.cell? ⟨w.heap.size + 1, 0, none⟩ = some (.int .i64 aft) := (by simp [World.cell?, hE5]); have g1 : w5.cell? ⟨w.heap.size + 1, 1, none⟩ = some (.int .u64 sq) := (by simp [World.cell?, hE5]); have g2 : w5.cell? ⟨w.heap.size + 1, 2, none⟩ = some (.string s) := (by simp [World.cell?, hE5]); have g3 : w5.cell? ⟨w.heap.size + 1, 3, none⟩ = some (.string ⟨#[]⟩) := (by simp [World.cell?, hE5]); have g4 : w5.cell? ⟨w.heap.size + 1, 4, none⟩ = some (.int .u8 6) := (by simp [World.cell?, hE5]); have g5 : w5.cell? ⟨w.heap.size + 1, 5, none⟩ = some (.slice none 0 0) := (by simp [World.cell?, hE5]); have g6 : w5.cell? ⟨w.heap.size + 1, 6, none⟩ = some (.iface 3 (.int .i64 t)) := (by simp [World.cell?, hE5]); have g7 : w5.cell? ⟨w.heap.size + 1, 7, none⟩ = some (.int .u64 0) := (by simp [World.cell?, hE5]); have g8 : w5.cell? ⟨w.heap.size + 1, 8, none⟩ = some (.int .i64 aft) := (by simp [World.cell?, hE5]); have g9 : w5.cell? ⟨w.heap.size + 1, 9, none⟩ = some (.bool st) := (by simp [World.cell?, hE5]); have hq5 := hS5.qs q (List.mem_of_getElem? hj); have hb5 : base ≤ w5.heap.size := (by have := hk5.size; simp at this; omega); have hn5 : q.n ≤ 1023 := queue_n HN.out hK hnew hj; have H5 := add_done HS.out HN.out HS3.out HE3.out HK3.out hz3 hk5 hS5 hj hnew hloc hlen hE5; have H6 : Hid _ := H5; clear hE5 H5 hS5 hk5 hnew hloc hlen hj)
    | (go_at_call 18; refine (push_any base _ aft sq s 6 t aft st _ hq5 hb5 hn5).mono ?_; rintro e w6 ⟨rfl, hp6⟩; obtain ⟨H7, hE7⟩ := H6.out _ hp6; have H8 : Hid _ := H7; have hE8 : w6.cell? ⟨w.heap.size + 1, 1, none⟩ = some (.int .u64 sq) := (by simp [World.cell?, hE7]); clear H7 hE7 hp6))
  all_goals go_wp2
  all_goals go_ret
  all_goals exact ⟨rfl, H8.out⟩

end Go.Proofs.Ybulkadhw
