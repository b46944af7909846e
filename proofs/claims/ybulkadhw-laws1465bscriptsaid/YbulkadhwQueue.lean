/-
  THE WALK OF (*schedule).queue (17).
-/
import Derived.Test.YbulkadhwFull
import Derived.Maps.AppendAt
namespace Go.Proofs.Ybulkadhw
open Go.RowKit Go.Tab
set_option linter.unusedVariables false
set_option linter.unusedSimpArgs false

def qptr (q : QI) : Value := .pointer (some ⟨q.blk, 0, none⟩)

/-- The schedule in memory: its block, its count, its queues, its map of timers. -/
structure SOk (base : Nat) (w : World) (bs : Nat) (sq : Int) (qv m : Value) (Q : List QI) : Prop where
  sch : w.heap[bs]? = some (.cells #[.int .i64 0, .int .u64 sq, qv, m] 97 (0, 0))
  low : base ≤ bs
  row : w.ownsRow base 117 1 qv Q.length (Q.map qptr)
  qs : ∀ q ∈ Q, QOk base w q
  nd : (Q.map (·.blk)).Nodup
  rd : ∀ (i j : Nat) (p q : QI) (g : Nat), Q[i]? = some p → Q[j]? = some q → p.ring = some g → q.ring = some g → i = j

theorem q_kept {base : Nat} {S : Nat → Prop} {w w' : World} {p : QI} (h : QOk base w p) (hk : Kept S w w') (h1 : ¬ S p.blk) (h2 : ∀ g, p.ring = some g → ¬ S g) : QOk base w' p := by
  refine ⟨(hk.block _ (Array.getElem?_eq_some_iff.1 h.cells).1 h1).trans h.cells, h.low, h.le, h.p2, h.small, h.none, fun g hg => ?_⟩
  obtain ⟨a, b, cur, c, d⟩ := h.some g hg
  exact ⟨a, b, cur, (hk.block _ (Array.getElem?_eq_some_iff.1 c).1 (h2 g hg)).trans c, d⟩

theorem row_kept {base e size : Nat} {v : Value} {n : Nat} {xs : List Value} {S : Nat → Prop} {w w' : World} (h : w.ownsRow base e size v n xs) (hk : Kept S w w') (hS : ∀ g, v.ownBlock = some g → ¬ S g) : w'.ownsRow base e size v n xs := by
  obtain ⟨h1, h2⟩ := h
  refine ⟨h1, ?_⟩
  rcases h2 with h2 | ⟨g, cap, cur, rfl, hb, hh, r⟩
  · exact Or.inl h2
  · exact Or.inr ⟨g, cap, cur, rfl, hb, (hk.block g (Array.getElem?_eq_some_iff.1 hh).1 (hS g rfl)).trans hh, r⟩

/-- The block of an owned row, with its tag. -/
theorem row_tag {base e size : Nat} {v : Value} {n : Nat} {xs : List Value} {w : World} (h : w.ownsRow base e size v n xs) {g : Nat} (hg : v.ownBlock = some g) : ∃ cur, w.heap[g]? = some (.cells cur e (0, 0)) ∧ base ≤ g := by
  rcases h.2 with ⟨rfl, _⟩ | ⟨g', cap, cur, rfl, hb, hh, _⟩
  · cases hg
  · cases hg
    exact ⟨cur, hh, hb⟩

theorem tag_ne {w : World} {a b : Nat} {c1 c2 : Array Value} {t1 t2 : TypeId} (h1 : w.heap[a]? = some (.cells c1 t1 (0, 0))) (h2 : w.heap[b]? = some (.cells c2 t2 (0, 0))) (ht : t1 ≠ t2) : a ≠ b := fun e => by
  subst e
  rw [h1] at h2
  simp at h2
  exact ht h2.2

/-- What a search for a queue leaves. -/
def QueueOk (base : Nat) (w : World) (bs : Nat) (sq : Int) (qv m : Value) (Q : List QI) (v : Value) (w' : World) : Prop :=
  ∃ (qv' : Value) (Q' : List QI) (q : QI) (j : Nat), v = qptr q ∧ Q'[j]? = some q ∧ SOk base w' bs sq qv' m Q' ∧ Kept (fun k => k = bs ∨ some k = qv.ownBlock) w w' ∧
    (∀ p ∈ Q', p ∈ Q ∨ (p.ring = none ∧ p.n = 0 ∧ w.heap.size ≤ p.blk)) ∧ (∀ g, qv'.ownBlock = some g → qv.ownBlock = some g ∨ w.heap.size ≤ g) ∧ Q'.length ≤ Q.length + 1

theorem info117 : (Yba.prog.info? 117).map (fun i => (i.zero, i.size, i.bytes)) = some (some (.pointer none), 1, 8) := by kernel_rfl
theorem ptr_one (a : Option Addr) : ∀ u ∈ [Value.pointer a], u.oneCell' = true := by
  intro u hu
  simp at hu
  subst hu
  rfl

theorem form_of {w : World} {base : Nat} {e : TypeId} {size : Nat} {v : Value} {n : Nat} {xs : List Value} (h : w.ownsRow base e size v n xs) (hn : 0 < n) : ∃ g cap, v = .slice (some ⟨g, 0, none⟩) n cap := by
  obtain ⟨_, h2⟩ := h
  rcases h2 with ⟨_, h2⟩ | ⟨g, cap, cur, rfl, _⟩
  · omega
  · exact ⟨g, cap, rfl⟩
theorem cell_ptr_new (w : World) (o : Obj) (x : Value) (t : TypeId) : ∀ j u, [x][j]? = some u → ((w.alloc o).alloc (.cells #[x] t)).cell? ((⟨w.heap.size + 1, 0, none⟩ : Addr).add j) = some u := by
  have h := cell_one_new (w.alloc o) x t
  have hz : (w.alloc o).heap.size = w.heap.size + 1 := by simp
  rw [hz] at h
  exact h

theorem app_block {base bs : Nat} {sq : Int} {qv m : Value} {Q : List QI} {w w1 : World} {o1 o2 : Obj} (h : SOk base w bs sq qv m Q) (hb : ∀ g, qv.ownBlock = some g → g ≠ bs) (hg : ((w.alloc o1).alloc o2).grownBy w1 qv.ownBlock) :
    w1.heap[bs]? = some (.cells #[.int .i64 0, .int .u64 sq, qv, m] 97 (0, 0)) := by
  have hlt : bs < w.heap.size := (Array.getElem?_eq_some_iff.1 h.sch).1
  rw [hg.block bs (by simp; omega) (fun e => hb bs e.symm rfl)]
  exact at_old' (at_old' h.sch _) _

theorem new_queue {base bs : Nat} {sq aft : Int} {qv m v' : Value} {Q : List QI} {w w1 : World} {o2 : Obj} (h : SOk base w bs sq qv m Q) (hb : ∀ g, qv.ownBlock = some g → g ≠ bs) (hbw : base ≤ w.heap.size)
    (hown : w1.ownsRow base 117 1 v' (Q.length + 1) (Q.map qptr ++ [.pointer (some ⟨w.heap.size, 0, none⟩)])) (hg : ((w.alloc (.cells #[.int .i64 aft, .slice none 0 0, .int .i64 0, .int .i64 0] 122)).alloc o2).grownBy w1 qv.ownBlock)
    (hloc : v'.ownBlock = qv.ownBlock ∨ v'.ownBlock = some ((w.alloc (.cells #[.int .i64 aft, .slice none 0 0, .int .i64 0, .int .i64 0] 122)).alloc o2).heap.size) :
    QueueOk base w bs sq qv m Q (.pointer (some ⟨w.heap.size, 0, none⟩)) (w1.setCell ⟨bs, 2, none⟩ v') := by
  have hbk := app_block h hb hg
  have hlt : bs < w.heap.size := (Array.getElem?_eq_some_iff.1 h.sch).1
  have hk1 : Kept (fun k => some k = qv.ownBlock) w w1 := ((kept_alloc _ w _).trans (kept_alloc _ _ o2)).trans ((Kept.grown hg).mono (fun _ _ h => h))
  have hkS : Kept (fun k => k = bs ∨ some k = qv.ownBlock) w (w1.setCell ⟨bs, 2, none⟩ v') := (hk1.mono (fun _ _ h => Or.inr h)).andThen (kept_set w1 bs 2 v') (fun _ _ h => Or.inl h)
  have hnew : w1.heap[w.heap.size]? = some (.cells #[.int .i64 aft, .slice none 0 0, .int .i64 0, .int .i64 0] 122 (0, 0)) := by
    rw [hg.block w.heap.size (by simp; omega) (fun e => by obtain ⟨cur, h1, _⟩ := row_tag h.row e.symm; have := (Array.getElem?_eq_some_iff.1 h1).1; omega)]
    exact at_old' (MapKept.heap_alloc w _).1 _
  have hrow' : (w1.setCell ⟨bs, 2, none⟩ v').ownsRow base 117 1 v' (Q.length + 1) (Q.map qptr ++ [.pointer (some ⟨w.heap.size, 0, none⟩)]) :=
    row_kept hown (kept_set w1 bs 2 v') (fun g hg' e => by
      obtain ⟨cur, h1, _⟩ := row_tag hown hg'
      exact tag_ne h1 hbk (by decide) e)
  refine ⟨v', Q ++ [⟨w.heap.size, aft, none, 0, 0⟩], ⟨w.heap.size, aft, none, 0, 0⟩, Q.length, rfl, by simp, ⟨?_, h.low, ?_, ?_, ?_, ?_⟩, hkS, ?_, ?_, by simp⟩
  · rw [heap_setCell_same w1 bs 2 _ 97 v' hbk]; rfl
  · simpa [qptr] using hrow'
  · intro q hq
    rcases List.mem_append.1 hq with hq | hq
    · refine q_kept (h.qs q hq) hkS ?_ ?_
      · rintro (e | e)
        · exact tag_ne (h.qs q hq).cells h.sch (by decide) e
        · obtain ⟨cur, h1, _⟩ := row_tag h.row e.symm
          exact tag_ne (h.qs q hq).cells h1 (by decide) rfl
      · intro g hg'
        obtain ⟨_, _, cur, h1, _⟩ := (h.qs q hq).some g hg'
        rintro (e | e)
        · exact tag_ne h1 h.sch (by decide) e
        · obtain ⟨cur', h2, _⟩ := row_tag h.row e.symm
          exact tag_ne h1 h2 (by decide) rfl
    · simp only [List.mem_singleton] at hq
      subst hq
      refine ⟨?_, hbw, Nat.le_refl _, Or.inl rfl, Nat.zero_le _, fun _ => rfl, fun g hg' => by cases hg'⟩
      rw [heap_setCell_other w1 _ _ _ (by show w.heap.size ≠ bs; omega), hnew]
      rfl
  · simp only [List.map_append, List.map_cons, List.map_nil]
    refine List.nodup_append.2 ⟨h.nd, by simp, ?_⟩
    intro a ha b hb' e
    simp only [List.mem_singleton] at hb'
    obtain ⟨p, hp, rfl⟩ := List.mem_map.1 ha
    have := (Array.getElem?_eq_some_iff.1 (h.qs p hp).cells).1
    omega
  · intro i j p q g hp hq hpg hqg
    have lt : ∀ {i : Nat} {p : QI}, (Q ++ [(⟨w.heap.size, aft, none, 0, 0⟩ : QI)])[i]? = some p → p.ring = some g → Q[i]? = some p := by
      intro i p hp hpg
      by_cases hi : i < Q.length
      · rwa [List.getElem?_append_left hi] at hp
      · rw [List.getElem?_append_right (by omega)] at hp
        have hi' : i - Q.length = 0 := by
          cases hz : i - Q.length with
          | zero => rfl
          | succ n => rw [hz] at hp; simp at hp
        rw [hi'] at hp
        simp at hp
        subst hp
        cases hpg
    exact h.rd i j p q g (lt hp hpg) (lt hq hqg) hpg hqg
  · intro p hp
    rcases List.mem_append.1 hp with hp | hp
    · exact Or.inl hp
    · simp only [List.mem_singleton] at hp
      subst hp
      exact Or.inr ⟨rfl, rfl, Nat.le_refl _⟩
  · intro g hg'
    rcases hloc with e | e
    · exact Or.inl (e ▸ hg')
    · rw [e] at hg'
      cases hg'
      exact Or.inr (by simp; omega)

set_option maxHeartbeats 1000000 in
set_option maxRecDepth 100000 in
theorem queue_any (base bs : Nat) (sq aft : Int) (qv m : Value) (Q : List QI) (w : World) (h : SOk base w bs sq qv m Q) (hQ : Q.length ≤ 1024) (hbw : base ≤ w.heap.size) :
    Calls Yba.prog 17 #[.pointer (some ⟨bs, 0, none⟩), .int .i64 aft] w fun e w' => ∃ v, e = .returned v ∧ QueueOk base w bs sq qv m Q v w' := by
  obtain ⟨i0, hi, hz0, hz1, hz2⟩ := info_parts info117
  obtain ⟨ao, cp, hsh⟩ : ∃ ao cap, qv = .slice ao Q.length cap := by
    rcases h.row.2 with ⟨rfl, h0⟩ | ⟨g, cap, cur, rfl, _⟩
    · exact ⟨none, 0, by rw [h0]⟩
    · exact ⟨_, _, rfl⟩
  subst hsh
  have s2 : w.cell? ⟨bs, 2, none⟩ = some (.slice ao Q.length cp) := by simp [World.cell?, h.sch]
  have hbs : bs < w.heap.size := (Array.getElem?_eq_some_iff.1 h.sch).1
  have hf2 : w.frozen? ⟨bs, 2, none⟩ = false := frozen_of_row w bs 2 _ _ h.sch
  have HS : Hid (SOk base w bs sq (.slice ao Q.length cp) m Q) := h
  clear h
  go_enter Yba.func17, Yba.ntmps17
  go_wp2
  go_loop [13] (fun i => ∃ k : Nat, k ≤ Q.length ∧ i = .int .i64 k) (fun i => Q.length - (intOf i).toNat)
  case atStart => exact ⟨0, Nat.zero_le _, rfl⟩
  case round =>
    obtain ⟨k, hk, rfl⟩ := hrel
    by_cases hlt : k < Q.length
    · obtain ⟨q, hq⟩ : ∃ q, Q[k]? = some q := ⟨_, List.getElem?_eq_getElem hlt⟩
      have hqm : q ∈ Q := List.mem_of_getElem? hq
      obtain ⟨g, hao⟩ : ∃ g, ao = some ⟨g, 0, none⟩ := by
        rcases HS.out.row.2 with ⟨e, h0⟩ | ⟨g, cap, cur, e, _⟩
        · omega
        · cases e; exact ⟨g, rfl⟩
      subst hao
      have hr : w.cell? ⟨g, k, none⟩ = some (.pointer (some ⟨q.blk, 0, none⟩)) := by
        rw [HS.out.row.cellAt k (by omega)]
        simp [hq, qptr]
      have hq0 : w.cell? ⟨q.blk, 0, none⟩ = some (.int .i64 q.aft) := by simp [World.cell?, (HS.out.qs q hqm).cells]
      have HQ : Hid (Q[k]? = some q) := hq
      clear hq hqm
      by_cases ha : q.aft = aft
      · have hb : (q.aft == aft) = true := by simpa using ha
        have HF : Hid (QueueOk base w bs sq (.slice (some ⟨g, 0, none⟩) Q.length cp) m Q (qptr q) w) := ⟨_, Q, q, k, rfl, HQ.out, HS.out, Kept.refl _ _, fun p hp => Or.inl hp, fun g hg => Or.inl hg, by omega⟩
        clear ha
        go_wp2
        go_ret
        exact ⟨_, rfl, HF.out⟩
      · have hb : (q.aft == aft) = false := by simpa using ha
        clear ha
        go_wp2
        go_round
        case rel => exact ⟨k + 1, by omega, by go_num⟩
        case measure => simp [intOf]; omega
    · have hkq : k = Q.length := by omega
      subst hkq
      have hrb : ∀ g, (Value.slice ao Q.length cp).ownBlock = some g → g ≠ bs := fun g hg => by
        obtain ⟨cur, h1, _⟩ := row_tag HS.out.row hg
        exact tag_ne h1 HS.out.sch (by decide)
      have HB : Hid (∀ g, (Value.slice ao Q.length cp).ownBlock = some g → g ≠ bs) := hrb
      clear hrb
      go_wp2_with (first
        | (at_builtin; refine wpList_append_own_at _ rfl _ _ 95 rfl base 117 i0 (.pointer none) 1 8 Yba.underlying95 hi hz0 hz1 hz2 rfl (by decide) _ _ _ rfl ((HS.out.row.alloc _).alloc _) ⟨w.heap.size + 1, 0, none⟩ 1 1 [.pointer (some ⟨w.heap.size, 0, none⟩)] rfl rfl (cell_ptr_new _ _ _ _) (ptr_one _) (by unfold maxLen; omega) (by omega) (by simp; omega) ?_; intro v' w1 hown' hgrow hnil hloc; obtain ⟨gx, cpx, hvx⟩ := form_of hown' (Nat.succ_pos _); subst hvx; have hbk := app_block HS.out HB.out hgrow; have t2 : w1.cell? ⟨bs, 2, none⟩ = some (.slice ao Q.length cp) := (by simp [World.cell?, hbk]); have tf := frozen_of_row w1 bs 2 _ _ hbk; have HF : Hid _ := new_queue HS.out HB.out hbw hown' hgrow hloc; clear hbk hown' hgrow hnil hloc))
      go_ret
      exact ⟨_, rfl, HF.out⟩

end Go.Proofs.Ybulkadhw
