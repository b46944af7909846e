/-
  THE WALK OF (*schedule).setTimer (15).
-/
import Derived.Test.YbulkadhwAdd
import Derived.Test.YbulkadhwFind
import Derived.Deep.DeepCutAuto
namespace Go.Proofs.Ybulkadhw
open Go.RowKit Go.Tab
set_option linter.unusedVariables false
set_option linter.unusedSimpArgs false

/-- The map of timers: nil, or a block of the schedule's own. -/
def TOk (base : Nat) (w : World) (m : Value) (T : List ((ByteArray × Int) × Int)) : Prop :=
  (m = .map none ∧ T = []) ∨ ∃ B, m = .map (some B) ∧ base ≤ B ∧ tab w B tk (Value.int .u64) T

/-- What setTimer may write. -/
def ownT (bs : Nat) (qv m : Value) (Q : List QI) (k : Nat) : Prop := own bs qv Q k ∨ m = .map (some k)

/-- What setTimer leaves. -/
def TimerOk (base : Nat) (w : World) (bs : Nat) (qv m : Value) (Q : List QI) (K : Nat) (sq' : Int) (T' : List ((ByteArray × Int) × Int)) (w' : World) : Prop :=
  ∃ (qv' m' : Value) (Q' : List QI), SOk base w' bs sq' qv' m' Q' ∧ TOk base w' m' T' ∧ Q'.length ≤ Q.length + 1 ∧ (∀ q ∈ Q', q.n ≤ K + 1) ∧ Kept (ownT bs qv m Q) w w'

theorem tab_own {base bs : Nat} {sq : Int} {qv m : Value} {Q : List QI} {w : World} {B : Nat} {T : List ((ByteArray × Int) × Int)} (h : SOk base w bs sq qv m Q) (ht : tab w B tk (Value.int .u64) T) : ¬ own bs qv Q B := by
  intro ho
  obtain ⟨_, _, c, t, hc, _⟩ := own_tag h ho
  obtain ⟨es, clock, hb, _⟩ := ht
  rw [hb] at hc
  cases hc

theorem tab_keep {w w' : World} {S : Nat → Prop} {B : Nat} {T : List ((ByteArray × Int) × Int)} (h : tab w B tk (Value.int .u64) T) (hk : Kept S w w') (hS : ¬ S B) : tab w' B tk (Value.int .u64) T := h.of_block (hk.block B h.lt hS)

theorem kept_turned {w w' : World} {B : Nat} (h : w.mapTurned w' B) : Kept (fun k => k = B) w w' := (Kept.grown h.grown).mono (fun i _ e => by cases e; rfl)

/-- The message's block behind the delete. -/
theorem msg_kept {w w2 : World} {B : Nat} {ms ky : Array Value} (h : ((w.alloc (.cells ms 102)).alloc (.cells ky 89)).drew.mapTurned w2 B) (hB : B < w.heap.size) :
    w2.heap[w.heap.size]? = some (.cells ms 102 (0, 0)) ∧ w2.heap[w.heap.size + 1]? = some (.cells ky 89 (0, 0)) ∧ w2.heap.size = w.heap.size + 2 := by
  have hz : ((w.alloc (.cells ms 102)).alloc (.cells ky 89)).drew.heap.size = w.heap.size + 2 := by
    show ((w.alloc (.cells ms 102)).alloc (.cells ky 89)).heap.size = _
    simp
  have hg := h.grown
  refine ⟨?_, ?_, ?_⟩
  · rw [hg.block w.heap.size (by omega) (by simp; omega)]
    exact at_old' (MapKept.heap_alloc w _).1 _
  · rw [hg.block (w.heap.size + 1) (by omega) (by simp; omega)]
    have := (MapKept.heap_alloc (w.alloc (.cells ms 102)) (.cells ky 89)).1
    have e : (w.alloc (.cells ms 102)).heap.size = w.heap.size + 1 := by simp
    rw [e] at this
    exact this
  · obtain ⟨es, clock, es', clock', _, rfl⟩ := h
    simp [ChangeMaps.setBlock]

theorem step_delete_nil {w : World} {ops : Array Oper} {o : Oper} {a : Act} {Kc : Act → World → Prop} {Q : Exit → Act → World → Prop} {E : Prop} (hg : o.guard = none) (mo x : Operand) (hop : o.op = Op.call { callee := Callee.builtin Builtin.delete, args := #[mo, x], argTypes := #[84, 89] })
    (hm : a.eval mo = .map none) (y : ByteArray × Int) (hx : a.eval x = tk y) (hK : Kc (a.put o.dst (.tuple #[])) w) :
    if Region.wanted o (yielded ops a.tmps) = true then Oper.wp Yba.prog o a w Kc Q else E := by
  have hw : Region.wanted o (yielded ops a.tmps) = true := by simp [Region.wanted, hg]
  rw [if_pos hw]
  have hrun : (Builtin.delete_ #[84, 89] o.type #[.map none, tk y]).run Yba.prog w = .ok (.tuple #[]) w := by
    simp [Builtin.delete_, run_underlying Yba.underlying84, tk_check w true y, Result.andThen]
  unfold Oper.wp
  simp [execOp, hop, resolve, invoke, builtin, hm, hx, hrun, Result.andThen]
  exact hK

set_option maxHeartbeats 1000000 in
set_option maxRecDepth 100000 in
theorem timer_stop_nil (base bs : Nat) (sq aft : Int) (qv : Value) (Q : List QI) (s : ByteArray) (t : Int) (K : Nat) (w : World) (h : SOk base w bs sq qv (.map none) Q) (hn : ∀ q ∈ Q, q.n ≤ K) :
    Calls Yba.prog 15 #[.pointer (some ⟨bs, 0, none⟩), .agg #[.string s, .string ⟨#[]⟩, .int .u8 6, .slice none 0 0, .iface 3 (.int .i64 t), .int .u64 0, .int .i64 aft, .bool true]] w fun e w' => e = .returned (.tuple #[]) ∧ TimerOk base w bs qv (.map none) Q K sq [] w' := by
  have s3 : w.cell? ⟨bs, 3, none⟩ = some (.map none) := by simp [World.cell?, h.sch]
  have hbs : bs < w.heap.size := (Array.getElem?_eq_some_iff.1 h.sch).1
  have HF : Hid (∀ w', Kept (fun _ => False) w w' → TimerOk base w bs qv (.map none) Q K sq [] w') := fun w' hk =>
    ⟨qv, .map none, Q, h.keep hk (fun _ _ h => h), Or.inl ⟨rfl, rfl⟩, by omega, fun q hq => Nat.le_succ_of_le (hn q hq), hk.mono (fun _ _ h => h.elim)⟩
  clear h hn
  go_enter Yba.func15, Yba.ntmps15
  go_wp2
  go_region_law (refine step_delete_nil rfl _ _ rfl rfl (s, t) rfl ?_)
  all_goals go_wp2
  all_goals exact bodyPost_ret (v := .tuple #[]) (results_none (by kernel_rfl) _ _ _) rfl ⟨rfl, HF.out _ (((kept_alloc _ w _).trans (kept_alloc _ _ _)).trans (kept_drew _ _))⟩

set_option maxHeartbeats 1000000 in
set_option maxRecDepth 100000 in
theorem timer_stop_tab (base bs B : Nat) (sq aft : Int) (qv : Value) (Q : List QI) (s : ByteArray) (t : Int) (K : Nat) (T : List ((ByteArray × Int) × Int)) (w : World) (h : SOk base w bs sq qv (.map (some B)) Q) (hB : base ≤ B) (ht : tab w B tk (Value.int .u64) T) (hn : ∀ q ∈ Q, q.n ≤ K) :
    Calls Yba.prog 15 #[.pointer (some ⟨bs, 0, none⟩), .agg #[.string s, .string ⟨#[]⟩, .int .u8 6, .slice none 0 0, .iface 3 (.int .i64 t), .int .u64 0, .int .i64 aft, .bool true]] w fun e w' => e = .returned (.tuple #[]) ∧ TimerOk base w bs qv (.map (some B)) Q K sq (del T (s, t)) w' := by
  have s3 : w.cell? ⟨bs, 3, none⟩ = some (.map (some B)) := by simp [World.cell?, h.sch]
  have hbs : bs < w.heap.size := (Array.getElem?_eq_some_iff.1 h.sch).1
  have HT : Hid (tab w B tk (Value.int .u64) T) := ht
  have hBw : B < w.heap.size := ht.lt
  have HF : Hid (∀ w1 w', Kept (fun _ => False) w w1 → w1.mapTurned w' B → tab w' B tk (Value.int .u64) (del T (s, t)) → TimerOk base w bs qv (.map (some B)) Q K sq (del T (s, t)) w') := fun w1 w' hk hturn ht' =>
    have hk2 : Kept (fun k => k = B) w w' := (hk.mono (fun _ _ h => h.elim)).andThen (kept_turned hturn) (fun _ _ h => h)
    ⟨qv, .map (some B), Q, h.keep hk2 (fun k ho e => tab_own h ht (e ▸ ho)), Or.inr ⟨B, rfl, hB, ht'⟩, by omega, fun q hq => Nat.le_succ_of_le (hn q hq), hk2.mono (fun i _ e => Or.inr (by rw [e]))⟩
  clear h hn ht
  go_enter Yba.func15, Yba.ntmps15
  go_wp2
  go_region_law (refine step_delete_tab rfl _ _ 84 89 rfl 25 keys89 Yba.underlying84 B rfl ((HT.out.alloc _).alloc _).drew (fun _ _ => trivial) (s, t) trivial rfl ?_; intro w2 ht2 hturn2; have hm2 := msg_kept hturn2 hBw)
  all_goals have m7 : w2.cell? ⟨w.heap.size, 7, none⟩ = some (.bool true) := by simp [World.cell?, hm2.1]
  all_goals have HX : Hid (TimerOk base w bs qv (.map (some B)) Q K sq (del T (s, t)) w2) := HF.out _ w2 (((kept_alloc _ w _).trans (kept_alloc _ _ _)).trans (kept_drew _ _)) hturn2 ht2
  all_goals clear hturn2 ht2 hm2
  all_goals go_wp2
  all_goals exact bodyPost_ret (v := .tuple #[]) (results_none (by kernel_rfl) _ _ _) rfl ⟨rfl, HX.out⟩

theorem eql84nil (w : World) : (binOp .eql 84 (.map none) (.map none)).run Yba.prog w = .ok (.bool true) w := by kernel_rfl
theorem eql84some (b : Nat) (w : World) : (binOp .eql 84 (.map (some b)) (.map none)).run Yba.prog w = .ok (.bool false) w := by kernel_rfl

/-- Behind the delete. -/
structure Del (base : Nat) (w wc : World) (bs : Nat) (sq : Int) (qv m m' : Value) (Q : List QI) (T : List ((ByteArray × Int) × Int)) (ms ky : Array Value) : Prop where
  sok : SOk base wc bs sq qv m' Q
  tok : TOk base wc m' T
  msg : wc.heap[w.heap.size]? = some (.cells ms 102 (0, 0))
  key : wc.heap[w.heap.size + 1]? = some (.cells ky 89 (0, 0))
  size : w.heap.size + 2 ≤ wc.heap.size
  kept : Kept (ownT bs qv m Q) w wc

/-- Behind add: the map's store is laid ready. -/
theorem add_store {base bs B K : Nat} {sq : Int} {qv m : Value} {Q : List QI} {T : List ((ByteArray × Int) × Int)} {w wc w6 : World} {ms ky : Array Value} {s : ByteArray} {t : Int} (D : Del base w wc bs sq qv m (.map (some B)) Q T ms ky) (hBlow : base ≤ B) (ht : tab wc B tk (Value.int .u64) T) (hfresh : w.heap.size ≤ B ∨ m = .map (some B))
    (ha : AddOk base wc.drew bs sq qv (.map (some B)) Q K w6) :
    w6.cell? ⟨bs, 3, none⟩ = some (.map (some B)) ∧ w6.heap[w.heap.size + 1]? = some (.cells ky 89 (0, 0)) ∧ ∃ w7, (Instr.mapUpdate 84 (.map (some B)) (tk (s, t)) (.int .u64 sq)).run Yba.prog w6 = .ok () w7 ∧ TimerOk base w bs qv m Q K (sq + 1) (put T (s, t) sq) w7 := by
  obtain ⟨qv', Q', hS, hl, hn, hk⟩ := ha
  have hkk : Kept (own bs qv Q) wc w6 := (kept_drew _ wc).trans hk
  have nown : ∀ k o, wc.heap[k]? = some o → (∀ c t, o = .cells c t (0, 0) → t ≠ 97 ∧ t ≠ 104 ∧ t ≠ 117 ∧ t ≠ 122) → ¬ own bs qv Q k := by
    intro k o hko htag ho
    obtain ⟨_, _, c, t, hc, h4⟩ := own_tag D.sok ho
    rw [hko] at hc
    obtain ⟨n1, n2, n3, n4⟩ := htag c t (Option.some.inj hc)
    rcases h4 with h | h | h | h
    · exact n1 h
    · exact n2 h
    · exact n3 h
    · exact n4 h
  have ht6 : tab w6 B tk (Value.int .u64) T := tab_keep ht hkk (tab_own D.sok ht)
  obtain ⟨w7, hup, ht7, hturn⟩ := ht6.store keys89 (fun _ _ => trivial) Yba.underlying84 (x := (s, t)) trivial sq
  refine ⟨by simp [World.cell?, hS.sch], ?_, w7, hup, ?_⟩
  · rw [hkk.block _ (Array.getElem?_eq_some_iff.1 D.key).1 (nown _ _ D.key (fun c t e => by cases e; decide))]
    exact D.key
  · have hk7 : Kept (fun k => k = B) w6 w7 := kept_turned hturn
    refine ⟨qv', .map (some B), Q', hS.keep hk7 (fun k ho e => tab_own hS ht6 (e ▸ ho)), Or.inr ⟨B, rfl, hBlow, ht7⟩, hl, hn, ?_⟩
    refine ((D.kept.andThen hkk (fun i _ h => Or.inl h)).andThen hk7 (fun i hi e => ?_))
    rcases hfresh with h | h
    · omega
    · exact Or.inr (by rw [h, e])

theorem del_nil {base bs : Nat} {sq : Int} {qv : Value} {Q : List QI} {w : World} {ms ky : Array Value} (h : SOk base w bs sq qv (.map none) Q) : Del base w ((w.alloc (.cells ms 102)).alloc (.cells ky 89)).drew bs sq qv (.map none) (.map none) Q [] ms ky := by
  have hk : ∀ S, Kept S w ((w.alloc (.cells ms 102)).alloc (.cells ky 89)).drew := fun S => ((kept_alloc S w _).trans (kept_alloc _ _ _)).trans (kept_drew _ _)
  have e : (w.alloc (.cells ms 102)).heap.size = w.heap.size + 1 := by simp
  refine ⟨h.keep (hk (fun _ => False)) (fun _ _ h => h), Or.inl ⟨rfl, rfl⟩, at_old' (MapKept.heap_alloc w _).1 _, ?_, ?_, hk _⟩
  · have := (MapKept.heap_alloc (w.alloc (.cells ms 102)) (.cells ky 89)).1
    rw [e] at this
    exact this
  · show _ ≤ ((w.alloc (.cells ms 102)).alloc (.cells ky 89)).heap.size
    simp

theorem del_tab {base bs B : Nat} {sq : Int} {qv : Value} {Q : List QI} {T T' : List ((ByteArray × Int) × Int)} {w w2 : World} {ms ky : Array Value} (h : SOk base w bs sq qv (.map (some B)) Q) (ht : tab w B tk (Value.int .u64) T) (hB : base ≤ B)
    (hturn : ((w.alloc (.cells ms 102)).alloc (.cells ky 89)).drew.mapTurned w2 B) (ht2 : tab w2 B tk (Value.int .u64) T') : Del base w w2 bs sq qv (.map (some B)) (.map (some B)) Q T' ms ky := by
  obtain ⟨h1, h2, h3⟩ := msg_kept hturn ht.lt
  have hk : Kept (fun k => k = B) w w2 := (((kept_alloc _ w _).trans (kept_alloc _ _ _)).trans (kept_drew _ _)).trans (kept_turned hturn)
  exact ⟨h.keep hk (fun k ho e => tab_own h ht (e ▸ ho)), Or.inr ⟨B, rfl, hB, ht2⟩, h1, h2, by omega, hk.mono (fun i _ e => Or.inr (by rw [e]))⟩

theorem tok_tab {base B : Nat} {w : World} {T : List ((ByteArray × Int) × Int)} (h : TOk base w (.map (some B)) T) : tab w B tk (Value.int .u64) T := by
  rcases h with ⟨h, _⟩ | ⟨B', h, _, ht⟩
  · cases h
  · cases h
    exact ht

theorem Del.made {base bs : Nat} {sq : Int} {qv : Value} {Q : List QI} {w wc : World} {ms ky : Array Value} (D : Del base w wc bs sq qv (.map none) (.map none) Q [] ms ky) (hb : base ≤ wc.heap.size) :
    Del base w ((wc.setCell ⟨bs, 3, none⟩ (.map (some wc.heap.size))).alloc (.map #[] 0)) bs sq qv (.map none) (.map (some wc.heap.size)) Q [] ms ky := by
  have h1 := D.sok.field 3 (.map (some wc.heap.size)) sq (.map (some wc.heap.size)) rfl
  have hk1 : Kept (fun k => k = bs) wc ((wc.setCell ⟨bs, 3, none⟩ (.map (some wc.heap.size))).alloc (.map #[] 0)) := (kept_set wc bs 3 _).trans (kept_alloc _ _ _)
  have e : (wc.setCell ⟨bs, 3, none⟩ (.map (some wc.heap.size))).heap.size = wc.heap.size := by simp
  have hm := tab_made (wc.setCell ⟨bs, 3, none⟩ (.map (some wc.heap.size))) tk (Value.int .u64)
  rw [e] at hm
  refine ⟨h1.keep (kept_alloc (fun _ => False) _ _) (fun _ _ h => h), Or.inr ⟨_, rfl, hb, hm⟩, ?_, ?_, ?_, D.kept.andThen hk1 (fun i _ e => Or.inl (Or.inl e))⟩
  · rw [hk1.block _ (Array.getElem?_eq_some_iff.1 D.msg).1 (fun e => tag_ne D.msg D.sok.sch (by decide) e)]; exact D.msg
  · rw [hk1.block _ (Array.getElem?_eq_some_iff.1 D.key).1 (fun e => tag_ne D.key D.sok.sch (by decide) e)]; exact D.key
  · have := hk1.size
    have := D.size
    omega

end Go.Proofs.Ybulkadhw
