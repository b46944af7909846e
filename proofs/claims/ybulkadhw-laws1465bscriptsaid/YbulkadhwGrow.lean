/-
  push WHERE THE RING IS FULL: a new ring, the old one copied over.
-/
import Derived.Test.YbulkadhwPush
import Derived.Deep.RegionLaw
import Derived.Deep.DeepCutAuto
namespace Go.Proofs.Ybulkadhw
open Go.RowKit Go.Tab
set_option linter.unusedVariables false
set_option linter.unusedSimpArgs false

theorem size104 : (Yba.prog.info? 104).map (·.size) = some 10 := by kernel_rfl
theorem info104 : (Yba.prog.info? 104).map (fun i => (i.zero, i.size, i.bytes)) = some (some (.agg #[.int .i64 0, .int .u64 0, .string ByteArray.empty, .string ByteArray.empty, .int .u8 0, .slice none 0 0, .nilIface, .int .u64 0, .int .i64 0, .bool false]), 10, 120) := by kernel_rfl

/-- A row of events: its length in cells, each one cell. -/
def RowOk (w : World) (g m : Nat) : Prop := ∃ cur, w.heap[g]? = some (.cells cur 104 (0, 0)) ∧ cur.size = m ∧ ∀ v ∈ cur.toList, v.oneCell' = true

theorem RowOk.kept {S : Nat → Prop} {w w' : World} {g m : Nat} (h : RowOk w g m) (hk : Kept S w w') (hS : ¬ S g) : RowOk w' g m := by
  obtain ⟨cur, h1, h2⟩ := h
  exact ⟨cur, (hk.block g (Array.getElem?_eq_some_iff.1 h1).1 hS).trans h1, h2⟩

theorem run_copy_ring (w : World) (ty g o dLen dCap : Nat) (sp : Option Addr) (sLen sCap m : Nat) (hg : RowOk w g m) (hfit : o + Nat.min sLen dLen * 10 ≤ m)
    (hsrc : 0 < Nat.min sLen dLen → ∃ gs os ms, sp = some ⟨gs, os, none⟩ ∧ RowOk w gs ms ∧ os + Nat.min sLen dLen * 10 ≤ ms) :
    ∃ w', (Builtin.copy_ #[120, 120] ty #[.slice (some ⟨g, o, none⟩) dLen dCap, .slice sp sLen sCap]).run Yba.prog w = .ok (.int .i64 (Nat.min sLen dLen)) w' ∧ RowOk w' g m ∧ Kept (fun k => k = g) w w' := by
  obtain ⟨i, hi, hs⟩ : ∃ i, Yba.prog.info? 104 = some i ∧ i.size = 10 := by
    have h := size104
    cases hq : Yba.prog.info? 104 with
    | none => simp [hq] at h
    | some i => exact ⟨i, rfl, by simpa [hq] using h⟩
  by_cases h0 : Nat.min sLen dLen = 0
  · have hl : ∀ (x : Addr), (loadCells x 0).run Yba.prog w = .ok #[] w := fun x => by simpa using run_loadCells_list (P := Yba.prog) w x [] (by simp)
    refine ⟨w, ?_, hg, Kept.refl _ _⟩
    cases sp <;> simp [Builtin.copy_, run_underlying Yba.underlying120, Builtin.lenOf, Builtin.firstCells, sizeOf, typeInfo, hi, hs, h0, storeCells, hl, goInt]
  · obtain ⟨gs, os, ms, rfl, ⟨scur, s1, s2, s3⟩, hos⟩ := hsrc (by omega)
    obtain ⟨cur, g1, g2, g3⟩ := hg
    have hl := run_loadCells_list (P := Yba.prog) w ⟨gs, os, none⟩ ((scur.toList.drop os).take (Nat.min sLen dLen * 10)) (fun j v hj => by
      rw [List.getElem?_take] at hj
      split at hj
      · rw [List.getElem?_drop] at hj
        have e : (⟨gs, os, none⟩ : Addr).add j = ⟨gs, os + j, none⟩ := by unfold Addr.add; split <;> simp_all
        rw [e]
        simp [World.cell?, s1]
        simpa using hj
      · cases hj)
    have hlen : ((scur.toList.drop os).take (Nat.min sLen dLen * 10)).length = Nat.min sLen dLen * 10 := by
      rw [List.length_take, List.length_drop, Array.length_toList]; omega
    have hone : ∀ v ∈ (scur.toList.drop os).take (Nat.min sLen dLen * 10), v.oneCell' = true := fun v hv => s3 v (List.mem_of_mem_drop (List.mem_of_mem_take hv))
    have hst := run_storeCells_at (P := Yba.prog) g o 104 ((scur.toList.drop os).take (Nat.min sLen dLen * 10)) 0 cur w g1 (by rw [hlen]; omega) hone
    rw [hlen] at hl hst
    generalize hX : (cur.toList.take (o + 0) ++ (scur.toList.drop os).take (Nat.min sLen dLen * 10) ++ cur.toList.drop (o + 0 + Nat.min sLen dLen * 10)).toArray = X at hst
    refine ⟨w.setRow g X, ?_, ⟨X, setRow_heap w g _ _ 104 _ g1, ?_, ?_⟩, ⟨rfl, rfl, rfl, by simp [World.setRow], fun k _ hk => setRow_other w g k _ hk⟩⟩
    · simp [Builtin.copy_, run_underlying Yba.underlying120, Builtin.lenOf, Builtin.firstCells, sizeOf, typeInfo, hi, hs, hl, hst, goInt]
    · rw [← hX]
      simp only [List.size_toArray, List.length_append, hlen, List.length_take, List.length_drop, Array.length_toList]
      omega
    · intro v hv
      rw [← hX] at hv
      simp only [List.mem_append] at hv
      rcases hv with (hv | hv) | hv
      · exact g3 v (List.mem_of_mem_take hv)
      · exact hone v hv
      · exact g3 v (List.mem_of_mem_drop hv)

section
variable {w : World} {ops : Array Oper} {o : Oper} {a : Act} {Kc : Act → World → Prop} {Q : Exit → Act → World → Prop} {E : Prop}
theorem step_copy_ring (hgd : o.guard = none) (d s : Operand) (hop : o.op = Op.call { callee := Callee.builtin Builtin.copy, args := #[d, s], argTypes := #[120, 120] })
    (g off dLen dCap : Nat) (sp : Option Addr) (sLen sCap m : Nat) (hd : a.eval d = .slice (some ⟨g, off, none⟩) dLen dCap) (hs : a.eval s = .slice sp sLen sCap) (hg : RowOk w g m) (hfit : off + Nat.min sLen dLen * 10 ≤ m)
    (hsrc : 0 < Nat.min sLen dLen → ∃ gs os ms, sp = some ⟨gs, os, none⟩ ∧ RowOk w gs ms ∧ os + Nat.min sLen dLen * 10 ≤ ms) (N : Nat) (hN : Nat.min sLen dLen = N)
    (hK : ∀ w', RowOk w' g m → Kept (fun k => k = g) w w' → Kc (a.put o.dst (.int .i64 N)) w') :
    if Region.wanted o (yielded ops a.tmps) = true then Oper.wp Yba.prog o a w Kc Q else E := by
  have hw : Region.wanted o (yielded ops a.tmps) = true := by simp [Region.wanted, hgd]
  rw [if_pos hw]
  obtain ⟨w', hrun, r1, r2⟩ := run_copy_ring w o.type g off dLen dCap sp sLen sCap m hg hfit hsrc
  rw [hN] at hrun
  unfold Oper.wp
  simp [execOp, hop, resolve, invoke, builtin, hd, hs, hrun, Result.andThen]
  exact hK w' r1 r2
end

theorem drewN_heap' (w : World) : ∀ n, (w.drewN n).heap = w.heap
  | 0 => rfl
  | n + 1 => drewN_heap' w n

/-- Between the two copies: the old blocks are as they were, the event's copy lies at the first new block, the new ring at the second. -/
structure Mid (w W : World) (ev : Array Value) (m : Nat) : Prop where
  kept : Kept (fun _ => False) w W
  ev : W.heap[w.heap.size]? = some (.cells ev 104 (0, 0))
  row : RowOk W (w.heap.size + 1) m

theorem Mid.step {w W W' : World} {ev : Array Value} {m : Nat} (h : Mid w W ev m) (hk : Kept (fun k => k = w.heap.size + 1) W W') (hr : RowOk W' (w.heap.size + 1) m) : Mid w W' ev m := by
  refine ⟨h.kept.andThen hk (fun i hi e => by omega), ?_, hr⟩
  rw [hk.block w.heap.size (Array.getElem?_eq_some_iff.1 h.ev).1 (by omega)]
  exact h.ev
theorem Mid.drew {w W : World} {ev : Array Value} {m : Nat} (h : Mid w W ev m) : Mid w W.drew ev m := ⟨h.kept.trans (kept_drew _ _), h.ev, h.row⟩
theorem RowOk.drew {W : World} {g m : Nat} (h : RowOk W g m) : RowOk W.drew g m := h

theorem mid_made {w w1 : World} {ev : Array Value} {k n : Nat} {z : Value} (hg : ((w.alloc (.cells ev 104)).drewN k).grownBy w1 none) (hown : w1.ownsRow 0 104 10 (.slice (some ⟨((w.alloc (.cells ev 104)).drewN k).heap.size, 0, none⟩) n n) n (madeCells z.cells (n * 10)).toList)
    (hz : ∀ v ∈ (madeCells z.cells (n * 10)).toList, v.oneCell' = true) : Mid w w1 ev (n * 10) := by
  have hbz : ((w.alloc (.cells ev 104)).drewN k).heap.size = w.heap.size + 1 := by rw [drewN_heap']; simp
  rw [hbz] at hown
  have hk : Kept (fun _ => False) w w1 := ((kept_alloc _ w _).trans (kept_drewN _ _ k)).trans ((Kept.grown hg).mono (fun i _ e => by cases e))
  refine ⟨hk, ?_, ?_⟩
  · rw [hg.block w.heap.size (by rw [hbz]; omega) (by simp)]
    exact drewN_block' (MapKept.heap_alloc w _).1 k
  · rcases hown.2 with ⟨h, _⟩ | ⟨g', cap', cur, h, _, hh, _, _, hsz, htk⟩
    · simp at h
    · simp only [Value.slice.injEq, Option.some.injEq, Addr.mk.injEq, and_true, true_and] at h
      obtain ⟨rfl, rfl⟩ := h
      refine ⟨cur, hh, hsz, fun v hv => hz v ?_⟩
      rw [← htk, List.take_of_length_le (by rw [Array.length_toList, hsz]; exact Nat.le_refl _)]
      exact hv

theorem made_one (n : Nat) : ∀ v ∈ (madeCells (Value.agg #[.int .i64 0, .int .u64 0, .string ByteArray.empty, .string ByteArray.empty, .int .u8 0, .slice none 0 0, .nilIface, .int .u64 0, .int .i64 0, .bool false]).cells n).toList, v.oneCell' = true := by
  intro v hv
  simp only [madeCells, Array.toList_map, List.mem_map] at hv
  obtain ⟨i, _, rfl⟩ := hv
  have h10 : i % 10 < 10 := Nat.mod_lt _ (by omega)
  show (#[Value.int .i64 0, .int .u64 0, .string ByteArray.empty, .string ByteArray.empty, .int .u8 0, .slice none 0 0, .nilIface, .int .u64 0, .int .i64 0, .bool false][i % 10]!).oneCell' = true
  match i % 10, h10 with
  | 0, _ => rfl
  | 1, _ => rfl
  | 2, _ => rfl
  | 3, _ => rfl
  | 4, _ => rfl
  | 5, _ => rfl
  | 6, _ => rfl
  | 7, _ => rfl
  | 8, _ => rfl
  | 9, _ => rfl

theorem PushOk.drew {base : Nat} {w : World} {q : QI} {W : World} (h : PushOk base w q W) : PushOk base w q W.drew := by
  obtain ⟨q', h1, h2, h3, h4, h5, h6⟩ := h
  exact ⟨q', h1, h2, h3, ⟨h4.cells, h4.low, h4.le, h4.p2, h4.small, h4.none, h4.some⟩, h5, h6.trans (kept_drew _ _)⟩

/-- The new ring laid into the queue, then the event into it. -/
theorem grow_ok {base L : Nat} (bq : Nat) (aft : Int) (n : Nat) (w wc : World) (cur : Array Value) (vs : List Value) (m : Nat) (ro : Option Nat) {old : Value} {o : Nat} (hk : Kept (fun _ => False) w wc)
    (hq : wc.heap[bq]? = some (.cells #[.int .i64 aft, old, .int .i64 0, .int .i64 n] 122 (0, 0))) (hg : wc.heap[w.heap.size + 1]? = some (.cells cur 104 (0, 0))) (hcs : cur.size = L * 10) (hone : ∀ v ∈ cur.toList, v.oneCell' = true)
    (hn : n < L) (hL : L ≤ 2048) (hp : P2 L) (hb : base ≤ bq) (hbw : base ≤ w.heap.size) (hbq : bq < w.heap.size) (hvs : ∀ v ∈ vs, v.oneCell' = true) {len : Nat} :
    PushOk base w ⟨bq, aft, ro, len, n⟩ (((((wc.setCell ⟨bq, 1, none⟩ (.slice (some ⟨w.heap.size + 1, 0, none⟩) L L)).setCell ⟨bq, 2, none⟩ (.int .i64 0)).drewN m).setCells (w.heap.size + 1) o vs).setCell ⟨bq, 3, none⟩ (.int .i64 ((n : Int) + 1))) := by
  have h1 := heap_setCell_same wc bq 1 _ 122 (.slice (some ⟨w.heap.size + 1, 0, none⟩) L L) hq
  have h2 := heap_setCell_same _ bq 2 _ 122 (.int .i64 0) h1
  have g2 : ((wc.setCell ⟨bq, 1, none⟩ (.slice (some ⟨w.heap.size + 1, 0, none⟩) L L)).setCell ⟨bq, 2, none⟩ (.int .i64 0)).heap[w.heap.size + 1]? = some (.cells cur 104 (0, 0)) := by
    rw [heap_setCell_other _ _ _ _ (by show w.heap.size + 1 ≠ bq; omega), heap_setCell_other _ _ _ _ (by show w.heap.size + 1 ≠ bq; omega)]; exact hg
  have hkk : Kept (fun k => k = bq ∨ some k = ro) w (((wc.setCell ⟨bq, 1, none⟩ (.slice (some ⟨w.heap.size + 1, 0, none⟩) L L)).setCell ⟨bq, 2, none⟩ (.int .i64 0)).drewN m) :=
    (((hk.mono (fun _ _ h => h.elim)).andThen (kept_set wc bq 1 _) (fun i _ h => Or.inl h)).andThen (kept_set _ bq 2 _) (fun i _ h => Or.inl h)).trans (kept_drewN _ _ m)
  exact laid_ok (q := ⟨bq, aft, ro, len, n⟩) (cur := cur) vs o hvs hkk (drewN_block' (by rw [h2]; rfl) m) (drewN_block' g2 m) hcs hone hn hL hp hb (by omega) (Or.inr (by omega))

set_option maxHeartbeats 1000000 in
set_option maxRecDepth 100000 in
theorem push_first (base bq : Nat) (aft a0 a1 : Int) (s : ByteArray) (c t d : Int) (st : Bool) (w : World)
    (hq : w.heap[bq]? = some (.cells #[.int .i64 aft, .slice none 0 0, .int .i64 0, .int .i64 0] 122 (0, 0))) (hb : base ≤ bq) (hbw : base ≤ w.heap.size) :
    Calls Yba.prog 18 #[.pointer (some ⟨bq, 0, none⟩), .agg #[.int .i64 a0, .int .u64 a1, .string s, .string ⟨#[]⟩, .int .u8 c, .slice none 0 0, .iface 3 (.int .i64 t), .int .u64 0, .int .i64 d, .bool st]] w fun e w' => e = .returned (.tuple #[]) ∧ PushOk base w ⟨bq, aft, none, 0, 0⟩ w' := by
  have q1 : w.cell? ⟨bq, 1, none⟩ = some (.slice none 0 0) := by simp [World.cell?, hq]
  have q2 : w.cell? ⟨bq, 2, none⟩ = some (.int .i64 0) := by simp [World.cell?, hq]
  have q3 : w.cell? ⟨bq, 3, none⟩ = some (.int .i64 0) := by simp [World.cell?, hq]
  have hbq : bq < w.heap.size := (Array.getElem?_eq_some_iff.1 hq).1
  obtain ⟨i0, hi, hz0, hz1, hz2⟩ := info_parts info104
  have HQ : Hid (w.heap[bq]? = some (.cells #[.int .i64 aft, .slice none 0 0, .int .i64 0, .int .i64 0] 122 (0, 0))) := hq
  clear hq
  go_enter Yba.func18, Yba.ntmps18
  go_wp2
  go_quiet (fail)
  go_wp2_with (first
    | (at_make; refine wpList_make_full _ rfl _ _ 120 rfl 0 104 i0 _ 10 Yba.underlying120 hi hz0 hz1 .i64 .i64 _ _ 64 rfl rfl rfl rfl (by omega) (by unfold maxLen; omega) (Nat.zero_le _) ?_; intro w1 hown1 hgrow1))
  have M1 : Mid w w1 _ 640 := mid_made (n := 64) hgrow1 hown1 (made_one 640)
  have HM1 : Hid (Mid w w1 #[.int .i64 a0, .int .u64 a1, .string s, .string ⟨#[]⟩, .int .u8 c, .slice none 0 0, .iface 3 (.int .i64 t), .int .u64 0, .int .i64 d, .bool st] 640) := M1
  have r1 : w1.cell? ⟨bq, 1, none⟩ = some (.slice none 0 0) := by simp [World.cell?, M1.kept.block bq hbq (fun h => h), HQ.out]
  have r2 : w1.cell? ⟨bq, 2, none⟩ = some (.int .i64 0) := by simp [World.cell?, M1.kept.block bq hbq (fun h => h), HQ.out]
  clear hown1 hgrow1 q1 q2 q3 M1 hi hz0 hz1 hz2
  go_cut [5] from 24 to 34 (fun k wc => k = .int .i64 0 ∧ Mid w wc #[.int .i64 a0, .int .u64 a1, .string s, .string ⟨#[]⟩, .int .u8 c, .slice none 0 0, .iface 3 (.int .i64 t), .int .u64 0, .int .i64 d, .bool st] 640)
  case first =>
    go_region_law (refine step_copy_ring rfl _ _ rfl (w.heap.size + 1) 0 64 64 none 0 0 640 rfl rfl HM1.out.row.drew (by simp) (fun h => absurd h (by simp)) 0 (by simp) ?_; intro w2 hr2 hk2)
    all_goals (go_wp2_with fail; go_meet)
    all_goals exact ⟨rfl, HM1.out.drew.step hk2 hr2⟩
  case rest =>
    obtain ⟨rfl, M2⟩ := hcut
    have HM2 : Hid (Mid w wc #[.int .i64 a0, .int .u64 a1, .string s, .string ⟨#[]⟩, .int .u8 c, .slice none 0 0, .iface 3 (.int .i64 t), .int .u64 0, .int .i64 d, .bool st] 640) := M2
    have t1 : wc.cell? ⟨bq, 1, none⟩ = some (.slice none 0 0) := by simp [World.cell?, M2.kept.block bq hbq (fun h => h), HQ.out]
    have t2 : wc.cell? ⟨bq, 2, none⟩ = some (.int .i64 0) := by simp [World.cell?, M2.kept.block bq hbq (fun h => h), HQ.out]
    clear M2 r1 r2 HM1
    go_wp2
    go_cut [5] from 35 to 47 (fun k wc => k = .int .i64 0 ∧ Mid w wc #[.int .i64 a0, .int .u64 a1, .string s, .string ⟨#[]⟩, .int .u8 c, .slice none 0 0, .iface 3 (.int .i64 t), .int .u64 0, .int .i64 d, .bool st] 640)
    case first =>
      go_region_law (refine step_copy_ring rfl _ _ rfl (w.heap.size + 1) 0 64 64 none 0 0 640 rfl rfl HM2.out.row.drew (by simp) (fun h => absurd h (by simp)) 0 (by simp) ?_; intro w2 hr2 hk2)
      all_goals (go_wp2_with fail; go_meet)
      all_goals exact ⟨rfl, HM2.out.drew.step hk2 hr2⟩
    case rest =>
      clear HM2 t1 t2
      obtain ⟨rfl, M3⟩ := hcut
      obtain ⟨cur, hg, hcs, hone⟩ := M3.row
      have hqc : wc.heap[bq]? = some (.cells #[.int .i64 aft, .slice none 0 0, .int .i64 0, .int .i64 0] 122 (0, 0)) := (M3.kept.block bq hbq (fun h => h)).trans HQ.out
      have hlw : w.heap.size + 1 < wc.heap.size := (Array.getElem?_eq_some_iff.1 hg).1
      have HE : Hid (PushOk base w ⟨bq, aft, none, 0, 0⟩ ((((wc.setCell ⟨bq, 1, none⟩ (.slice (some ⟨w.heap.size + 1, 0, none⟩) 64 64)).setCell ⟨bq, 2, none⟩ (.int .i64 0)).setCells (w.heap.size + 1) 0 [.int .i64 a0, .int .u64 a1, .string s, .string ⟨#[]⟩, .int .u8 c, .slice none 0 0, .iface 3 (.int .i64 t), .int .u64 0, .int .i64 d, .bool st]).setCell ⟨bq, 3, none⟩ (.int .i64 1)).drew) := PushOk.drew <|
        grow_ok (L := 64) bq aft 0 w wc cur _ 0 none M3.kept hqc hg hcs hone (by omega) (by omega) (Or.inr ⟨6, by omega, rfl⟩) hb hbw hbq (ev_one a0 a1 s c t d st)
      have q1 : wc.cell? ⟨bq, 1, none⟩ = some (.slice none 0 0) := by simp [World.cell?, hqc]
      have q2 : wc.cell? ⟨bq, 2, none⟩ = some (.int .i64 0) := by simp [World.cell?, hqc]
      have q3 : wc.cell? ⟨bq, 3, none⟩ = some (.int .i64 0) := by simp [World.cell?, hqc]
      have e0 : wc.cell? ⟨w.heap.size, 0, none⟩ = some (.int .i64 a0) := by simp [World.cell?, M3.ev]
      have e1 : wc.cell? ⟨w.heap.size, 1, none⟩ = some (.int .u64 a1) := by simp [World.cell?, M3.ev]
      have e2 : wc.cell? ⟨w.heap.size, 2, none⟩ = some (.string s) := by simp [World.cell?, M3.ev]
      have e3 : wc.cell? ⟨w.heap.size, 3, none⟩ = some (.string ⟨#[]⟩) := by simp [World.cell?, M3.ev]
      have e4 : wc.cell? ⟨w.heap.size, 4, none⟩ = some (.int .u8 c) := by simp [World.cell?, M3.ev]
      have e5 : wc.cell? ⟨w.heap.size, 5, none⟩ = some (.slice none 0 0) := by simp [World.cell?, M3.ev]
      have e6 : wc.cell? ⟨w.heap.size, 6, none⟩ = some (.iface 3 (.int .i64 t)) := by simp [World.cell?, M3.ev]
      have e7 : wc.cell? ⟨w.heap.size, 7, none⟩ = some (.int .u64 0) := by simp [World.cell?, M3.ev]
      have e8 : wc.cell? ⟨w.heap.size, 8, none⟩ = some (.int .i64 d) := by simp [World.cell?, M3.ev]
      have e9 : wc.cell? ⟨w.heap.size, 9, none⟩ = some (.bool st) := by simp [World.cell?, M3.ev]
      obtain ⟨v0, k0⟩ := ring_cell (n := 0) (L := 64) hg hcs (by omega) 0 (by omega)
      obtain ⟨v1, k1⟩ := ring_cell (n := 0) (L := 64) hg hcs (by omega) 1 (by omega)
      obtain ⟨v2, k2⟩ := ring_cell (n := 0) (L := 64) hg hcs (by omega) 2 (by omega)
      obtain ⟨v3, k3⟩ := ring_cell (n := 0) (L := 64) hg hcs (by omega) 3 (by omega)
      obtain ⟨v4, k4⟩ := ring_cell (n := 0) (L := 64) hg hcs (by omega) 4 (by omega)
      obtain ⟨v5, k5⟩ := ring_cell (n := 0) (L := 64) hg hcs (by omega) 5 (by omega)
      obtain ⟨v6, k6⟩ := ring_cell (n := 0) (L := 64) hg hcs (by omega) 6 (by omega)
      obtain ⟨v7, k7⟩ := ring_cell (n := 0) (L := 64) hg hcs (by omega) 7 (by omega)
      obtain ⟨v8, k8⟩ := ring_cell (n := 0) (L := 64) hg hcs (by omega) 8 (by omega)
      obtain ⟨v9, k9⟩ := ring_cell (n := 0) (L := 64) hg hcs (by omega) 9 (by omega)
      simp only [Nat.zero_mul, Nat.zero_add] at k0 k1 k2 k3 k4 k5 k6 k7 k8 k9
      have hfg : ∀ o, wc.frozen? ⟨w.heap.size + 1, o, none⟩ = false := fun o => frozen_of_row wc _ o _ _ hg
      have hfq : ∀ o, wc.frozen? ⟨bq, o, none⟩ = false := fun o => frozen_of_row wc bq o _ _ hqc
      have hand : bits .and .i64 0 63 = 0 := by decide
      clear M3 hg hqc HQ
      go_wp2
      go_region
      go_wp2
      go_end0
      exact ⟨rfl, HE.out⟩

end Go.Proofs.Ybulkadhw
