/-
  THE WALK OF LawS1465AModify (3).
-/
import Derived.Test.YbulkadhwCarried
import Derived.Deep.DeepCutAuto
import Derived.Laws.StructEq
namespace Go.Proofs.Ybulkadhw
open Go.RowKit Go.Tab
set_option linter.unusedVariables false

set_option maxRecDepth 100000 in
/-- New at the empty configuration: three blocks: the configuration, the map, the SMF. -/
theorem new_any (w : World) : Calls Yba.prog 8 #[.agg #[.string ⟨#[]⟩, .int .u64 0, .int .u64 0, .pointer none, .int .u32 0, .string ⟨#[]⟩]] w fun e w' => e = .returned (.pointer (some ⟨w.heap.size + 2, 0, none⟩)) ∧
    w' = ((w.alloc (.cells #[.string ⟨#[]⟩, .int .u64 0, .int .u64 0, .pointer none, .int .u32 0, .string ⟨#[]⟩] 35)).alloc (.map #[] 0)).alloc (.cells #[.string ⟨#[]⟩, .int .u64 0, .int .u64 0, .pointer none, .int .u32 0, .string ⟨#[]⟩, .int .u64 0, .map (some (w.heap.size + 1))] 58) := by
  have hmm := @run_makeMap Yba.prog
  go_enter Yba.func8, Yba.ntmps8
  go_wp2
  go_ret
  exact ⟨rfl, rfl⟩

/-- What lies in memory when the context is laid. -/
structure LaidA (w wc : World) (T : List ((ByteArray × Int) × Nat)) (ue : ByteArray) (id oldT : Int) (hs : ByteArray) (dir : Bool) : Prop where
  size : wc.heap.size = w.heap.size + 8
  below : Below w.heap.size w wc
  tb : tab wc (w.heap.size + 1) rk (fun b : Nat => .pointer (some ⟨b, 0, none⟩)) T
  smf : wc.heap[w.heap.size + 2]? = some (.cells #[.string ⟨#[]⟩, .int .u64 0, .int .u64 0, .pointer none, .int .u32 0, .string ⟨#[]⟩, .int .u64 0, .map (some (w.heap.size + 1))] 58 (0, 0))
  ref : wc.heap[w.heap.size + 3]? = some (.cells #[.string ue, .int .u8 id] 38 (0, 0))
  old : wc.heap[w.heap.size + 4]? = some (.cells #[.int .u64 0, .int .u64 0, .pointer none, .int .u32 oldT] 40 (0, 0))
  ctx : wc.heap[w.heap.size + 7]? = some (.cells #[.string ue, .int .u8 id, .int .u8 0, .slice none 0 0, .pointer none, .pointer none, .string hs, .pointer (some ⟨w.heap.size + 4, 0, none⟩), .pointer (some ⟨w.heap.size + 5, 0, none⟩), .bool dir, .pointer (some ⟨w.heap.size + 6, 0, none⟩), .pointer none] 55 (0, 0))

theorem at_old (w : World) (o : Obj) (k : Nat) (h : k < w.heap.size) : (w.alloc o).heap[k]? = w.heap[k]? := (MapKept.heap_alloc w o).2 k h
theorem at_new (w : World) (o : Obj) (k : Nat) (h : k = w.heap.size) : (w.alloc o).heap[k]? = some o := by subst h; exact (MapKept.heap_alloc w o).1
theorem size_alloc (w : World) (o : Obj) : (w.alloc o).heap.size = w.heap.size + 1 := by simp

theorem laidA_mk (w : World) (ue : ByteArray) (id oldT : Int) (hs : ByteArray) (dir : Bool) :
    LaidA w ((((((((w.alloc (.cells #[.string ⟨#[]⟩, .int .u64 0, .int .u64 0, .pointer none, .int .u32 0, .string ⟨#[]⟩] 35)).alloc (.map #[] 0)).alloc (.cells #[.string ⟨#[]⟩, .int .u64 0, .int .u64 0, .pointer none, .int .u32 0, .string ⟨#[]⟩, .int .u64 0, .map (some (w.heap.size + 1))] 58)).alloc
      (.cells #[.string ue, .int .u8 id] 38)).alloc (.cells #[.int .u64 0, .int .u64 0, .pointer none, .int .u32 oldT] 40)).alloc (.cells #[.int .u64 0, .int .u64 0, .pointer none, .int .u32 7] 40)).alloc (.cells #[.int .u64 0, .int .u64 0, .pointer none, .int .u32 9] 40)).alloc
      (.cells #[.string ue, .int .u8 id, .int .u8 0, .slice none 0 0, .pointer none, .pointer none, .string hs, .pointer (some ⟨w.heap.size + 4, 0, none⟩), .pointer (some ⟨w.heap.size + 5, 0, none⟩), .bool dir, .pointer (some ⟨w.heap.size + 6, 0, none⟩), .pointer none] 55)).drew [] ue id oldT hs dir := by
  refine ⟨?_, ?_, ?_, ?_, ?_, ?_, ?_⟩
  · show (World.alloc _ _).heap.size = _
    simp only [size_alloc]
  · refine Below.drew ?_
    refine Below.alloc ?_ (by simp only [size_alloc]; omega) _
    refine Below.alloc ?_ (by simp only [size_alloc]; omega) _
    refine Below.alloc ?_ (by simp only [size_alloc]; omega) _
    refine Below.alloc ?_ (by simp only [size_alloc]; omega) _
    refine Below.alloc ?_ (by simp only [size_alloc]; omega) _
    refine Below.alloc ?_ (by simp only [size_alloc]; omega) _
    refine Below.alloc ?_ (by simp only [size_alloc]; omega) _
    exact (Below.refl _ _).alloc (Nat.le_refl _) _
  · refine tab.drew ?_
    refine tab.alloc (tab.alloc (tab.alloc (tab.alloc (tab.alloc (tab.alloc ?_ _) _) _) _) _) _
    have h := tab_made (w.alloc (.cells #[.string ⟨#[]⟩, .int .u64 0, .int .u64 0, .pointer none, .int .u32 0, .string ⟨#[]⟩] 35)) rk (fun b : Nat => Value.pointer (some ⟨b, 0, none⟩))
    rw [size_alloc] at h
    exact h
  · show (World.alloc _ _).heap[_]? = _
    repeat (first | rw [at_old _ _ _ (by simp only [size_alloc]; omega)] | exact at_new _ _ _ (by simp only [size_alloc]))
  · show (World.alloc _ _).heap[_]? = _
    repeat (first | rw [at_old _ _ _ (by simp only [size_alloc]; omega)] | exact at_new _ _ _ (by simp only [size_alloc]))
  · show (World.alloc _ _).heap[_]? = _
    repeat (first | rw [at_old _ _ _ (by simp only [size_alloc]; omega)] | exact at_new _ _ _ (by simp only [size_alloc]))
  · show (World.alloc _ _).heap[_]? = _
    repeat (first | rw [at_old _ _ _ (by simp only [size_alloc]; omega)] | exact at_new _ _ _ (by simp only [size_alloc]))

theorem LaidA.turn {w wc w1 : World} {T T' : List ((ByteArray × Int) × Nat)} {ue : ByteArray} {id oldT : Int} {hs : ByteArray} {dir : Bool} (h : LaidA w wc T ue id oldT hs dir) (hT : wc.drew.mapTurned w1 (w.heap.size + 1))
    (ht : tab w1 (w.heap.size + 1) rk (fun b : Nat => .pointer (some ⟨b, 0, none⟩)) T') : LaidA w w1 T' ue id oldT hs dir := by
  have hg := hT.grown
  have hb : ∀ k, k < w.heap.size + 8 → k ≠ w.heap.size + 1 → w1.heap[k]? = wc.heap[k]? := fun k h1 h2 => hg.block k (by show k < wc.heap.size; rw [h.size]; exact h1) (fun e => h2 (by cases e; rfl))
  have hsz : w1.heap.size = wc.heap.size := by
    obtain ⟨es, clock, es', clock', _, rfl⟩ := hT
    simp [ChangeMaps.setBlock]
  refine ⟨hsz.trans h.size, ?_, ht, ?_, ?_, ?_, ?_⟩
  · exact h.below.drew.grown hg (by show w.heap.size ≤ wc.heap.size; rw [h.size]; omega) (fun j hj => by cases hj; omega)
  · rw [hb _ (by omega) (by omega)]; exact h.smf
  · rw [hb _ (by omega) (by omega)]; exact h.ref
  · rw [hb _ (by omega) (by omega)]; exact h.old
  · rw [hb _ (by omega) (by omega)]; exact h.ctx

/-- What lies in memory behind carriedOut. M: where the request lies. -/
structure AfterM (w w4 : World) (M : Nat) (ue : ByteArray) (id teid oldT : Int) (asker : ByteArray) : Prop where
  below : Below w.heap.size w w4
  tb : tab w4 (w.heap.size + 1) rk (fun b : Nat => .pointer (some ⟨b, 0, none⟩)) [((ue, id), w.heap.size + 7)]
  smf : w4.heap[w.heap.size + 2]? = some (.cells #[.string ⟨#[]⟩, .int .u64 0, .int .u64 0, .pointer none, .int .u32 0, .string ⟨#[]⟩, .int .u64 0, .map (some (w.heap.size + 1))] 58 (0, 0))
  ref : w4.heap[w.heap.size + 3]? = some (.cells #[.string ue, .int .u8 id] 38 (0, 0))
  old : w4.heap[w.heap.size + 4]? = some (.cells #[.int .u64 0, .int .u64 0, .pointer none, .int .u32 oldT] 40 (0, 0))
  ctx : w4.heap[w.heap.size + 7]? = some (.cells #[.string ue, .int .u8 id, .int .u8 0, .slice none 0 0, .pointer none, .pointer none, .string ⟨#[78, 79, 78, 69]⟩, .pointer (some ⟨M + 3, 0, none⟩), .pointer none, .bool false, .pointer none, .pointer none] 55 (0, 0))
  req : w4.heap[M]? = some (.cells #[.string ue, .int .u8 id, .int .u64 0, .int .u64 0, .pointer none, .int .u32 teid] 61 (0, 0))
  down : w4.heap[M + 3]? = some (.cells #[.int .u64 0, .int .u64 0, .pointer none, .int .u32 teid] 40 (0, 0))
  msg : w4.heap[M + 4]? = some (.cells #[.string asker, .pointer (some ⟨M + 1, 0, none⟩), .nilIface] 115 (0, 0))

theorem carried_at (w w1 : World) (ue : ByteArray) (id teid oldT : Int) (hs : ByteArray) (dir : Bool) (asker : ByteArray) (L : LaidA w w1 [((ue, id), w.heap.size + 7)] ue id oldT hs dir) :
    Calls Yba.prog 10 #[.pointer (some ⟨w.heap.size + 2, 0, none⟩), .pointer (some ⟨w.heap.size + 7, 0, none⟩), .pointer (some ⟨w1.heap.size + 1 + 1, 0, none⟩)]
      (((w1.alloc (.cells #[.string ue, .int .u8 id, .int .u64 0, .int .u64 0, .pointer none, .int .u32 teid] 61)).alloc (.cells #[.string ue, .int .u8 id, .int .i64 200, .string ⟨#[]⟩, .string ⟨#[]⟩, .string ⟨#[]⟩, .slice none 0 0] 67)).alloc (.cells #[.string asker, .iface 59 (.pointer (some ⟨w1.heap.size, 0, none⟩)), .pointer (some ⟨w1.heap.size + 1, 0, none⟩)] 71))
      fun e w4 => e = .returned (.slice (some ⟨w1.heap.size + 4, 0, none⟩) 1 1) ∧ AfterM w w4 w1.heap.size ue id teid oldT asker := by
  have hsz := L.size
  generalize hO1 : Obj.cells #[.string ue, .int .u8 id, .int .u64 0, .int .u64 0, .pointer none, .int .u32 teid] 61 = O1
  generalize hO2 : Obj.cells #[.string ue, .int .u8 id, .int .i64 200, .string ⟨#[]⟩, .string ⟨#[]⟩, .string ⟨#[]⟩, .slice none 0 0] 67 = O2
  generalize hO3 : Obj.cells #[.string asker, .iface 59 (.pointer (some ⟨w1.heap.size, 0, none⟩)), .pointer (some ⟨w1.heap.size + 1, 0, none⟩)] 71 = O3
  have b3 : (((w1.alloc O1).alloc O2).alloc O3).heap[w1.heap.size + 1 + 1]? = some O3 := at_new _ _ _ (by simp only [size_alloc])
  have b1 : (((w1.alloc O1).alloc O2).alloc O3).heap[w1.heap.size]? = some O1 := by
    rw [at_old _ _ _ (by simp only [size_alloc]; omega), at_old _ _ _ (by simp only [size_alloc]; omega)]; exact at_new _ _ _ rfl
  have bo : ∀ k, k < w1.heap.size → (((w1.alloc O1).alloc O2).alloc O3).heap[k]? = w1.heap[k]? := fun k hk => by
    rw [at_old _ _ _ (by simp only [size_alloc]; omega), at_old _ _ _ (by simp only [size_alloc]; omega), at_old _ _ _ hk]
  have hz3 : (((w1.alloc O1).alloc O2).alloc O3).heap.size = w1.heap.size + 3 := by simp only [size_alloc]
  have bel : Below w.heap.size w (((w1.alloc O1).alloc O2).alloc O3) := ((L.below.alloc (by omega) O1).alloc (by simp only [size_alloc]; omega) O2).alloc (by simp only [size_alloc]; omega) O3
  have tb3 := ((L.tb.alloc O1).alloc O2).alloc O3
  generalize ((w1.alloc O1).alloc O2).alloc O3 = W3 at b3 b1 bo hz3 bel tb3 ⊢
  subst hO1 hO2 hO3
  refine (carried_mod (w.heap.size + 2) (w.heap.size + 7) (w1.heap.size + 1 + 1) w1.heap.size (w1.heap.size + 1) asker teid _ _ _ _ _ _ _ _ _ _ _ _ W3 (by simp [World.cell?, b3]) (by simp [World.cell?, b3]) (by simp [World.cell?, b3]) (by simp [World.cell?, b1]) (by simp [World.cell?, b1]) (by simp [World.cell?, b1]) (by simp [World.cell?, b1]) ((bo _ (by omega)).trans L.ctx) (by omega) (by omega) (by omega)).mono fun e w4 ⟨he, S⟩ => ?_
  have keep : ∀ k, k < w1.heap.size + 3 → k ≠ w.heap.size + 7 → w4.heap[k]? = W3.heap[k]? := fun k h1 h2 => S.grown.block k (by omega) (fun e => h2 (by cases e; rfl))
  have h1 := S.ctx
  have h2 := S.down
  have h3 := S.msg
  rw [hz3] at he h1 h2 h3
  refine ⟨he, ⟨?_, ?_, ?_, ?_, ?_, h1, ?_, h2, h3⟩⟩
  · exact bel.grown S.grown (by omega) (fun j hj => by cases hj; omega)
  · exact tb3.kept S.grown (by simp)
  · rw [keep _ (by omega) (by omega), bo _ (by omega)]; exact L.smf
  · rw [keep _ (by omega) (by omega), bo _ (by omega)]; exact L.ref
  · rw [keep _ (by omega) (by omega), bo _ (by omega)]; exact L.old
  · rw [keep _ (by omega) (by omega)]; exact b1

theorem flds40 : ∃ f1 f2 : Field, (Yba.prog.fieldsOf 40).toList = [f1, f2] ∧ f1.name ≠ "_" ∧ f2.name ≠ "_" ∧ f1.type = 32 ∧ f2.type = 33 ∧ f1.offset = 0 ∧ f2.offset = 3 := by
  unfold Program.fieldsOf
  rw [Yba.underlying40]
  exact ⟨_, _, rfl, by decide, by decide, rfl, rfl, rfl, rfl⟩
theorem part32 (w : World) (a b c d : Value) : (part 32 #[a, b, c, d] 0).run Yba.prog w = .ok (.agg #[a, b, c]) w := by kernel_rfl
theorem part33 (w : World) (a b c d : Value) : (part 33 #[a, b, c, d] 3).run Yba.prog w = .ok d w := by kernel_rfl
theorem eq32 (w : World) : (Op.equalIn 9999 32 (.agg #[.int .u64 0, .int .u64 0, .pointer none]) (.agg #[.int .u64 0, .int .u64 0, .pointer none])).run Yba.prog w = .ok true w := by kernel_rfl
theorem eq33 (w : World) (a b : Int) : (Op.equalIn 9999 33 (.int .u32 a) (.int .u32 b)).run Yba.prog w = .ok (a == b) w := by kernel_rfl
/-- Two tunnels' ends that are alike are not unlike. -/
theorem neq40 (a : Int) (w : World) : (binOp .neq 40 (.agg #[.int .u64 0, .int .u64 0, .pointer none, .int .u32 a]) (.agg #[.int .u64 0, .int .u64 0, .pointer none, .int .u32 a])).run Yba.prog w = .ok (.bool false) w := by
  have h0 : (Op.equal 40 (.agg #[.int .u64 0, .int .u64 0, .pointer none, .int .u32 a]) (.agg #[.int .u64 0, .int .u64 0, .pointer none, .int .u32 a])).run Yba.prog w = .ok true w := by
    have h1 := run_equalIn_struct (P := Yba.prog) w 9999 40 #[.int .u64 0, .int .u64 0, .pointer none, .int .u32 a] #[.int .u64 0, .int .u64 0, .pointer none, .int .u32 a] (by kernel_rfl) (by kernel_rfl)
    obtain ⟨f1, f2, hf, n1, n2, t1, t2, o1, o2⟩ := flds40
    refine h1.trans ?_
    rw [hf]
    simp [Op.eqFields, n1, n2, t1, t2, o1, o2, part32, part33, eq32, eq33]
  simp only [binOp]
  simp [h0]
theorem neq38 (ue : ByteArray) (id : Int) (w : World) : (binOp .neq 38 (.agg #[.string ue, .int .u8 id]) (.agg #[.string ue, .int .u8 id])).run Yba.prog w = .ok (.bool false) w := by
  have h := rk_eq w (ue, id) (ue, id)
  simp only [rk, decide_true] at h
  simp only [binOp]
  simp [h]
theorem same41 (a : Addr) (w : World) : (binOp .eql 41 (.pointer (some a)) (.pointer (some a))).run Yba.prog w = .ok (.bool true) w := by
  obtain ⟨j, hj⟩ := info_of_underlying Yba.underlying55
  exact run_eql_ptr_same w a Yba.underlying41 hj
theorem below_drewN {B : Nat} {a w : World} (h : Below B a w) : ∀ n, Below B a (w.drewN n)
  | 0 => h
  | n + 1 => (below_drewN h n).drew
theorem zero41 (w : World) : (zeroValue 41).run Yba.prog w = .ok (.pointer none) w := by kernel_rfl
theorem drewN_heap (w : World) : ∀ n, (w.drewN n).heap = w.heap
  | 0 => rfl
  | n + 1 => drewN_heap w n
theorem drewN_block {w : World} {k : Nat} {o : Obj} (h : w.heap[k]? = some o) (n : Nat) : (w.drewN n).heap[k]? = some o := by rw [drewN_heap]; exact h
theorem other45 (w : World) {a b : Addr} {ca cb : Array Value} {ta tb : TypeId} (hne : a ≠ b) (ha : w.heap[a.block]? = some (.cells ca ta (0, 0))) (hb : w.heap[b.block]? = some (.cells cb tb (0, 0))) :
    (binOp .eql 45 (.pointer (some a)) (.pointer (some b))).run Yba.prog w = .ok (.bool false) w := by
  obtain ⟨j, hj⟩ := info_of_underlying Yba.underlying40
  refine run_eql_ptr_other w Yba.underlying45 hj ?_ hne ha hb
  have h4 : (Yba.prog.info? 40).map (·.size) = some 4 := by kernel_rfl
  rw [hj] at h4
  simp at h4
  omega

set_option maxHeartbeats 2000000 in
set_option maxRecDepth 100000 in
theorem modify_any (ue : ByteArray) (id teid oldT ho : Int) (dir : Bool) (asker : ByteArray) (w : World) (h0 : 0 ≤ ho) (h1 : ho ≤ 255) :
    Calls Yba.prog 3 #[.string ue, .int .u8 id, .int .u32 teid, .int .u32 oldT, .int .u8 ho, .bool dir, .string asker] w fun e w' => e = .returned (.bool true) ∧ Below w.heap.size w w' := by
  obtain ⟨hs, hhs⟩ : ∃ s, s = hoOf ho := ⟨_, rfl⟩
  have hho : ∀ w, Calls Yba.prog 9 #[.int .u8 ho] w fun e w' => e = .returned (.string hs) ∧ w' = w := fun w => by rw [hhs]; exact ho_any ho h0 h1 w
  clear hhs
  go_enter Yba.func3, Yba.ntmps3
  go_upto_region 6 with (first
    | (go_at_call 8; refine (new_any _).mono ?_; rintro e w' ⟨rfl, rfl⟩))
  go_cut [20] from 36 to 43 (fun c wc => c = .pointer (some ⟨w.heap.size + 7, 0, none⟩) ∧ LaidA w wc [] ue id oldT hs dir)
  case first =>
    go_region_with (go_at_call 9; refine (hho _).mono ?_; rintro e w' ⟨rfl, rfl⟩)
    all_goals (go_wp2_with fail; go_meet)
    all_goals exact ⟨rfl, laidA_mk w ue id oldT hs dir⟩
  case rest =>
    obtain ⟨rfl, L⟩ := hcut
    obtain ⟨w1, hup, ht1, hturn1⟩ := (tab.drew L.tb).store keys38 (fun _ _ => trivial) Yba.underlying56 (x := (ue, id)) trivial (w.heap.size + 7)
    have k7 : wc.cell? ⟨w.heap.size + 2, 7, none⟩ = some (.map (some (w.heap.size + 1))) := by simp [World.cell?, L.smf]
    have r0 : wc.cell? ⟨w.heap.size + 3, 0, none⟩ = some (.string ue) := by simp [World.cell?, L.ref]
    have r1 : wc.cell? ⟨w.heap.size + 3, 1, none⟩ = some (.int .u8 id) := by simp [World.cell?, L.ref]
    have L1 := L.turn hturn1 ht1
    have HL : Hid (LaidA w w1 [((ue, id), w.heap.size + 7)] ue id oldT hs dir) := L1
    have s0 : w1.cell? ⟨w.heap.size + 3, 0, none⟩ = some (.string ue) := by simp [World.cell?, L1.ref]
    have s1 : w1.cell? ⟨w.heap.size + 3, 1, none⟩ = some (.int .u8 id) := by simp [World.cell?, L1.ref]
    have z1 : w.heap.size + 3 < w1.heap.size := by rw [L1.size]; omega
    simp only [rk] at hup
    clear L hturn1 ht1 L1
    go_wp2
    go_region
    go_wp2_with fail
    refine (carried_at w w1 ue id teid oldT hs dir asker HL.out).mono ?_
    rintro e w4 ⟨rfl, A⟩
    obtain ⟨M, hM⟩ : ∃ M, M = w1.heap.size := ⟨_, rfl⟩
    have hMz : M = w.heap.size + 8 := by rw [hM]; exact HL.out.size
    rw [← hM] at A ⊢
    have HA : Hid (AfterM w w4 M ue id teid oldT asker) := A
    have m0 : w4.cell? ⟨M + 4, 0, none⟩ = some (.string asker) := by simp [World.cell?, A.msg]
    have m1 : w4.cell? ⟨M + 4, 1, none⟩ = some (.pointer (some ⟨M + 1, 0, none⟩)) := by simp [World.cell?, A.msg]
    have m2 : w4.cell? ⟨M + 4, 2, none⟩ = some .nilIface := by simp [World.cell?, A.msg]
    have hone := one_any (M + 4) asker (M + 1) w4 m0 m1 m2
    clear A HL hup k7 r0 r1 s0 s1 z1 m0 m1 m2 hM
    have HM : Hid (M = w.heap.size + 8) := hMz
    clear hMz
    go_wp2_with fail
    refine hone.mono ?_
    rintro e w4 ⟨rfl, rfl⟩
    have A := HA.out
    have c0 : w4.cell? ⟨w.heap.size + 7, 0, none⟩ = some (.string ue) := by simp [World.cell?, A.ctx]
    have c1 : w4.cell? ⟨w.heap.size + 7, 1, none⟩ = some (.int .u8 id) := by simp [World.cell?, A.ctx]
    have c6 : w4.cell? ⟨w.heap.size + 7, 6, none⟩ = some (.string ⟨#[78, 79, 78, 69]⟩) := by simp [World.cell?, A.ctx]
    have c7 : w4.cell? ⟨w.heap.size + 7, 7, none⟩ = some (.pointer (some ⟨M + 3, 0, none⟩)) := by simp [World.cell?, A.ctx]
    have c8 : w4.cell? ⟨w.heap.size + 7, 8, none⟩ = some (.pointer none) := by simp [World.cell?, A.ctx]
    have c9 : w4.cell? ⟨w.heap.size + 7, 9, none⟩ = some (.bool false) := by simp [World.cell?, A.ctx]
    have c10 : w4.cell? ⟨w.heap.size + 7, 10, none⟩ = some (.pointer none) := by simp [World.cell?, A.ctx]
    have d0 : w4.cell? ⟨M + 3, 0, none⟩ = some (.int .u64 0) := by simp [World.cell?, A.down]
    have d1 : w4.cell? ⟨M + 3, 1, none⟩ = some (.int .u64 0) := by simp [World.cell?, A.down]
    have d2 : w4.cell? ⟨M + 3, 2, none⟩ = some (.pointer none) := by simp [World.cell?, A.down]
    have d3 : w4.cell? ⟨M + 3, 3, none⟩ = some (.int .u32 teid) := by simp [World.cell?, A.down]
    have q2 : w4.cell? ⟨M, 2, none⟩ = some (.int .u64 0) := by simp [World.cell?, A.req]
    have q3 : w4.cell? ⟨M, 3, none⟩ = some (.int .u64 0) := by simp [World.cell?, A.req]
    have q4 : w4.cell? ⟨M, 4, none⟩ = some (.pointer none) := by simp [World.cell?, A.req]
    have q5 : w4.cell? ⟨M, 5, none⟩ = some (.int .u32 teid) := by simp [World.cell?, A.req]
    have o3 : w4.cell? ⟨w.heap.size + 4, 3, none⟩ = some (.int .u32 oldT) := by simp [World.cell?, A.old]
    have r0 : w4.cell? ⟨w.heap.size + 3, 0, none⟩ = some (.string ue) := by simp [World.cell?, A.ref]
    have r1 : w4.cell? ⟨w.heap.size + 3, 1, none⟩ = some (.int .u8 id) := by simp [World.cell?, A.ref]
    have k7 : w4.cell? ⟨w.heap.size + 2, 7, none⟩ = some (.map (some (w.heap.size + 1))) := by simp [World.cell?, A.smf]
    have hpe1 : ∀ nq, (binOp .eql 45 (.pointer (some ⟨M + 3, 0, none⟩)) (.pointer (some ⟨M, 2, none⟩))).run Yba.prog (w4.drewN nq) = .ok (.bool false) (w4.drewN nq) := fun nq => other45 _ (by simp) (drewN_block A.down nq) (drewN_block A.req nq)
    have hpe2 : ∀ nq, (binOp .eql 45 (.pointer (some ⟨M + 3, 0, none⟩)) (.pointer (some ⟨w.heap.size + 4, 0, none⟩))).run Yba.prog (w4.drewN nq) = .ok (.bool false) (w4.drewN nq) := fun nq => other45 _ (fun e => by have h8 := HM.out; have h9 := congrArg Addr.block e; simp only [] at h9; omega) (drewN_block A.down nq) (drewN_block A.old nq)
    have hl : ∀ nq, (Instr.lookup 56 (.map (some (w.heap.size + 1))) (.agg #[.string ue, .int .u8 id]) true).run Yba.prog (w4.drewN nq) = .ok (.tuple #[.pointer (some ⟨w.heap.size + 7, 0, none⟩), .bool true]) (w4.drewN nq) := fun nq => by
      have h := (A.tb.kept (grown_drewN (row := none) ⟨rfl, rfl, rfl, Nat.le_refl _, fun _ _ _ => rfl⟩ nq) (by simp)).look keys38 (fun _ _ => trivial) Yba.underlying56 (x := (ue, id)) trivial (zero41 _) true
      simpa [Tab.get, rk] using h
    have hsn := neq40 teid
    have hrn := neq38 ue id
    have hps := same41 ⟨w.heap.size + 7, 0, none⟩
    have HTB : Hid (∀ nq, tab (w4.drewN nq) (w.heap.size + 1) rk (fun b : Nat => .pointer (some ⟨b, 0, none⟩)) [((ue, id), w.heap.size + 7)]) := fun nq => A.tb.kept (grown_drewN (row := none) ⟨rfl, rfl, rfl, Nat.le_refl _, fun _ _ _ => rfl⟩ nq) (by simp)
    have hlen : ∀ nq, (Builtin.len_ #[56] 3 #[.map (some (w.heap.size + 1))]).run Yba.prog (w4.drewN nq) = .ok (.int .i64 1) (w4.drewN nq) := fun nq => (HTB.out nq).len Yba.underlying56 3
    clear A hone
    go_wp2
    go_quiet (fail)
    go_wp2
    go_quiet (fail)
    go_wp2
    go_quiet (fail)
    go_wp2
    go_ret
    exact ⟨rfl, below_drewN HA.out.below _⟩

end Go.Proofs.Ybulkadhw
