/-
  THE WALK OF LawS1465ARelease (4).
-/
import Derived.Test.YbulkadhwModify
namespace Go.Proofs.Ybulkadhw
open Go.RowKit Go.Tab
set_option linter.unusedVariables false

theorem neq45 (a : Addr) (w : World) : (binOp .neq 45 (.pointer (some a)) (.pointer (some a))).run Yba.prog w = .ok (.bool false) w := by
  obtain ⟨j, hj⟩ := info_of_underlying Yba.underlying40
  have h : ∀ d : Nat, (Op.equalIn (d + 1) 45 (.pointer (some a)) (.pointer (some a))).run Yba.prog w = .ok true w := fun d => by
    simp [Op.equalIn, run_underlying Yba.underlying45, sizeOf, typeInfo, hj, run_sameAddr_same]
  simp only [binOp]
  simp [Op.equal, Op.maxDepth, h 9999]

theorem eql38 (x y : ByteArray × Int) (w : World) : (binOp .eql 38 (rk x) (rk y)).run Yba.prog w = .ok (.bool (decide (y = x))) w := by
  have h := rk_eq w x y
  simp only [rk] at h ⊢
  simp only [binOp]
  simp [h]
theorem del_same {k : ByteArray × Int} {a b : Nat} : del (put [(k, a)] k b) k = [] := by
  have h1 : idx [(k, a)] k = some 0 := by rw [idx_cons, if_pos rfl]
  rw [put_some h1]
  have h2 : idx [(k, b)] k = some 0 := by rw [idx_cons, if_pos rfl]
  show del [(k, b)] k = []
  rw [del_some h2]
  rfl
theorem del_diff {k2 k : ByteArray × Int} {a b : Nat} (h : ¬ k2 = k) : del (put [(k2, a)] k b) k = [(k2, a)] := by
  have h1 : idx [(k2, a)] k = none := by rw [idx_cons, if_neg (by exact h), idx_nil]; rfl
  rw [put_none h1]
  have h2 : idx [(k2, a), (k, b)] k = some 1 := by rw [idx_cons, if_neg (by exact h), idx_cons, if_pos rfl]; rfl
  show del [(k2, a), (k, b)] k = _
  rw [del_some h2]
  rfl

/-- What the world is behind a release. -/
structure Released (w w' : World) (B : Nat) (T : List ((ByteArray × Int) × Nat)) (asker : ByteArray) (ba : Nat) : Prop where
  grown : w.grownBy w' (some B)
  tb : tab w' B rk (fun b : Nat => .pointer (some ⟨b, 0, none⟩)) T
  msg : w'.heap[w.heap.size]? = some (.cells #[.string asker, .pointer (some ⟨ba, 0, none⟩), .nilIface] 115 (0, 0))

theorem turned_size {w w1 : World} {B : Nat} (h : w.drew.mapTurned w1 B) : w1.heap.size = w.heap.size := by
  obtain ⟨es, clock, es', clock', _, rfl⟩ := h
  simp [ChangeMaps.setBlock]
theorem released_mk {w w1 : World} {B ba : Nat} {T : List ((ByteArray × Int) × Nat)} {asker : ByteArray} (ht : tab w1 B rk (fun b : Nat => .pointer (some ⟨b, 0, none⟩)) T) (hturn : w.drew.mapTurned w1 B) :
    Released w (w1.alloc (.cells #[.string asker, .pointer (some ⟨ba, 0, none⟩), .nilIface] 115)).drew B T asker ba := by
  have hsz : w1.heap.size = w.heap.size := by
    obtain ⟨es, clock, es', clock', _, rfl⟩ := hturn
    simp [ChangeMaps.setBlock]
  have hg : w.grownBy w1 (some B) := by
    have h := hturn.grown
    exact ⟨h.os, h.tape, h.output, h.size, h.block⟩
  refine ⟨grown_drew (hg.trans (World.grownBy_alloc _ _ _)), (ht.alloc _).drew, ?_⟩
  show (World.alloc _ _).heap[_]? = _
  exact at_new _ _ _ hsz.symm

set_option maxHeartbeats 1000000 in
set_option maxRecDepth 100000 in
theorem carried_rel (bs bc bp br ba B : Nat) (ue : ByteArray) (id : Int) (T : List ((ByteArray × Int) × Nat)) (asker : ByteArray) (w : World)
    (hp0 : w.cell? ⟨bp, 0, none⟩ = some (.string asker)) (hp1 : w.cell? ⟨bp, 1, none⟩ = some (.iface 77 (.pointer (some ⟨br, 0, none⟩)))) (hp2 : w.cell? ⟨bp, 2, none⟩ = some (.pointer (some ⟨ba, 0, none⟩)))
    (hs7 : w.cell? ⟨bs, 7, none⟩ = some (.map (some B))) (hc0 : w.cell? ⟨bc, 0, none⟩ = some (.string ue)) (hc1 : w.cell? ⟨bc, 1, none⟩ = some (.int .u8 id))
    (htab : tab w B rk (fun b : Nat => .pointer (some ⟨b, 0, none⟩)) T) (hbp : bp < w.heap.size) (hpB : ¬ bp = B) :
    Calls Yba.prog 10 #[.pointer (some ⟨bs, 0, none⟩), .pointer (some ⟨bc, 0, none⟩), .pointer (some ⟨bp, 0, none⟩)] w fun e w' => e = .returned (.slice (some ⟨w.heap.size, 0, none⟩) 1 1) ∧ Released w w' B (del T (ue, id)) asker ba := by
  have HT : Hid (tab w B rk (fun b : Nat => .pointer (some ⟨b, 0, none⟩)) T) := htab
  have hta := ta77
  have htb := ta77no
  clear htab
  go_enter Yba.func10, Yba.ntmps10
  go_wp2
  go_region_law (refine step_delete_tab rfl _ _ 56 38 rfl 41 keys38 Yba.underlying56 B rfl HT.out.drew (fun _ _ => trivial) (ue, id) trivial rfl ?_; intro w1 ht1 hturn1)
  all_goals
    have hsz := turned_size hturn1
    have q0 : w1.cell? ⟨bp, 0, none⟩ = some (.string asker) := hturn1.grown.cell (a := ⟨bp, 0, none⟩) hp0 (by simpa using hpB)
    have q2 : w1.cell? ⟨bp, 2, none⟩ = some (.pointer (some ⟨ba, 0, none⟩)) := hturn1.grown.cell (a := ⟨bp, 2, none⟩) hp2 (by simpa using hpB)
    have hb1 : bp < w1.heap.size := by rw [hsz]; exact hbp
    have HR := released_mk (asker := asker) (ba := ba) ht1 hturn1
    have HX : Hid _ := HR
    clear HR hp0 hp1 hp2 hs7 hc0 hc1 ht1 hturn1
    go_wp2
    go_region
    go_wp2
    go_ret
    exact ⟨rfl, HX.out⟩

/-- What lies in memory when the other context is laid. -/
structure LaidR (w wc : World) (T : List ((ByteArray × Int) × Nat)) (ue : ByteArray) (id : Int) (ue2 : ByteArray) (id2 : Int) : Prop where
  size : wc.heap.size = w.heap.size + 7
  below : Below w.heap.size w wc
  tb : tab wc (w.heap.size + 1) rk (fun b : Nat => .pointer (some ⟨b, 0, none⟩)) T
  smf : wc.heap[w.heap.size + 2]? = some (.cells #[.string ⟨#[]⟩, .int .u64 0, .int .u64 0, .pointer none, .int .u32 0, .string ⟨#[]⟩, .int .u64 0, .map (some (w.heap.size + 1))] 58 (0, 0))
  ref : wc.heap[w.heap.size + 3]? = some (.cells #[.string ue, .int .u8 id] 38 (0, 0))
  ref2 : wc.heap[w.heap.size + 4]? = some (.cells #[.string ue2, .int .u8 id2] 38 (0, 0))

theorem laidR_mk (w : World) (ue : ByteArray) (id : Int) (ue2 : ByteArray) (id2 : Int) (O : Obj) :
    LaidR w ((((((w.alloc (.cells #[.string ⟨#[]⟩, .int .u64 0, .int .u64 0, .pointer none, .int .u32 0, .string ⟨#[]⟩] 35)).alloc (.map #[] 0)).alloc (.cells #[.string ⟨#[]⟩, .int .u64 0, .int .u64 0, .pointer none, .int .u32 0, .string ⟨#[]⟩, .int .u64 0, .map (some (w.heap.size + 1))] 58)).alloc
      (.cells #[.string ue, .int .u8 id] 38)).alloc (.cells #[.string ue2, .int .u8 id2] 38)).alloc (.cells #[.int .u64 0, .int .u64 0, .pointer none, .int .u32 3] 40) |>.alloc O) [] ue id ue2 id2 := by
  refine ⟨?_, ?_, ?_, ?_, ?_, ?_⟩
  · simp only [size_alloc]
  · refine Below.alloc ?_ (by simp only [size_alloc]; omega) _
    refine Below.alloc ?_ (by simp only [size_alloc]; omega) _
    refine Below.alloc ?_ (by simp only [size_alloc]; omega) _
    refine Below.alloc ?_ (by simp only [size_alloc]; omega) _
    refine Below.alloc ?_ (by simp only [size_alloc]; omega) _
    refine Below.alloc ?_ (by simp only [size_alloc]; omega) _
    exact (Below.refl _ _).alloc (Nat.le_refl _) _
  · refine tab.alloc (tab.alloc (tab.alloc (tab.alloc (tab.alloc ?_ _) _) _) _) _
    have h := tab_made (w.alloc (.cells #[.string ⟨#[]⟩, .int .u64 0, .int .u64 0, .pointer none, .int .u32 0, .string ⟨#[]⟩] 35)) rk (fun b : Nat => Value.pointer (some ⟨b, 0, none⟩))
    rw [size_alloc] at h
    exact h
  · repeat (first | rw [at_old _ _ _ (by simp only [size_alloc]; omega)] | exact at_new _ _ _ (by simp only [size_alloc]))
  · repeat (first | rw [at_old _ _ _ (by simp only [size_alloc]; omega)] | exact at_new _ _ _ (by simp only [size_alloc]))
  · repeat (first | rw [at_old _ _ _ (by simp only [size_alloc]; omega)] | exact at_new _ _ _ (by simp only [size_alloc]))

theorem LaidR.turn {w wc w1 : World} {T T' : List ((ByteArray × Int) × Nat)} {ue : ByteArray} {id : Int} {ue2 : ByteArray} {id2 : Int} (h : LaidR w wc T ue id ue2 id2) (hT : wc.drew.mapTurned w1 (w.heap.size + 1))
    (ht : tab w1 (w.heap.size + 1) rk (fun b : Nat => .pointer (some ⟨b, 0, none⟩)) T') : LaidR w w1 T' ue id ue2 id2 := by
  have hg := hT.grown
  have hb : ∀ k, k < w.heap.size + 7 → k ≠ w.heap.size + 1 → w1.heap[k]? = wc.heap[k]? := fun k h1 h2 => hg.block k (by show k < wc.heap.size; rw [h.size]; exact h1) (fun e => h2 (by cases e; rfl))
  refine ⟨(turned_size hT).trans h.size, ?_, ht, ?_, ?_, ?_⟩
  · exact h.below.drew.grown hg (by show w.heap.size ≤ wc.heap.size; rw [h.size]; omega) (fun j hj => by cases hj; omega)
  · rw [hb _ (by omega) (by omega)]; exact h.smf
  · rw [hb _ (by omega) (by omega)]; exact h.ref
  · rw [hb _ (by omega) (by omega)]; exact h.ref2

/-- .. and when the context itself is laid too. -/
structure LaidS (w wc : World) (T : List ((ByteArray × Int) × Nat)) (ue : ByteArray) (id : Int) (ue2 : ByteArray) (id2 : Int) (hs : ByteArray) : Prop where
  size : wc.heap.size = w.heap.size + 8
  below : Below w.heap.size w wc
  tb : tab wc (w.heap.size + 1) rk (fun b : Nat => .pointer (some ⟨b, 0, none⟩)) T
  smf : wc.heap[w.heap.size + 2]? = some (.cells #[.string ⟨#[]⟩, .int .u64 0, .int .u64 0, .pointer none, .int .u32 0, .string ⟨#[]⟩, .int .u64 0, .map (some (w.heap.size + 1))] 58 (0, 0))
  ref : wc.heap[w.heap.size + 3]? = some (.cells #[.string ue, .int .u8 id] 38 (0, 0))
  ref2 : wc.heap[w.heap.size + 4]? = some (.cells #[.string ue2, .int .u8 id2] 38 (0, 0))
  ctx : wc.heap[w.heap.size + 7]? = some (.cells #[.string ue, .int .u8 id, .int .u8 0, .slice none 0 0, .pointer none, .pointer none, .string hs, .pointer (some ⟨w.heap.size + 5, 0, none⟩), .pointer none, .bool false, .pointer none, .pointer none] 55 (0, 0))

theorem LaidR.ctx {w w1 w2 : World} {T T' : List ((ByteArray × Int) × Nat)} {ue : ByteArray} {id : Int} {ue2 : ByteArray} {id2 : Int} {hs : ByteArray} (h : LaidR w w1 T ue id ue2 id2)
    (hT : (w1.alloc (.cells #[.string ue, .int .u8 id, .int .u8 0, .slice none 0 0, .pointer none, .pointer none, .string hs, .pointer (some ⟨w.heap.size + 5, 0, none⟩), .pointer none, .bool false, .pointer none, .pointer none] 55)).drew.mapTurned w2 (w.heap.size + 1))
    (ht : tab w2 (w.heap.size + 1) rk (fun b : Nat => .pointer (some ⟨b, 0, none⟩)) T') : LaidS w w2 T' ue id ue2 id2 hs := by
  generalize hO : Obj.cells #[.string ue, .int .u8 id, .int .u8 0, .slice none 0 0, .pointer none, .pointer none, .string hs, .pointer (some ⟨w.heap.size + 5, 0, none⟩), .pointer none, .bool false, .pointer none, .pointer none] 55 = O at hT
  have hg := hT.grown
  have hz := h.size
  have hb : ∀ k, k < w.heap.size + 8 → k ≠ w.heap.size + 1 → w2.heap[k]? = (w1.alloc O).heap[k]? := fun k h1 h2 => hg.block k (by show k < (w1.alloc O).heap.size; rw [size_alloc, h.size]; exact h1) (fun e => h2 (by cases e; rfl))
  refine ⟨(turned_size hT).trans (by rw [size_alloc, h.size]), ?_, ht, ?_, ?_, ?_, ?_⟩
  · exact (h.below.alloc (by omega) O).drew.grown hg (by show w.heap.size ≤ (w1.alloc O).heap.size; rw [size_alloc, h.size]; omega) (fun j hj => by cases hj; omega)
  · rw [hb _ (by omega) (by omega), at_old _ _ _ (by omega)]; exact h.smf
  · rw [hb _ (by omega) (by omega), at_old _ _ _ (by omega)]; exact h.ref
  · rw [hb _ (by omega) (by omega), at_old _ _ _ (by omega)]; exact h.ref2
  · rw [hb _ (by omega) (by omega), hO]; exact at_new _ _ _ hz.symm

/-- What lies in memory behind carriedOut. M: where the answer lies. -/
structure AfterR (w w4 : World) (M : Nat) (T : List ((ByteArray × Int) × Nat)) (ue : ByteArray) (id : Int) (ue2 : ByteArray) (id2 : Int) (hs asker : ByteArray) : Prop where
  below : Below w.heap.size w w4
  tb : tab w4 (w.heap.size + 1) rk (fun b : Nat => .pointer (some ⟨b, 0, none⟩)) T
  smf : w4.heap[w.heap.size + 2]? = some (.cells #[.string ⟨#[]⟩, .int .u64 0, .int .u64 0, .pointer none, .int .u32 0, .string ⟨#[]⟩, .int .u64 0, .map (some (w.heap.size + 1))] 58 (0, 0))
  ref : w4.heap[w.heap.size + 3]? = some (.cells #[.string ue, .int .u8 id] 38 (0, 0))
  ref2 : w4.heap[w.heap.size + 4]? = some (.cells #[.string ue2, .int .u8 id2] 38 (0, 0))
  ctx : w4.heap[w.heap.size + 7]? = some (.cells #[.string ue, .int .u8 id, .int .u8 0, .slice none 0 0, .pointer none, .pointer none, .string hs, .pointer (some ⟨w.heap.size + 5, 0, none⟩), .pointer none, .bool false, .pointer none, .pointer none] 55 (0, 0))
  msg : w4.heap[M + 3]? = some (.cells #[.string asker, .pointer (some ⟨M, 0, none⟩), .nilIface] 115 (0, 0))

theorem carried_at2 (w w2 : World) (T : List ((ByteArray × Int) × Nat)) (ue : ByteArray) (id : Int) (ue2 : ByteArray) (id2 : Int) (hs asker : ByteArray) (L : LaidS w w2 T ue id ue2 id2 hs) :
    Calls Yba.prog 10 #[.pointer (some ⟨w.heap.size + 2, 0, none⟩), .pointer (some ⟨w.heap.size + 7, 0, none⟩), .pointer (some ⟨w2.heap.size + 1 + 1, 0, none⟩)]
      (((w2.alloc (.cells #[.string ue, .int .u8 id, .int .i64 403, .string ⟨#[]⟩, .string ⟨#[]⟩, .string ⟨#[]⟩, .slice none 0 0] 67)).alloc (.cells #[.string ue, .int .u8 id] 79)).alloc (.cells #[.string asker, .iface 77 (.pointer (some ⟨w2.heap.size + 1, 0, none⟩)), .pointer (some ⟨w2.heap.size, 0, none⟩)] 71))
      fun e w4 => e = .returned (.slice (some ⟨w2.heap.size + 3, 0, none⟩) 1 1) ∧ AfterR w w4 w2.heap.size (del T (ue, id)) ue id ue2 id2 hs asker := by
  have hsz := L.size
  generalize hO1 : Obj.cells #[.string ue, .int .u8 id, .int .i64 403, .string ⟨#[]⟩, .string ⟨#[]⟩, .string ⟨#[]⟩, .slice none 0 0] 67 = O1
  generalize hO2 : Obj.cells #[.string ue, .int .u8 id] 79 = O2
  generalize hO3 : Obj.cells #[.string asker, .iface 77 (.pointer (some ⟨w2.heap.size + 1, 0, none⟩)), .pointer (some ⟨w2.heap.size, 0, none⟩)] 71 = O3
  have b3 : (((w2.alloc O1).alloc O2).alloc O3).heap[w2.heap.size + 1 + 1]? = some O3 := at_new _ _ _ (by simp only [size_alloc])
  have bo : ∀ k, k < w2.heap.size → (((w2.alloc O1).alloc O2).alloc O3).heap[k]? = w2.heap[k]? := fun k hk => by
    rw [at_old _ _ _ (by simp only [size_alloc]; omega), at_old _ _ _ (by simp only [size_alloc]; omega), at_old _ _ _ hk]
  have hz3 : (((w2.alloc O1).alloc O2).alloc O3).heap.size = w2.heap.size + 3 := by simp only [size_alloc]
  have bel : Below w.heap.size w (((w2.alloc O1).alloc O2).alloc O3) := ((L.below.alloc (by omega) O1).alloc (by simp only [size_alloc]; omega) O2).alloc (by simp only [size_alloc]; omega) O3
  have tb3 := ((L.tb.alloc O1).alloc O2).alloc O3
  generalize ((w2.alloc O1).alloc O2).alloc O3 = W3 at b3 bo hz3 bel tb3 ⊢
  subst hO1 hO2 hO3
  have bs : W3.heap[w.heap.size + 2]? = _ := (bo _ (by omega)).trans L.smf
  have bc : W3.heap[w.heap.size + 7]? = _ := (bo _ (by omega)).trans L.ctx
  refine (carried_rel (w.heap.size + 2) (w.heap.size + 7) (w2.heap.size + 1 + 1) (w2.heap.size + 1) w2.heap.size (w.heap.size + 1) ue id T asker W3 (by simp [World.cell?, b3]) (by simp [World.cell?, b3]) (by simp [World.cell?, b3]) (by simp [World.cell?, bs]) (by simp [World.cell?, bc]) (by simp [World.cell?, bc]) tb3 (by omega) (by omega)).mono fun e w4 ⟨he, S⟩ => ?_
  have keep : ∀ k, k < w2.heap.size + 3 → k ≠ w.heap.size + 1 → w4.heap[k]? = W3.heap[k]? := fun k h1 h2 => S.grown.block k (by omega) (fun e => h2 (by cases e; rfl))
  have h3 := S.msg
  rw [hz3] at he h3
  refine ⟨he, ⟨?_, S.tb, ?_, ?_, ?_, ?_, h3⟩⟩
  · exact bel.grown S.grown (by omega) (fun j hj => by cases hj; omega)
  · rw [keep _ (by omega) (by omega)]; exact bs
  · rw [keep _ (by omega) (by omega), bo _ (by omega)]; exact L.ref
  · rw [keep _ (by omega) (by omega), bo _ (by omega)]; exact L.ref2
  · rw [keep _ (by omega) (by omega)]; exact bc

set_option maxHeartbeats 2000000 in
set_option maxRecDepth 100000 in
theorem release_any (ue : ByteArray) (id : Int) (ue2 : ByteArray) (id2 ho : Int) (asker : ByteArray) (w : World) (h0 : 0 ≤ ho) (h1 : ho ≤ 255) :
    Calls Yba.prog 4 #[.string ue, .int .u8 id, .string ue2, .int .u8 id2, .int .u8 ho, .string asker] w fun e w' => e = .returned (.bool true) ∧ Below w.heap.size w w' := by
  obtain ⟨hs, hhs⟩ : ∃ s, s = hoOf ho := ⟨_, rfl⟩
  have hho : ∀ w, Calls Yba.prog 9 #[.int .u8 ho] w fun e w' => e = .returned (.string hs) ∧ w' = w := fun w => by rw [hhs]; exact ho_any ho h0 h1 w
  clear hhs
  go_enter Yba.func4, Yba.ntmps4
  go_upto_region 6 with (first
    | (go_at_call 8; refine (new_any _).mono ?_; rintro e w' ⟨rfl, rfl⟩)
    | (go_at_call 9; refine (hho _).mono ?_; rintro e w' ⟨rfl, rfl⟩))
  go_cut [18] from 38 to 42 (fun c wc => c = .pointer (some ⟨w.heap.size + 6, 0, none⟩) ∧ LaidR w wc [] ue id ue2 id2)
  case first =>
    go_wp2_with fail
    go_meet
    exact ⟨rfl, laidR_mk w ue id ue2 id2 _⟩
  case rest =>
    obtain ⟨rfl, L⟩ := hcut
    obtain ⟨w1, hup, ht1, hturn1⟩ := (tab.drew L.tb).store keys38 (fun _ _ => trivial) Yba.underlying56 (x := (ue2, id2)) trivial (w.heap.size + 6)
    have k7 : wc.cell? ⟨w.heap.size + 2, 7, none⟩ = some (.map (some (w.heap.size + 1))) := by simp [World.cell?, L.smf]
    have r0 : wc.cell? ⟨w.heap.size + 4, 0, none⟩ = some (.string ue2) := by simp [World.cell?, L.ref2]
    have r1 : wc.cell? ⟨w.heap.size + 4, 1, none⟩ = some (.int .u8 id2) := by simp [World.cell?, L.ref2]
    have L1 := L.turn hturn1 ht1
    have HL : Hid (LaidR w w1 [((ue2, id2), w.heap.size + 6)] ue id ue2 id2) := L1
    have s0 : w1.cell? ⟨w.heap.size + 3, 0, none⟩ = some (.string ue) := by simp [World.cell?, L1.ref]
    have s1 : w1.cell? ⟨w.heap.size + 3, 1, none⟩ = some (.int .u8 id) := by simp [World.cell?, L1.ref]
    have s7 : w1.cell? ⟨w.heap.size + 2, 7, none⟩ = some (.map (some (w.heap.size + 1))) := by simp [World.cell?, L1.smf]
    have z1 : w.heap.size + 3 < w1.heap.size := by rw [L1.size]; omega
    have z2 : w.heap.size + 2 < w1.heap.size := by rw [L1.size]; omega
    simp only [rk] at hup
    clear L hturn1 ht1 L1
    go_wp2
    go_region
    have tb1 := (HL.out.tb.alloc (.cells #[.string ue, .int .u8 id, .int .u8 0, .slice none 0 0, .pointer none, .pointer none, .string hs, .pointer (some ⟨w.heap.size + 5, 0, none⟩), .pointer none, .bool false, .pointer none, .pointer none] 55)).drew
    obtain ⟨w2, hup2, ht2, hturn2⟩ := tb1.store keys38 (fun _ _ => trivial) Yba.underlying56 (x := (ue, id)) trivial w1.heap.size
    have L2 := HL.out.ctx hturn2 ht2
    have HS : Hid (LaidS w w2 (put [((ue2, id2), w.heap.size + 6)] (ue, id) w1.heap.size) ue id ue2 id2 hs) := L2
    have t0 : w2.cell? ⟨w.heap.size + 3, 0, none⟩ = some (.string ue) := by simp [World.cell?, L2.ref]
    have t1 : w2.cell? ⟨w.heap.size + 3, 1, none⟩ = some (.int .u8 id) := by simp [World.cell?, L2.ref]
    have z3 : w.heap.size + 3 < w2.heap.size := by rw [L2.size]; omega
    simp only [rk] at hup2
    clear tb1 ht2 hturn2 L2 hup r0 r1 k7
    go_wp2
    go_region
    clear hup2
    go_wp2_with fail
    have hz1 : w1.heap.size = w.heap.size + 7 := HL.out.size
    rw [hz1]
    refine (carried_at2 w w2 _ ue id ue2 id2 hs asker HS.out).mono ?_
    rintro e w4 ⟨rfl, A⟩
    obtain ⟨M, hM⟩ : ∃ M, M = w2.heap.size := ⟨_, rfl⟩
    rw [← hM] at A ⊢
    rw [hz1] at A
    have m0 : w4.cell? ⟨M + 3, 0, none⟩ = some (.string asker) := by simp [World.cell?, A.msg]
    have m1 : w4.cell? ⟨M + 3, 1, none⟩ = some (.pointer (some ⟨M, 0, none⟩)) := by simp [World.cell?, A.msg]
    have m2 : w4.cell? ⟨M + 3, 2, none⟩ = some .nilIface := by simp [World.cell?, A.msg]
    have hone := one_any (M + 3) asker M w4 m0 m1 m2
    have HA : Hid (AfterR w w4 M (del (put [((ue2, id2), w.heap.size + 6)] (ue, id) (w.heap.size + 7)) (ue, id)) ue id ue2 id2 hs asker) := A
    clear A HL HS s0 s1 s7 z1 z2 t0 t1 z3 m0 m1 m2 hM hz1
    go_wp2_with fail
    refine hone.mono ?_
    rintro e w4 ⟨rfl, rfl⟩
    have A := HA.out
    have c6 : w4.cell? ⟨w.heap.size + 7, 6, none⟩ = some (.string hs) := by simp [World.cell?, A.ctx]
    have c7 : w4.cell? ⟨w.heap.size + 7, 7, none⟩ = some (.pointer (some ⟨w.heap.size + 5, 0, none⟩)) := by simp [World.cell?, A.ctx]
    have c8 : w4.cell? ⟨w.heap.size + 7, 8, none⟩ = some (.pointer none) := by simp [World.cell?, A.ctx]
    have r0 : w4.cell? ⟨w.heap.size + 3, 0, none⟩ = some (.string ue) := by simp [World.cell?, A.ref]
    have r1 : w4.cell? ⟨w.heap.size + 3, 1, none⟩ = some (.int .u8 id) := by simp [World.cell?, A.ref]
    have q0 : w4.cell? ⟨w.heap.size + 4, 0, none⟩ = some (.string ue2) := by simp [World.cell?, A.ref2]
    have q1 : w4.cell? ⟨w.heap.size + 4, 1, none⟩ = some (.int .u8 id2) := by simp [World.cell?, A.ref2]
    have k7 : w4.cell? ⟨w.heap.size + 2, 7, none⟩ = some (.map (some (w.heap.size + 1))) := by simp [World.cell?, A.smf]
    have hp45 := neq45 ⟨w.heap.size + 5, 0, none⟩
    have hb := A.below
    have hbel : Hid (Below w.heap.size w w4) := hb
    clear hb
    by_cases hk : (ue2, id2) = (ue, id)
    · have tb := A.tb
      rw [hk, del_same] at tb
      have tbn : ∀ nq, tab (w4.drewN nq) (w.heap.size + 1) rk (fun b : Nat => .pointer (some ⟨b, 0, none⟩)) [] := fun nq => tb.kept (grown_drewN (row := none) ⟨rfl, rfl, rfl, Nat.le_refl _, fun _ _ _ => rfl⟩ nq) (by simp)
      have hl : ∀ nq, (Instr.lookup 56 (.map (some (w.heap.size + 1))) (.agg #[.string ue, .int .u8 id]) true).run Yba.prog (w4.drewN nq) = .ok (.tuple #[.pointer none, .bool false]) (w4.drewN nq) := fun nq => by
        have h := (tbn nq).look keys38 (fun _ _ => trivial) Yba.underlying56 (x := (ue, id)) trivial (zero41 _) true
        simpa [Tab.get, rk] using h
      have hlen : ∀ nq, (Builtin.len_ #[56] 3 #[.map (some (w.heap.size + 1))]).run Yba.prog (w4.drewN nq) = .ok (.int .i64 0) (w4.drewN nq) := fun nq => (tbn nq).len Yba.underlying56 3
      have heq := eql38 (ue2, id2) (ue, id)
      rw [decide_eq_true hk.symm] at heq
      simp only [rk] at heq
      clear A hone tb tbn hk
      go_wp2
      go_quiet (fail)
      go_wp2
      go_ret
      exact ⟨rfl, below_drewN hbel.out _⟩
    · have tb := A.tb
      rw [del_diff hk] at tb
      have tbn : ∀ nq, tab (w4.drewN nq) (w.heap.size + 1) rk (fun b : Nat => .pointer (some ⟨b, 0, none⟩)) [((ue2, id2), w.heap.size + 6)] := fun nq => tb.kept (grown_drewN (row := none) ⟨rfl, rfl, rfl, Nat.le_refl _, fun _ _ _ => rfl⟩ nq) (by simp)
      have hl : ∀ nq, (Instr.lookup 56 (.map (some (w.heap.size + 1))) (.agg #[.string ue, .int .u8 id]) true).run Yba.prog (w4.drewN nq) = .ok (.tuple #[.pointer none, .bool false]) (w4.drewN nq) := fun nq => by
        have h := (tbn nq).look keys38 (fun _ _ => trivial) Yba.underlying56 (x := (ue, id)) trivial (zero41 _) true
        have hg : Tab.get [((ue2, id2), w.heap.size + 6)] (ue, id) = none := by rw [get_cons, if_neg (by exact hk), get_nil]
        rw [hg] at h
        exact h
      have hl2 : ∀ nq, (Instr.lookup 56 (.map (some (w.heap.size + 1))) (.agg #[.string ue2, .int .u8 id2]) true).run Yba.prog (w4.drewN nq) = .ok (.tuple #[.pointer (some ⟨w.heap.size + 6, 0, none⟩), .bool true]) (w4.drewN nq) := fun nq => by
        have h := (tbn nq).look keys38 (fun _ _ => trivial) Yba.underlying56 (x := (ue2, id2)) trivial (zero41 _) true
        have hg : Tab.get [((ue2, id2), w.heap.size + 6)] (ue2, id2) = some (w.heap.size + 6) := by rw [get_cons, if_pos rfl]
        rw [hg] at h
        exact h
      have hlen : ∀ nq, (Builtin.len_ #[56] 3 #[.map (some (w.heap.size + 1))]).run Yba.prog (w4.drewN nq) = .ok (.int .i64 1) (w4.drewN nq) := fun nq => (tbn nq).len Yba.underlying56 3
      have heq := eql38 (ue2, id2) (ue, id)
      rw [decide_eq_false (fun e => hk e.symm)] at heq
      simp only [rk] at heq
      have hps := same41 ⟨w.heap.size + 6, 0, none⟩
      clear A hone tb tbn hk
      go_wp2
      go_quiet (fail)
      go_wp2
      go_quiet (fail)
      go_wp2
      go_ret
      exact ⟨rfl, below_drewN hbel.out _⟩

end Go.Proofs.Ybulkadhw
