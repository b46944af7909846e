/-
  THE WALK OF LawS1465BModel (6).
-/
import Derived.Test.YbulkadhwParts
import Derived.Test.YbulkadhwDue
import Derived.Deep.LoopGhost
import Derived.Deep.DeepCutAuto
namespace Go.Proofs.Ybulkadhw
open Go.RowKit Go.Tab

theorem info92 : (Yba.prog.info? 92).map (fun i => (i.zero, i.size, i.bytes)) = some (some (.agg #[.string ByteArray.empty, .int .i64 0, .int .u64 0, .bool false]), 4, 40) := by kernel_rfl

/-- The entries' cells. -/
def laid (w : World) (b off : Nat) (E : List (Int × Int × Int)) : Prop :=
  ∀ j e, E[j]? = some e → w.cell? ⟨b, off + j * 3, none⟩ = some (.int .u8 e.1) ∧ w.cell? ⟨b, off + j * 3 + 1, none⟩ = some (.int .u8 e.2.1) ∧ w.cell? ⟨b, off + j * 3 + 2, none⟩ = some (.int .u64 e.2.2) ∧ (0 ≤ e.1 ∧ e.1 ≤ 255) ∧ (0 ≤ e.2.1 ∧ e.2.1 ≤ 255)

theorem row_ne {w : World} {base : Nat} {e : TypeId} {size : Nat} {v : Value} {n : Nat} {xs : List Value} (h : w.ownsRow base e size v n xs) {b : Nat} (hb : b < base) : some b ≠ v.ownBlock := fun e1 => by
  have := (h.lt b e1.symm).1
  omega
theorem row_form {w : World} {base : Nat} {e : TypeId} {size : Nat} {v : Value} {n : Nat} {xs : List Value} (h : w.ownsRow base e size v n xs) (hn : 0 < n) : ∃ g cap, v = .slice (some ⟨g, 0, none⟩) n cap := by
  obtain ⟨_, h2⟩ := h
  rcases h2 with ⟨_, h2⟩ | ⟨g, cap, cur, rfl, _⟩
  · omega
  · exact ⟨g, cap, rfl⟩
theorem row_shape {w : World} {base : Nat} {e : TypeId} {size : Nat} {v : Value} {n : Nat} {xs : List Value} (h : w.ownsRow base e size v n xs) : ∃ ao cap, v = .slice ao n cap := by
  obtain ⟨_, h2⟩ := h
  rcases h2 with ⟨rfl, rfl⟩ | ⟨g, cap, cur, rfl, _⟩
  · exact ⟨_, _, rfl⟩
  · exact ⟨_, _, rfl⟩
theorem row_addr {w : World} {base : Nat} {e : TypeId} {size : Nat} {ao : Option Addr} {n cap : Nat} {xs : List Value} (h : w.ownsRow base e size (.slice ao n cap) n xs) (hn : 0 < n) : ∃ g, ao = some ⟨g, 0, none⟩ := by
  obtain ⟨g, cp, e⟩ := row_form h hn
  cases e
  exact ⟨g, rfl⟩
theorem cells4_new (w : World) (a b c d : Value) (t : TypeId) : ∀ j u, [a, b, c, d][j]? = some u → (w.alloc (.cells #[a, b, c, d] t)).cell? ((⟨w.heap.size, 0, none⟩ : Addr).add j) = some u := by
  intro j u hj
  match j, hj with
  | 0, hj => simp at hj; subst hj; simp [Addr.add]
  | 1, hj => simp at hj; subst hj; simp [Addr.add]
  | 2, hj => simp at hj; subst hj; simp [Addr.add]
  | 3, hj => simp at hj; subst hj; simp [Addr.add]
theorem cells4_one (s : ByteArray) (a b : Int) (r : Bool) : ∀ u ∈ [Value.string s, .int .i64 a, .int .u64 b, .bool r], u.oneCell' = true := by
  intro u hu
  simp at hu
  rcases hu with rfl | rfl | rfl | rfl <;> rfl

/-- The schedule and the event as the law lays them. -/
theorem due_at_other (wr : World) (B : Nat) (x : ByteArray) (t c sq : Int) (hc : (c == 6) = false) :
    Calls Yba.prog 14 #[.pointer (some ⟨wr.heap.size, 0, none⟩), .pointer (some ⟨wr.heap.size + 1, 0, none⟩)]
      ((wr.alloc (.cells #[.int .i64 0, .int .u64 0, .slice none 0 0, .map (some B)] 97)).alloc (.cells #[.int .i64 0, .int .u64 sq, .string x, .string ⟨#[]⟩, .int .u8 c, .slice none 0 0, .iface 3 (.int .i64 t), .int .u64 0, .int .i64 0, .bool false] 104))
      fun e w' => e = .returned (.bool true) ∧ ((wr.alloc (.cells #[.int .i64 0, .int .u64 0, .slice none 0 0, .map (some B)] 97)).alloc (.cells #[.int .i64 0, .int .u64 sq, .string x, .string ⟨#[]⟩, .int .u8 c, .slice none 0 0, .iface 3 (.int .i64 t), .int .u64 0, .int .i64 0, .bool false] 104)).grownBy w' (some B) ∧ (∀ {T : List ((ByteArray × Int) × Int)}, tab wr B tk (Value.int .u64) T → tab w' B tk (Value.int .u64) T) := by
  refine (due_other _ _ c _ hc (by simp)).mono fun e w' ⟨he, hw⟩ => ?_
  subst hw
  exact ⟨he, ⟨rfl, rfl, rfl, Nat.le_refl _, fun _ _ _ => rfl⟩, fun h => (h.alloc _).alloc _⟩
theorem due_at_other' (wr : World) (B : Nat) (x : ByteArray) (t c sq : Int) (hc : (c == 6) = false) (T : List ((ByteArray × Int) × Int)) (htab : tab wr B tk (Value.int .u64) T) :
    Calls Yba.prog 14 #[.pointer (some ⟨wr.heap.size, 0, none⟩), .pointer (some ⟨wr.heap.size + 1, 0, none⟩)]
      ((wr.alloc (.cells #[.int .i64 0, .int .u64 0, .slice none 0 0, .map (some B)] 97)).alloc (.cells #[.int .i64 0, .int .u64 sq, .string x, .string ⟨#[]⟩, .int .u8 c, .slice none 0 0, .iface 3 (.int .i64 t), .int .u64 0, .int .i64 0, .bool false] 104))
      fun e w' => e = .returned (.bool true) ∧ tab w' B tk (Value.int .u64) T ∧ ((wr.alloc (.cells #[.int .i64 0, .int .u64 0, .slice none 0 0, .map (some B)] 97)).alloc (.cells #[.int .i64 0, .int .u64 sq, .string x, .string ⟨#[]⟩, .int .u8 c, .slice none 0 0, .iface 3 (.int .i64 t), .int .u64 0, .int .i64 0, .bool false] 104)).grownBy w' (some B) :=
  (due_at_other wr B x t c sq hc).mono fun _ _ ⟨he, hg, ht⟩ => ⟨he, ht htab, hg⟩
theorem below_drewN {B : Nat} {a w : World} (h : Below B a w) : ∀ n, Below B a (w.drewN n)
  | 0 => h
  | n + 1 => (below_drewN h n).drew
theorem due_at_timer (wr : World) (B : Nat) (x : ByteArray) (t sq : Int) (T : List ((ByteArray × Int) × Int)) (htab : tab wr B tk (Value.int .u64) T) :
    Calls Yba.prog 14 #[.pointer (some ⟨wr.heap.size, 0, none⟩), .pointer (some ⟨wr.heap.size + 1, 0, none⟩)]
      ((wr.alloc (.cells #[.int .i64 0, .int .u64 0, .slice none 0 0, .map (some B)] 97)).alloc (.cells #[.int .i64 0, .int .u64 sq, .string x, .string ⟨#[]⟩, .int .u8 6, .slice none 0 0, .iface 3 (.int .i64 t), .int .u64 0, .int .i64 0, .bool false] 104))
      fun e w' => e = .returned (.bool (decide (get T (x, t) = some sq))) ∧ tab w' B tk (Value.int .u64) (if get T (x, t) = some sq then del T (x, t) else T) ∧ ((wr.alloc (.cells #[.int .i64 0, .int .u64 0, .slice none 0 0, .map (some B)] 97)).alloc (.cells #[.int .i64 0, .int .u64 sq, .string x, .string ⟨#[]⟩, .int .u8 6, .slice none 0 0, .iface 3 (.int .i64 t), .int .u64 0, .int .i64 0, .bool false] 104)).grownBy w' (some B) :=
  due_tab _ _ B sq x t T _ (by simp) (by simp) (by simp) (by simp) (by simp) (by simp) (by simp; omega) ((htab.alloc _).alloc _)

theorem tab_drewN {w : World} {B : Nat} {T : List ((ByteArray × Int) × Int)} (h : tab w B tk (Value.int .u64) T) (n : Nat) : tab (w.drewN n) B tk (Value.int .u64) T :=
  h.kept (grown_drewN (row := none) ⟨rfl, rfl, rfl, Nat.le_refl _, fun _ _ _ => rfl⟩ n) (by simp)

/-- What the law needs of the world behind due. -/
theorem behind {w wr w2 : World} {B : Nat} {A O : Obj} {v : Value} {n : Nat} {xs : List Value} (hB : B = w.heap.size) (hnx : Below w.heap.size w wr) (hws : w.heap.size + 1 ≤ wr.heap.size) (hrow : wr.ownsRow (w.heap.size + 1) 92 4 v n xs)
    (hg : ((wr.alloc A).alloc O).grownBy w2 (some B)) : w2.ownsRow (w.heap.size + 1) 92 4 v n xs ∧ Below w.heap.size w w2 ∧ w2.heap[wr.heap.size]? = some A := by
  subst hB
  have h2 := (hrow.alloc A).alloc O
  refine ⟨h2.kept hg (Or.inr (row_ne h2 (Nat.lt_succ_self _)).symm), ?_, ?_⟩
  · exact ((hnx.alloc hnx.size A).alloc (by simp; omega) O).grown hg (by simp; omega) (fun j hj => by cases hj; exact Nat.le_refl _)
  · rw [hg.block wr.heap.size (by simp; omega) (by simp; omega), (MapKept.heap_alloc (wr.alloc A) O).2 _ (by simp), (MapKept.heap_alloc wr A).1]

set_option maxHeartbeats 4000000 in
set_option maxRecDepth 100000 in
theorem model_any (a : Option Addr) (b off cap : Nat) (E : List (Int × Int × Int)) (kind node timer ev : Int) (us : Bool) (w : World) (hlen : E.length ≤ 1024) (hab : Hid (0 < E.length → a = some ⟨b, off, none⟩ ∧ b < w.heap.size)) (hE : Hid (laid w b off E))
    (hk0 : 0 ≤ kind) (hk1 : kind ≤ 255) (hn0 : 0 ≤ node) (hn1 : node ≤ 255) (ht0 : 0 ≤ timer) (ht1 : timer ≤ 255) :
    Calls Yba.prog 6 #[.slice a E.length cap, .int .u8 kind, .int .u8 node, .int .u8 timer, .int .u64 ev, .bool us] w fun e w' => e = .returned (.bool true) ∧ Below w.heap.size w w' := by
  have hmm := @run_makeMap Yba.prog
  obtain ⟨i0, hi, hz0, hz1, hz2⟩ := info_parts info92
  go_enter Yba.func6, Yba.ntmps6
  go_wp2
  go_loopg [13, 40] (E.length) (fun g v i wr => ∃ k : Nat, k ≤ E.length ∧ g = E.length - k ∧ i = .int .i64 k ∧ tab wr w.heap.size tk (Value.int .u64) (table (E.take k)) ∧
      wr.ownsRow (w.heap.size + 1) 92 4 v (slots (table (E.take k))).length (cellsOf (slots (table (E.take k)))) ∧ Below w.heap.size w wr ∧ w.heap.size + 1 ≤ wr.heap.size)
  case atStart => exact ⟨0, Nat.zero_le _, rfl, rfl, tab_made _ _ _, World.ownsRow_nil _ _ _ _, (Below.refl _ _).alloc (Nat.le_refl _) _, by simp⟩
  case round =>
    obtain ⟨k, hk, rfl, rfl, htab, hrow, hnx, hws⟩ := hrel
    by_cases hlt : k < E.length
    · obtain ⟨e, he⟩ : ∃ e, E[k]? = some e := ⟨_, List.getElem?_eq_getElem hlt⟩
      obtain ⟨ha, hb⟩ := hab.out (by omega)
      subst ha
      have HT := table_succ E k e he
      obtain ⟨c0, c1, c2, ⟨b0, b0'⟩, b1, b1'⟩ := hE.out k e he
      obtain ⟨n, t, q⟩ := e
      have d0 : wr.cell? ⟨b, off + k * 3, none⟩ = some (.int .u8 n) := (hnx.cell (by exact hb)).trans c0
      have d1 : wr.cell? ⟨b, off + k * 3 + 1, none⟩ = some (.int .u8 t) := (hnx.cell (by exact hb)).trans c1
      have d2 : wr.cell? ⟨b, off + k * 3 + 2, none⟩ = some (.int .u64 q) := (hnx.cell (by exact hb)).trans c2
      have hT : Hid (table (E.take (k + 1)) = put (table (E.take k)) (nodeOf n, t % 4) q) := HT
      have hbr : b < wr.heap.size := Nat.lt_of_lt_of_le hb hnx.size
      have hlT := table_length E k
      clear HT c0 c1 c2 he
      simp only [] at b0 b0' b1 b1'
      go_wp2_with fail
      refine (node_any n (by omega) (by omega) _).mono ?_
      rintro e w' ⟨rfl, rfl⟩
      obtain ⟨x, hx⟩ : ∃ x, x = nodeOf n := ⟨_, rfl⟩
      rw [← hx] at hT ⊢
      clear hx
      go_wp2_with (first
        | (at_mapUpdate; refine wpList_store_tab _ rfl _ _ _ 84 rfl 89 25 keys89 Yba.underlying84 w.heap.size rfl (htab.alloc _) (fun _ _ => trivial) (x, t % 4) trivial rfl q rfl ?_; intro w1 htab1 hturn1))
      have hrA := hrow.alloc (.cells #[.int .u8 n, .int .u8 t, .int .u64 q] 86)
      have hr1 := hrA.kept hturn1.grown (Or.inr (row_ne hrA (Nat.lt_succ_self _)).symm)
      have s1 := hturn1.grown.size
      have hblk : w1.heap[wr.heap.size]? = some (.cells #[.int .u8 n, .int .u8 t, .int .u64 q] 86) := (hturn1.grown.block wr.heap.size (by simp) (by simp; omega)).trans (MapKept.heap_alloc wr _).1
      have hen : w1.cell? ⟨wr.heap.size, 2, none⟩ = some (.int .u64 q) := by simp [World.cell?, hblk]
      have hnx1 : Below w.heap.size w w1 := (hnx.alloc hnx.size _).grown hturn1.grown (by simp; omega) (fun j hj => by cases hj; exact Nat.le_refl _)
      simp at s1
      clear hblk hrA
      refine (find_row x (t % 4) (by rw [slots_length]; omega) hr1).mono ?_
      rintro e w1 ⟨rfl, rfl⟩
      have hsl := slots_length (table (E.take k))
      cases hix : idx (table (E.take k)) (x, t % 4) with
      | none =>
        have hfi : fi (slots (table (E.take k))) (x, t % 4) = -1 := fi_none (by rw [slots_idx]; exact hix)
        have HN := slots_new hix q
        rw [hfi]
        rw [← hT.out] at htab1 HN
        have HM : Hid _ := HN
        clear HN hix hfi
        go_wp2_with (first
          | (at_builtin; refine wpList_append_own _ rfl _ _ 83 rfl (w.heap.size + 1) 92 i0 _ 4 40 Yba.underlying83 hi hz0 hz1 hz2 rfl (by decide) _ _ _ rfl (hr1.alloc _) ⟨w1.heap.size, 0, none⟩ 1 1 [.string x, .int .i64 (t % 4), .int .u64 q, .bool true] rfl rfl (cells4_new _ _ _ _ _ _) (cells4_one _ _ _ _) (by unfold maxLen; omega) (by omega) (by simp; omega) ?_; intro v' w2 hown' hgrow2 hnil2))
        have s2 := hgrow2.size
        simp at s2
        go_roundg (E.length - (k + 1))
        case measure => omega
        case rel =>
          refine ⟨k + 1, by omega, rfl, by go_num, ?_, ?_, ?_, by omega⟩
          · exact (htab1.alloc _).kept hgrow2 (row_ne hr1 (Nat.lt_succ_self _))
          · rw [HM.out.2, HM.out.1]; exact hown'
          · exact (hnx1.alloc (by omega) _).grown hgrow2 (by simp; omega) (fun j hj => Nat.le_trans (Nat.le_succ _) (hr1.lt j hj).1)
      | some i =>
        have hfi : fi (slots (table (E.take k))) (x, t % 4) = i := fi_some (by rw [slots_idx]; exact hix)
        have hil := idx_lt hix
        obtain ⟨v0, hv0, _⟩ := idx_some hix
        have HN := slots_old hix q
        rw [hfi]
        rw [← hT.out] at htab1 HN
        have HM : Hid _ := HN
        obtain ⟨g, cp, hform⟩ : ∃ g cp, u13 = .slice (some ⟨g, 0, none⟩) (slots (table (E.take k))).length cp := row_form hr1 (by omega)
        subst hform
        have hc2 : w1.cell? ⟨g, i * 4 + 2, none⟩ = some (.int .u64 v0) := by
          rw [hr1.cellAt (i * 4 + 2) (by omega), cellsOf_at _ i 2 _ (slots_at hv0) (by omega)]; rfl
        have hf2 : w1.frozen? ⟨g, i * 4 + 2, none⟩ = false := hr1.frozenAt _
        have hst := hr1.stored (i * 4 + 2) (.int .u64 q)
        have HST : Hid _ := hst
        have hge := (hr1.lt g rfl).1
        clear HN hix hfi hv0 hst
        go_wp2
        go_roundg (E.length - (k + 1))
        case measure => omega
        case rel =>
          refine ⟨k + 1, by omega, rfl, by go_num, ?_, ?_, ?_, ?_⟩
          · exact htab1.kept HST.out.2 (by simp; omega)
          · rw [HM.out.2, HM.out.1, hsl]
            have h5 := HST.out.1
            rw [hsl] at h5
            exact h5
          · exact hnx1.grown HST.out.2 (by omega) (fun j hj => by cases hj; omega)
          · have := HST.out.2.size; omega
    · obtain rfl : k = E.length := by omega
      rw [List.take_length] at htab hrow
      have hnd := table_nodup E
      have hlT : (table E).length ≤ 1024 := by have := table_length E E.length; rw [List.take_length] at this; omega
      obtain ⟨T, hTE⟩ : ∃ T, T = table E := ⟨_, rfl⟩
      rw [← hTE] at htab hrow hnd hlT
      have hsl := slots_length T
      obtain ⟨x, hx⟩ : ∃ x, x = nodeOf node := ⟨_, rfl⟩
      have hnode : Calls Yba.prog 12 #[.int .u8 node] (wr.alloc (.cells #[.int .i64 0, .int .u64 0, .slice none 0 0, .map (some w.heap.size)] 97)) fun e w' => e = .returned (.string x) ∧ w' = (wr.alloc (.cells #[.int .i64 0, .int .u64 0, .slice none 0 0, .map (some w.heap.size)] 97)) := by
        rw [hx]; exact node_any node hn0 hn1 _
      have hfind : Calls Yba.prog 13 #[u13, .string x, .int .i64 (timer % 4)] (wr.alloc (.cells #[.int .i64 0, .int .u64 0, .slice none 0 0, .map (some w.heap.size)] 97)) fun e w' => e = .returned (.int .i64 (fi (slots T) (x, timer % 4))) ∧ w' = (wr.alloc (.cells #[.int .i64 0, .int .u64 0, .slice none 0 0, .map (some w.heap.size)] 97)) :=
        find_row x (timer % 4) (by rw [hsl]; omega) (hrow.alloc _)
      have HND : Hid ((T.map (·.1)).Nodup) := hnd
      clear hTE hx hE hnd hab
      obtain ⟨ao, cp, hsh⟩ := row_shape hrow
      subst hsh
      rw [hsl] at hrow hfind
      by_cases hkd : kind % 2 = 1
      · cases us with
        | false =>
          have hc6 : (kind / 2 % 6 == 6) = false := by rw [beq_eq_false_iff_ne]; omega
          rw [hsl]
          go_wp2_with (first
            | (go_at_call 12; refine hnode.mono ?_; rintro e w' ⟨rfl, rfl⟩)
            | (go_at_call 13; refine hfind.mono ?_; rintro e w' ⟨rfl, rfl⟩))
          refine (due_at_other' wr w.heap.size x (timer % 4) (kind / 2 % 6) ev hc6 T htab).mono ?_
          rintro e w2 ⟨rfl, ht2, hg2⟩
          obtain ⟨hr2, hnx2, hbk⟩ := behind rfl hnx hws hrow hg2
          have hs3 : w2.cell? ⟨wr.heap.size, 3, none⟩ = some (.map (some w.heap.size)) := by simp [World.cell?, hbk]
          clear hnode hfind hg2 hbk htab hrow hnx
          go_wp2_with (first
            | (at_len; refine wpList_len_tab _ rfl _ 84 rfl 89 25 Yba.underlying84 w.heap.size rfl ht2 ?_))
          go_loopg [151] (T.length) (fun gh i wl => ∃ k n : Nat, k ≤ T.length ∧ gh = T.length - k ∧ i = .int .i64 k ∧ wl = w2.drewN n)
          case atStart => exact ⟨0, 0, Nat.zero_le _, rfl, rfl, rfl⟩
          case round =>
            obtain ⟨k, nn, hk2, rfl, rfl, rfl⟩ := hrel
            by_cases hkT : k < T.length
            · obtain ⟨p, hp⟩ : ∃ p, T[k]? = some p := ⟨_, List.getElem?_eq_getElem hkT⟩
              have hl := fun (nq : Nat) => (tab_drewN ht2 nq).look keys89 (fun _ _ => trivial) Yba.underlying84 (x := p.1) trivial (zero25 _) true
              rw [get_nodup HND.out hp] at hl
              obtain ⟨⟨pn, pt⟩, pq⟩ := p
              obtain ⟨g, rfl⟩ := row_addr hr2 (by omega)
              have hx0 : w2.cell? ⟨g, k * 4, none⟩ = some (.string pn) := by have := hr2.cellAt (k * 4 + 0) (by omega); rw [cellsOf_at _ k 0 _ (slots_at hp) (by omega)] at this; simpa [slotCells] using this
              have hx1 : w2.cell? ⟨g, k * 4 + 1, none⟩ = some (.int .i64 pt) := by have := hr2.cellAt (k * 4 + 1) (by omega); rw [cellsOf_at _ k 1 _ (slots_at hp) (by omega)] at this; simpa [slotCells] using this
              have hx2 : w2.cell? ⟨g, k * 4 + 2, none⟩ = some (.int .u64 pq) := by have := hr2.cellAt (k * 4 + 2) (by omega); rw [cellsOf_at _ k 2 _ (slots_at hp) (by omega)] at this; simpa [slotCells] using this
              simp only [tk, Option.elim_some, Option.isSome_some, if_true] at hl
              clear hr2 hp
              go_wp2
              go_quiet (fail)
              go_wp2
              go_roundg (T.length - (k + 1))
              case measure => omega
              case rel => exact ⟨k + 1, _, by omega, rfl, by go_num, rfl⟩
            · go_wp2
              go_ret
              exact ⟨rfl, below_drewN hnx2 _⟩
        | true =>
          cases hix : idx T (x, timer % 4) with
          | none =>
            have hc6 : (kind / 2 % 6 == 6) = false := by rw [beq_eq_false_iff_ne]; omega
            rw [hsl]
            have hfi : fi (slots T) (x, timer % 4) = -1 := fi_none (by rw [slots_idx]; exact hix)
            have hget := (idx_none hix).1
            rw [hfi] at hfind
            clear hfi
            clear hix hget
            go_wp2_with (first
              | (go_at_call 12; refine hnode.mono ?_; rintro e w' ⟨rfl, rfl⟩)
              | (go_at_call 13; refine hfind.mono ?_; rintro e w' ⟨rfl, rfl⟩))
            refine (due_at_other' wr w.heap.size x (timer % 4) (kind / 2 % 6) ev hc6 T htab).mono ?_
            rintro e w2 ⟨rfl, ht2, hg2⟩
            obtain ⟨hr2, hnx2, hbk⟩ := behind rfl hnx hws hrow hg2
            have hs3 : w2.cell? ⟨wr.heap.size, 3, none⟩ = some (.map (some w.heap.size)) := by simp [World.cell?, hbk]
            clear hnode hfind hg2 hbk htab hrow hnx
            go_wp2_with (first
              | (at_len; refine wpList_len_tab _ rfl _ 84 rfl 89 25 Yba.underlying84 w.heap.size rfl ht2 ?_))
            go_loopg [151] (T.length) (fun gh i wl => ∃ k n : Nat, k ≤ T.length ∧ gh = T.length - k ∧ i = .int .i64 k ∧ wl = w2.drewN n)
            case atStart => exact ⟨0, 0, Nat.zero_le _, rfl, rfl, rfl⟩
            case round =>
              obtain ⟨k, nn, hk2, rfl, rfl, rfl⟩ := hrel
              by_cases hkT : k < T.length
              · obtain ⟨p, hp⟩ : ∃ p, T[k]? = some p := ⟨_, List.getElem?_eq_getElem hkT⟩
                have hl := fun (nq : Nat) => (tab_drewN ht2 nq).look keys89 (fun _ _ => trivial) Yba.underlying84 (x := p.1) trivial (zero25 _) true
                rw [get_nodup HND.out hp] at hl
                obtain ⟨⟨pn, pt⟩, pq⟩ := p
                obtain ⟨g, rfl⟩ := row_addr hr2 (by omega)
                have hx0 : w2.cell? ⟨g, k * 4, none⟩ = some (.string pn) := by have := hr2.cellAt (k * 4 + 0) (by omega); rw [cellsOf_at _ k 0 _ (slots_at hp) (by omega)] at this; simpa [slotCells] using this
                have hx1 : w2.cell? ⟨g, k * 4 + 1, none⟩ = some (.int .i64 pt) := by have := hr2.cellAt (k * 4 + 1) (by omega); rw [cellsOf_at _ k 1 _ (slots_at hp) (by omega)] at this; simpa [slotCells] using this
                have hx2 : w2.cell? ⟨g, k * 4 + 2, none⟩ = some (.int .u64 pq) := by have := hr2.cellAt (k * 4 + 2) (by omega); rw [cellsOf_at _ k 2 _ (slots_at hp) (by omega)] at this; simpa [slotCells] using this
                simp only [tk, Option.elim_some, Option.isSome_some, if_true] at hl
                clear hr2 hp
                go_wp2
                go_quiet (fail)
                go_wp2
                go_roundg (T.length - (k + 1))
                case measure => omega
                case rel => exact ⟨k + 1, _, by omega, rfl, by go_num, rfl⟩
              · go_wp2
                go_ret
                exact ⟨rfl, below_drewN hnx2 _⟩
          | some i =>
            have hc6 : (kind / 2 % 6 == 6) = false := by rw [beq_eq_false_iff_ne]; omega
            rw [hsl]
            obtain ⟨v0, hv0, hget⟩ := idx_some hix
            have hil := idx_lt hix
            have hfi : fi (slots T) (x, timer % 4) = i := fi_some (by rw [slots_idx]; exact hix)
            rw [hfi] at hfind
            obtain ⟨g, rfl⟩ := row_addr hrow (by omega)
            have hgl := (hrow.lt g rfl).2
            have hcw : wr.cell? ⟨g, i * 4 + 2, none⟩ = some (.int .u64 v0) := by have := hrow.cellAt (i * 4 + 2) (by omega); rw [cellsOf_at _ i 2 _ (slots_at hv0) (by omega)] at this; simpa [slotCells] using this
            clear hfi
            clear hix hget
            go_wp2_with (first
              | (go_at_call 12; refine hnode.mono ?_; rintro e w' ⟨rfl, rfl⟩)
              | (go_at_call 13; refine hfind.mono ?_; rintro e w' ⟨rfl, rfl⟩))
            refine (due_at_other' wr w.heap.size x (timer % 4) (kind / 2 % 6) v0 hc6 T htab).mono ?_
            rintro e w2 ⟨rfl, ht2, hg2⟩
            obtain ⟨hr2, hnx2, hbk⟩ := behind rfl hnx hws hrow hg2
            have hs3 : w2.cell? ⟨wr.heap.size, 3, none⟩ = some (.map (some w.heap.size)) := by simp [World.cell?, hbk]
            clear hnode hfind hg2 hbk htab hrow hnx
            go_wp2_with (first
              | (at_len; refine wpList_len_tab _ rfl _ 84 rfl 89 25 Yba.underlying84 w.heap.size rfl ht2 ?_))
            go_loopg [151] (T.length) (fun gh i wl => ∃ k n : Nat, k ≤ T.length ∧ gh = T.length - k ∧ i = .int .i64 k ∧ wl = w2.drewN n)
            case atStart => exact ⟨0, 0, Nat.zero_le _, rfl, rfl, rfl⟩
            case round =>
              obtain ⟨k, nn, hk2, rfl, rfl, rfl⟩ := hrel
              by_cases hkT : k < T.length
              · obtain ⟨p, hp⟩ : ∃ p, T[k]? = some p := ⟨_, List.getElem?_eq_getElem hkT⟩
                have hl := fun (nq : Nat) => (tab_drewN ht2 nq).look keys89 (fun _ _ => trivial) Yba.underlying84 (x := p.1) trivial (zero25 _) true
                rw [get_nodup HND.out hp] at hl
                obtain ⟨⟨pn, pt⟩, pq⟩ := p
                have hx0 : w2.cell? ⟨g, k * 4, none⟩ = some (.string pn) := by have := hr2.cellAt (k * 4 + 0) (by omega); rw [cellsOf_at _ k 0 _ (slots_at hp) (by omega)] at this; simpa [slotCells] using this
                have hx1 : w2.cell? ⟨g, k * 4 + 1, none⟩ = some (.int .i64 pt) := by have := hr2.cellAt (k * 4 + 1) (by omega); rw [cellsOf_at _ k 1 _ (slots_at hp) (by omega)] at this; simpa [slotCells] using this
                have hx2 : w2.cell? ⟨g, k * 4 + 2, none⟩ = some (.int .u64 pq) := by have := hr2.cellAt (k * 4 + 2) (by omega); rw [cellsOf_at _ k 2 _ (slots_at hp) (by omega)] at this; simpa [slotCells] using this
                simp only [tk, Option.elim_some, Option.isSome_some, if_true] at hl
                clear hr2 hp
                go_wp2
                go_quiet (fail)
                go_wp2
                go_roundg (T.length - (k + 1))
                case measure => omega
                case rel => exact ⟨k + 1, _, by omega, rfl, by go_num, rfl⟩
              · go_wp2
                go_ret
                exact ⟨rfl, below_drewN hnx2 _⟩
      · have hkd0 : kind % 2 = 0 := by omega
        clear hkd
        cases hix : idx T (x, timer % 4) with
        | none =>
          cases us with
          | false =>
            rw [hsl]
            have hfi : fi (slots T) (x, timer % 4) = -1 := fi_none (by rw [slots_idx]; exact hix)
            have hget := (idx_none hix).1
            rw [hfi] at hfind
            clear hfi
            have hdue := due_at_timer wr w.heap.size x (timer % 4) ev T htab
            rw [hget] at hdue
            simp only [reduceCtorEq, decide_false, if_false] at hdue
            clear hix hget
            go_wp2_with (first
              | (go_at_call 12; refine hnode.mono ?_; rintro e w' ⟨rfl, rfl⟩)
              | (go_at_call 13; refine hfind.mono ?_; rintro e w' ⟨rfl, rfl⟩))
            refine hdue.mono ?_
            rintro e w2 ⟨rfl, ht2, hg2⟩
            obtain ⟨hr2, hnx2, hbk⟩ := behind rfl hnx hws hrow hg2
            have hs3 : w2.cell? ⟨wr.heap.size, 3, none⟩ = some (.map (some w.heap.size)) := by simp [World.cell?, hbk]
            clear hnode hfind hg2 hbk htab hrow hnx
            go_wp2_with (first
              | (at_len; refine wpList_len_tab _ rfl _ 84 rfl 89 25 Yba.underlying84 w.heap.size rfl ht2 ?_))
            go_loopg [151] (T.length) (fun gh i wl => ∃ k n : Nat, k ≤ T.length ∧ gh = T.length - k ∧ i = .int .i64 k ∧ wl = w2.drewN n)
            case atStart => exact ⟨0, 0, Nat.zero_le _, rfl, rfl, rfl⟩
            case round =>
              obtain ⟨k, nn, hk2, rfl, rfl, rfl⟩ := hrel
              by_cases hkT : k < T.length
              · obtain ⟨p, hp⟩ : ∃ p, T[k]? = some p := ⟨_, List.getElem?_eq_getElem hkT⟩
                have hl := fun (nq : Nat) => (tab_drewN ht2 nq).look keys89 (fun _ _ => trivial) Yba.underlying84 (x := p.1) trivial (zero25 _) true
                rw [get_nodup HND.out hp] at hl
                obtain ⟨⟨pn, pt⟩, pq⟩ := p
                obtain ⟨g, rfl⟩ := row_addr hr2 (by omega)
                have hx0 : w2.cell? ⟨g, k * 4, none⟩ = some (.string pn) := by have := hr2.cellAt (k * 4 + 0) (by omega); rw [cellsOf_at _ k 0 _ (slots_at hp) (by omega)] at this; simpa [slotCells] using this
                have hx1 : w2.cell? ⟨g, k * 4 + 1, none⟩ = some (.int .i64 pt) := by have := hr2.cellAt (k * 4 + 1) (by omega); rw [cellsOf_at _ k 1 _ (slots_at hp) (by omega)] at this; simpa [slotCells] using this
                have hx2 : w2.cell? ⟨g, k * 4 + 2, none⟩ = some (.int .u64 pq) := by have := hr2.cellAt (k * 4 + 2) (by omega); rw [cellsOf_at _ k 2 _ (slots_at hp) (by omega)] at this; simpa [slotCells] using this
                simp only [tk, Option.elim_some, Option.isSome_some, if_true] at hl
                clear hr2 hp
                go_wp2
                go_quiet (fail)
                go_wp2
                go_roundg (T.length - (k + 1))
                case measure => omega
                case rel => exact ⟨k + 1, _, by omega, rfl, by go_num, rfl⟩
              · go_wp2
                go_ret
                exact ⟨rfl, below_drewN hnx2 _⟩
          | true =>
            rw [hsl]
            have hfi : fi (slots T) (x, timer % 4) = -1 := fi_none (by rw [slots_idx]; exact hix)
            have hget := (idx_none hix).1
            rw [hfi] at hfind
            clear hfi
            have hdue := due_at_timer wr w.heap.size x (timer % 4) ev T htab
            rw [hget] at hdue
            simp only [reduceCtorEq, decide_false, if_false] at hdue
            clear hix hget
            go_wp2_with (first
              | (go_at_call 12; refine hnode.mono ?_; rintro e w' ⟨rfl, rfl⟩)
              | (go_at_call 13; refine hfind.mono ?_; rintro e w' ⟨rfl, rfl⟩))
            refine hdue.mono ?_
            rintro e w2 ⟨rfl, ht2, hg2⟩
            obtain ⟨hr2, hnx2, hbk⟩ := behind rfl hnx hws hrow hg2
            have hs3 : w2.cell? ⟨wr.heap.size, 3, none⟩ = some (.map (some w.heap.size)) := by simp [World.cell?, hbk]
            clear hnode hfind hg2 hbk htab hrow hnx
            go_wp2_with (first
              | (at_len; refine wpList_len_tab _ rfl _ 84 rfl 89 25 Yba.underlying84 w.heap.size rfl ht2 ?_))
            go_loopg [151] (T.length) (fun gh i wl => ∃ k n : Nat, k ≤ T.length ∧ gh = T.length - k ∧ i = .int .i64 k ∧ wl = w2.drewN n)
            case atStart => exact ⟨0, 0, Nat.zero_le _, rfl, rfl, rfl⟩
            case round =>
              obtain ⟨k, nn, hk2, rfl, rfl, rfl⟩ := hrel
              by_cases hkT : k < T.length
              · obtain ⟨p, hp⟩ : ∃ p, T[k]? = some p := ⟨_, List.getElem?_eq_getElem hkT⟩
                have hl := fun (nq : Nat) => (tab_drewN ht2 nq).look keys89 (fun _ _ => trivial) Yba.underlying84 (x := p.1) trivial (zero25 _) true
                rw [get_nodup HND.out hp] at hl
                obtain ⟨⟨pn, pt⟩, pq⟩ := p
                obtain ⟨g, rfl⟩ := row_addr hr2 (by omega)
                have hx0 : w2.cell? ⟨g, k * 4, none⟩ = some (.string pn) := by have := hr2.cellAt (k * 4 + 0) (by omega); rw [cellsOf_at _ k 0 _ (slots_at hp) (by omega)] at this; simpa [slotCells] using this
                have hx1 : w2.cell? ⟨g, k * 4 + 1, none⟩ = some (.int .i64 pt) := by have := hr2.cellAt (k * 4 + 1) (by omega); rw [cellsOf_at _ k 1 _ (slots_at hp) (by omega)] at this; simpa [slotCells] using this
                have hx2 : w2.cell? ⟨g, k * 4 + 2, none⟩ = some (.int .u64 pq) := by have := hr2.cellAt (k * 4 + 2) (by omega); rw [cellsOf_at _ k 2 _ (slots_at hp) (by omega)] at this; simpa [slotCells] using this
                simp only [tk, Option.elim_some, Option.isSome_some, if_true] at hl
                clear hr2 hp
                go_wp2
                go_quiet (fail)
                go_wp2
                go_roundg (T.length - (k + 1))
                case measure => omega
                case rel => exact ⟨k + 1, _, by omega, rfl, by go_num, rfl⟩
              · go_wp2
                go_ret
                exact ⟨rfl, below_drewN hnx2 _⟩
        | some i =>
          cases us with
          | true =>
            rw [hsl]
            obtain ⟨v0, hv0, hget⟩ := idx_some hix
            have hil := idx_lt hix
            have hfi : fi (slots T) (x, timer % 4) = i := fi_some (by rw [slots_idx]; exact hix)
            rw [hfi] at hfind
            obtain ⟨g, rfl⟩ := row_addr hrow (by omega)
            have hgl := (hrow.lt g rfl).2
            have hcw : wr.cell? ⟨g, i * 4 + 2, none⟩ = some (.int .u64 v0) := by have := hrow.cellAt (i * 4 + 2) (by omega); rw [cellsOf_at _ i 2 _ (slots_at hv0) (by omega)] at this; simpa [slotCells] using this
            clear hfi
            have hdue := due_at_timer wr w.heap.size x (timer % 4) v0 T htab
            rw [hget] at hdue
            simp only [decide_true, if_true] at hdue
            have hdl : ((del T (x, timer % 4)).length : Int) = (T.length : Int) - 1 := by rw [del_length hix]; omega
            clear hix hget
            go_wp2_with (first
              | (go_at_call 12; refine hnode.mono ?_; rintro e w' ⟨rfl, rfl⟩)
              | (go_at_call 13; refine hfind.mono ?_; rintro e w' ⟨rfl, rfl⟩))
            refine hdue.mono ?_
            rintro e w2 ⟨rfl, ht2, hg2⟩
            obtain ⟨hr2, hnx2, hbk⟩ := behind rfl hnx hws hrow hg2
            have hs3 : w2.cell? ⟨wr.heap.size, 3, none⟩ = some (.map (some w.heap.size)) := by simp [World.cell?, hbk]
            have hz2 : w2.cell? ⟨g, i * 4 + 2, none⟩ = some (.int .u64 v0) := by have := hr2.cellAt (i * 4 + 2) (by omega); rw [cellsOf_at _ i 2 _ (slots_at hv0) (by omega)] at this; simpa [slotCells] using this
            clear hnode hfind hg2 hbk htab hrow hnx
            go_wp2_with (first
              | (at_len; refine wpList_len_tab _ rfl _ 84 rfl 89 25 Yba.underlying84 w.heap.size rfl ht2 ?_))
            go_loopg [151] (T.length) (fun gh i wl => ∃ k n : Nat, k ≤ T.length ∧ gh = T.length - k ∧ i = .int .i64 k ∧ wl = w2.drewN n)
            case atStart => exact ⟨0, 0, Nat.zero_le _, rfl, rfl, rfl⟩
            case round =>
              obtain ⟨k, nn, hk2, rfl, rfl, rfl⟩ := hrel
              by_cases hkT : k < T.length
              · obtain ⟨p, hp⟩ : ∃ p, T[k]? = some p := ⟨_, List.getElem?_eq_getElem hkT⟩
                have hl := fun (nq : Nat) => (tab_drewN ht2 nq).look keys89 (fun _ _ => trivial) Yba.underlying84 (x := p.1) trivial (zero25 _) true
                have hda := del_at HND.out hv0 hp
                simp only [] at hda
                rw [hda] at hl
                clear hda
                obtain ⟨⟨pn, pt⟩, pq⟩ := p
                have hx0 : w2.cell? ⟨g, k * 4, none⟩ = some (.string pn) := by have := hr2.cellAt (k * 4 + 0) (by omega); rw [cellsOf_at _ k 0 _ (slots_at hp) (by omega)] at this; simpa [slotCells] using this
                have hx1 : w2.cell? ⟨g, k * 4 + 1, none⟩ = some (.int .i64 pt) := by have := hr2.cellAt (k * 4 + 1) (by omega); rw [cellsOf_at _ k 1 _ (slots_at hp) (by omega)] at this; simpa [slotCells] using this
                have hx2 : w2.cell? ⟨g, k * 4 + 2, none⟩ = some (.int .u64 pq) := by have := hr2.cellAt (k * 4 + 2) (by omega); rw [cellsOf_at _ k 2 _ (slots_at hp) (by omega)] at this; simpa [slotCells] using this
                by_cases hki : k = i
                · subst hki
                  simp only [tk, Option.elim_none, Option.isSome_none, if_true] at hl
                  clear hr2 hp
                  go_wp2
                  go_quiet (fail)
                  go_wp2
                  go_roundg (T.length - (k + 1))
                  case measure => omega
                  case rel => exact ⟨k + 1, _, by omega, rfl, by go_num, rfl⟩
                · rw [if_neg hki] at hl
                  simp only [tk, Option.elim_some, Option.isSome_some, if_true] at hl
                  clear hr2 hp
                  have hki' : ((k : Int) == (i : Int)) = false := by rw [beq_eq_false_iff_ne]; omega
                  go_wp2
                  go_quiet (fail)
                  go_wp2
                  go_roundg (T.length - (k + 1))
                  case measure => omega
                  case rel => exact ⟨k + 1, _, by omega, rfl, by go_num, rfl⟩
              · go_wp2
                go_ret
                exact ⟨rfl, below_drewN hnx2 _⟩
          | false =>
            rw [hsl]
            obtain ⟨v0, hv0, hget⟩ := idx_some hix
            have hil := idx_lt hix
            have hfi : fi (slots T) (x, timer % 4) = i := fi_some (by rw [slots_idx]; exact hix)
            rw [hfi] at hfind
            obtain ⟨g, rfl⟩ := row_addr hrow (by omega)
            have hgl := (hrow.lt g rfl).2
            have hcw : wr.cell? ⟨g, i * 4 + 2, none⟩ = some (.int .u64 v0) := by have := hrow.cellAt (i * 4 + 2) (by omega); rw [cellsOf_at _ i 2 _ (slots_at hv0) (by omega)] at this; simpa [slotCells] using this
            clear hfi
            by_cases hq : v0 = ev
            · subst hq
              have hdue := due_at_timer wr w.heap.size x (timer % 4) v0 T htab
              rw [hget] at hdue
              simp only [decide_true, if_true] at hdue
              have hdl : ((del T (x, timer % 4)).length : Int) = (T.length : Int) - 1 := by rw [del_length hix]; omega
              clear hix hget
              go_wp2_with (first
                | (go_at_call 12; refine hnode.mono ?_; rintro e w' ⟨rfl, rfl⟩)
                | (go_at_call 13; refine hfind.mono ?_; rintro e w' ⟨rfl, rfl⟩))
              refine hdue.mono ?_
              rintro e w2 ⟨rfl, ht2, hg2⟩
              obtain ⟨hr2, hnx2, hbk⟩ := behind rfl hnx hws hrow hg2
              have hs3 : w2.cell? ⟨wr.heap.size, 3, none⟩ = some (.map (some w.heap.size)) := by simp [World.cell?, hbk]
              have hz2 : w2.cell? ⟨g, i * 4 + 2, none⟩ = some (.int .u64 v0) := by have := hr2.cellAt (i * 4 + 2) (by omega); rw [cellsOf_at _ i 2 _ (slots_at hv0) (by omega)] at this; simpa [slotCells] using this
              clear hnode hfind hg2 hbk htab hrow hnx
              go_wp2_with (first
                | (at_len; refine wpList_len_tab _ rfl _ 84 rfl 89 25 Yba.underlying84 w.heap.size rfl ht2 ?_))
              go_loopg [151] (T.length) (fun gh i wl => ∃ k n : Nat, k ≤ T.length ∧ gh = T.length - k ∧ i = .int .i64 k ∧ wl = w2.drewN n)
              case atStart => exact ⟨0, 0, Nat.zero_le _, rfl, rfl, rfl⟩
              case round =>
                obtain ⟨k, nn, hk2, rfl, rfl, rfl⟩ := hrel
                by_cases hkT : k < T.length
                · obtain ⟨p, hp⟩ : ∃ p, T[k]? = some p := ⟨_, List.getElem?_eq_getElem hkT⟩
                  have hl := fun (nq : Nat) => (tab_drewN ht2 nq).look keys89 (fun _ _ => trivial) Yba.underlying84 (x := p.1) trivial (zero25 _) true
                  have hda := del_at HND.out hv0 hp
                  simp only [] at hda
                  rw [hda] at hl
                  clear hda
                  obtain ⟨⟨pn, pt⟩, pq⟩ := p
                  have hx0 : w2.cell? ⟨g, k * 4, none⟩ = some (.string pn) := by have := hr2.cellAt (k * 4 + 0) (by omega); rw [cellsOf_at _ k 0 _ (slots_at hp) (by omega)] at this; simpa [slotCells] using this
                  have hx1 : w2.cell? ⟨g, k * 4 + 1, none⟩ = some (.int .i64 pt) := by have := hr2.cellAt (k * 4 + 1) (by omega); rw [cellsOf_at _ k 1 _ (slots_at hp) (by omega)] at this; simpa [slotCells] using this
                  have hx2 : w2.cell? ⟨g, k * 4 + 2, none⟩ = some (.int .u64 pq) := by have := hr2.cellAt (k * 4 + 2) (by omega); rw [cellsOf_at _ k 2 _ (slots_at hp) (by omega)] at this; simpa [slotCells] using this
                  by_cases hki : k = i
                  · subst hki
                    simp only [tk, Option.elim_none, Option.isSome_none, if_true] at hl
                    clear hr2 hp
                    go_wp2
                    go_quiet (fail)
                    go_wp2
                    go_roundg (T.length - (k + 1))
                    case measure => omega
                    case rel => exact ⟨k + 1, _, by omega, rfl, by go_num, rfl⟩
                  · rw [if_neg hki] at hl
                    simp only [tk, Option.elim_some, Option.isSome_some, if_true] at hl
                    clear hr2 hp
                    have hki' : ((k : Int) == (i : Int)) = false := by rw [beq_eq_false_iff_ne]; omega
                    go_wp2
                    go_quiet (fail)
                    go_wp2
                    go_roundg (T.length - (k + 1))
                    case measure => omega
                    case rel => exact ⟨k + 1, _, by omega, rfl, by go_num, rfl⟩
                · go_wp2
                  go_ret
                  exact ⟨rfl, below_drewN hnx2 _⟩
            · have hne : (v0 == ev) = false := by simpa using hq
              have hdue := due_at_timer wr w.heap.size x (timer % 4) ev T htab
              rw [hget] at hdue
              simp only [Option.some.injEq, hq, decide_false, if_false] at hdue
              clear hix hget hq
              go_wp2_with (first
                | (go_at_call 12; refine hnode.mono ?_; rintro e w' ⟨rfl, rfl⟩)
                | (go_at_call 13; refine hfind.mono ?_; rintro e w' ⟨rfl, rfl⟩))
              refine hdue.mono ?_
              rintro e w2 ⟨rfl, ht2, hg2⟩
              obtain ⟨hr2, hnx2, hbk⟩ := behind rfl hnx hws hrow hg2
              have hs3 : w2.cell? ⟨wr.heap.size, 3, none⟩ = some (.map (some w.heap.size)) := by simp [World.cell?, hbk]
              have hz2 : w2.cell? ⟨g, i * 4 + 2, none⟩ = some (.int .u64 v0) := by have := hr2.cellAt (i * 4 + 2) (by omega); rw [cellsOf_at _ i 2 _ (slots_at hv0) (by omega)] at this; simpa [slotCells] using this
              clear hnode hfind hg2 hbk htab hrow hnx
              go_wp2_with (first
                | (at_len; refine wpList_len_tab _ rfl _ 84 rfl 89 25 Yba.underlying84 w.heap.size rfl ht2 ?_))
              go_loopg [151] (T.length) (fun gh i wl => ∃ k n : Nat, k ≤ T.length ∧ gh = T.length - k ∧ i = .int .i64 k ∧ wl = w2.drewN n)
              case atStart => exact ⟨0, 0, Nat.zero_le _, rfl, rfl, rfl⟩
              case round =>
                obtain ⟨k, nn, hk2, rfl, rfl, rfl⟩ := hrel
                by_cases hkT : k < T.length
                · obtain ⟨p, hp⟩ : ∃ p, T[k]? = some p := ⟨_, List.getElem?_eq_getElem hkT⟩
                  have hl := fun (nq : Nat) => (tab_drewN ht2 nq).look keys89 (fun _ _ => trivial) Yba.underlying84 (x := p.1) trivial (zero25 _) true
                  rw [get_nodup HND.out hp] at hl
                  obtain ⟨⟨pn, pt⟩, pq⟩ := p
                  have hx0 : w2.cell? ⟨g, k * 4, none⟩ = some (.string pn) := by have := hr2.cellAt (k * 4 + 0) (by omega); rw [cellsOf_at _ k 0 _ (slots_at hp) (by omega)] at this; simpa [slotCells] using this
                  have hx1 : w2.cell? ⟨g, k * 4 + 1, none⟩ = some (.int .i64 pt) := by have := hr2.cellAt (k * 4 + 1) (by omega); rw [cellsOf_at _ k 1 _ (slots_at hp) (by omega)] at this; simpa [slotCells] using this
                  have hx2 : w2.cell? ⟨g, k * 4 + 2, none⟩ = some (.int .u64 pq) := by have := hr2.cellAt (k * 4 + 2) (by omega); rw [cellsOf_at _ k 2 _ (slots_at hp) (by omega)] at this; simpa [slotCells] using this
                  simp only [tk, Option.elim_some, Option.isSome_some, if_true] at hl
                  clear hr2 hp
                  go_wp2
                  go_quiet (fail)
                  go_wp2
                  go_roundg (T.length - (k + 1))
                  case measure => omega
                  case rel => exact ⟨k + 1, _, by omega, rfl, by go_num, rfl⟩
                · go_wp2
                  go_ret
                  exact ⟨rfl, below_drewN hnx2 _⟩

end Go.Proofs.Ybulkadhw
