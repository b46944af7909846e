/-
  THE WALK OF LawS1465BScript (7).
-/
import Derived.Test.YbulkadhwSet
import Derived.Deep.LoopGhost
import Derived.Deep.DeepCutAuto
namespace Go.Proofs.Ybulkadhw
open Go.RowKit Go.Tab
set_option linter.unusedVariables false
set_option linter.unusedSimpArgs false

theorem info92 : (Yba.prog.info? 92).map (fun i => (i.zero, i.size, i.bytes)) = some (some (.agg #[.string ByteArray.empty, .int .i64 0, .int .u64 0, .bool false]), 4, 40) := by kernel_rfl

/-- The steps' cells. -/
def laidS (w : World) (b off : Nat) (E : List (Bool × Int × Int × Int)) : Prop :=
  ∀ j e, E[j]? = some e → w.cell? ⟨b, off + j * 4, none⟩ = some (.bool e.1) ∧ w.cell? ⟨b, off + j * 4 + 1, none⟩ = some (.int .u8 e.2.1) ∧ w.cell? ⟨b, off + j * 4 + 2, none⟩ = some (.int .u8 e.2.2.1) ∧ w.cell? ⟨b, off + j * 4 + 3, none⟩ = some (.int .u16 e.2.2.2) ∧ (0 ≤ e.2.1 ∧ e.2.1 ≤ 255) ∧ (0 ≤ e.2.2.1 ∧ e.2.2.1 ≤ 255) ∧ (0 ≤ e.2.2.2 ∧ e.2.2.2 ≤ 65535)

theorem cells4_new (w : World) (a b c d : Value) (t : TypeId) : ∀ j u, [a, b, c, d][j]? = some u → (w.alloc (.cells #[a, b, c, d] t)).cell? ((⟨w.heap.size, 0, none⟩ : Addr).add j) = some u := by
  intro j u hj
  match j, hj with
  | 0, hj => simp at hj; subst hj; simp [Addr.add]
  | 1, hj => simp at hj; subst hj; simp [Addr.add]
  | 2, hj => simp at hj; subst hj; simp [Addr.add]
  | 3, hj => simp at hj; subst hj; simp [Addr.add]
theorem cells4_one (s : ByteArray) (a b : Int) (r : Bool) : ∀ u ∈ [Value.string s, .int .i64 a, .int .u64 b, .bool r], u.oneCell' = true := by
  intro u hu
  simp at hu
  rcases hu with rfl | rfl | rfl | rfl <;> rfl

theorem ls_start (w : World) : LS w (w.alloc (.cells #[.int .i64 0, .int .u64 0, .slice none 0 0, .map none] 97)) w.heap.size 0 0 (.slice none 0 0) [] [] (.slice none 0 0) (.map none) [] := by
  refine ⟨⟨(MapKept.heap_alloc w _).1, Nat.le_refl _, World.ownsRow_nil _ _ _ _, fun q hq => by simp at hq, by simp, fun i j p q g hp => by simp at hp⟩, Or.inl ⟨rfl, rfl⟩, World.ownsRow_nil _ _ _ _, by omega, by omega, by simp, fun q hq => by simp at hq, by simp, (Below.refl _ _).alloc (Nat.le_refl _) _⟩

theorem due_second {T : TT} (h : (T.map (·.1)).Nodup) (x : ByteArray × Int) (p : Int) : decide (get (if get T x = some p then del T x else T) x = some p) = false := by
  by_cases hp : get T x = some p
  · rw [if_pos hp, get_del h, if_pos rfl]; simp
  · rw [if_neg hp]; simpa using hp

theorem row_form' {w : World} {base : Nat} {e : TypeId} {size : Nat} {v : Value} {n : Nat} {xs : List Value} (h : w.ownsRow base e size v n xs) (hn : 0 < n) : ∃ g cap, v = .slice (some ⟨g, 0, none⟩) n cap := by
  obtain ⟨_, h2⟩ := h
  rcases h2 with ⟨_, h2⟩ | ⟨g, cap, cur, rfl, _⟩
  · omega
  · exact ⟨g, cap, rfl⟩

/-- running = r, in slot i. -/
theorem LS.set {w wr : World} {bs : Nat} {sq : Int} {k g cp i : Nat} {T : TT} {S : SS} {qv m : Value} {Q : List QI} {x : ByteArray × Int} {q0 : Int} {r0 : Bool} (h : LS w wr bs sq k (.slice (some ⟨g, 0, none⟩) S.length cp) T S qv m Q) (hi : S[i]? = some (x, (q0, r0))) (r : Bool) :
    LS w (wr.setCell ⟨g, i * 4 + 3, none⟩ (.bool r)) bs sq k (.slice (some ⟨g, 0, none⟩) (S.set i (x, (q0, r))).length cp) T (S.set i (x, (q0, r))) qv m Q := by
  have hs := h.row.stored (i * 4 + 3) (.bool r)
  refine h.turn hs.2 ?_ (by rw [List.length_set]; exact h.sl)
  rw [cells_set3 S i x q0 r0 r hi, List.length_set]
  exact hs.1
/-- seq = q, in slot i. -/
theorem LS.seq {w wr : World} {bs : Nat} {sq : Int} {k g cp i : Nat} {T : TT} {S : SS} {qv m : Value} {Q : List QI} {x : ByteArray × Int} {q0 : Int} {r : Bool} (h : LS w wr bs sq k (.slice (some ⟨g, 0, none⟩) S.length cp) T S qv m Q) (hi : S[i]? = some (x, (q0, r))) (q : Int) :
    LS w (wr.setCell ⟨g, i * 4 + 2, none⟩ (.int .u64 q)) bs sq k (.slice (some ⟨g, 0, none⟩) (S.set i (x, (q, r))).length cp) T (S.set i (x, (q, r))) qv m Q := by
  have hs := h.row.stored (i * 4 + 2) (.int .u64 q)
  refine h.turn hs.2 ?_ (by rw [List.length_set]; exact h.sl)
  rw [cells_set S i x q0 q r hi, List.length_set]
  exact hs.1
theorem LS.both {w wr : World} {bs : Nat} {sq : Int} {k g cp i : Nat} {T : TT} {S : SS} {qv m : Value} {Q : List QI} {x : ByteArray × Int} {q0 : Int} {r0 : Bool} (h : LS w wr bs sq k (.slice (some ⟨g, 0, none⟩) S.length cp) T S qv m Q) (hi : S[i]? = some (x, (q0, r0))) (q : Int) :
    LS w ((wr.setCell ⟨g, i * 4 + 3, none⟩ (.bool true)).setCell ⟨g, i * 4 + 2, none⟩ (.int .u64 q)) bs sq k (.slice (some ⟨g, 0, none⟩) (S.set i (x, (q, true))).length cp) T (S.set i (x, (q, true))) qv m Q := by
  have h1 := (h.set hi true).seq (i := i) (x := x) (q0 := q0) (r := true) (by rw [List.getElem?_set_self (List.getElem?_eq_some_iff.1 hi).1]) q
  rw [List.set_set] at h1
  exact h1

set_option maxHeartbeats 4000000 in
set_option maxRecDepth 100000 in
theorem script_any (a : Option Addr) (b off cap : Nat) (E : List (Bool × Int × Int × Int)) (node timer probe : Int) (w : World) (hlen : E.length ≤ 1024) (hab : Hid (0 < E.length → a = some ⟨b, off, none⟩ ∧ b < w.heap.size)) (hE : Hid (laidS w b off E))
    (hn0 : 0 ≤ node) (hn1 : node ≤ 255) (ht0 : 0 ≤ timer) (ht1 : timer ≤ 255) (hp0 : 0 ≤ probe) (hp1 : probe ≤ 65535) :
    Calls Yba.prog 7 #[.slice a E.length cap, .int .u8 node, .int .u8 timer, .int .u16 probe] w fun e w' => e = .returned (.bool true) ∧ Below w.heap.size w w' := by
  obtain ⟨i0, hi, hz0, hz1, hz2⟩ := info_parts info92
  go_enter Yba.func7, Yba.ntmps7
  go_wp2
  go_loopg [10, 30] (E.length) (fun g v i wr => ∃ (k : Nat) (sq : Int) (T : TT) (S : SS) (qv m : Value) (Q : List QI), k ≤ E.length ∧ g = E.length - k ∧ i = .int .i64 k ∧ LS w wr w.heap.size sq k v T S qv m Q ∧ Inv T S)
  case atStart => exact ⟨0, 0, [], [], _, _, [], Nat.zero_le _, rfl, rfl, ls_start w, Inv.nil⟩
  case round =>
    obtain ⟨k, sq, T, S, qv, m, Q, hk, rfl, rfl, L, hinv⟩ := hrel
    have HL : Hid _ := L
    have HI : Hid (Inv T S) := hinv
    have g1 : wr.cell? ⟨w.heap.size, 1, none⟩ = some (.int .u64 sq) := by simp [World.cell?, L.sok.sch]
    have hbw : w.heap.size < wr.heap.size := (Array.getElem?_eq_some_iff.1 L.sok.sch).1
    obtain ⟨hs0, hs1⟩ : 0 ≤ sq ∧ sq ≤ k := ⟨L.s0, L.s1⟩
    have hSl := L.sl
    clear L hinv
    by_cases hlt : k < E.length
    · obtain ⟨e, he⟩ : ∃ e, E[k]? = some e := ⟨_, List.getElem?_eq_getElem hlt⟩
      obtain ⟨ha, hb⟩ := hab.out (by omega)
      subst ha
      obtain ⟨c0, c1, c2, c3, ⟨b0, b0'⟩, ⟨b1, b1'⟩, b2, b2'⟩ := hE.out k e he
      obtain ⟨st, n, t, af⟩ := e
      have d0 : wr.cell? ⟨b, off + k * 4, none⟩ = some (.bool st) := (HL.out.below.cell (by exact hb)).trans c0
      have d1 : wr.cell? ⟨b, off + k * 4 + 1, none⟩ = some (.int .u8 n) := (HL.out.below.cell (by exact hb)).trans c1
      have d2 : wr.cell? ⟨b, off + k * 4 + 2, none⟩ = some (.int .u8 t) := (HL.out.below.cell (by exact hb)).trans c2
      have d3 : wr.cell? ⟨b, off + k * 4 + 3, none⟩ = some (.int .u16 af) := (HL.out.below.cell (by exact hb)).trans c3
      have hbr : b < wr.heap.size := by omega
      clear c0 c1 c2 c3 he
      simp only [] at b0 b0' b1 b1' b2 b2'
      go_wp2_with fail
      refine (node_any n (by omega) (by omega) _).mono ?_
      rintro e w' ⟨rfl, rfl⟩
      obtain ⟨x, hx⟩ : ∃ x, x = nodeOf n := ⟨_, rfl⟩
      rw [← hx]
      clear hx
      go_wp2_with fail
      have LA := HL.out.alloc (.cells #[.bool st, .int .u8 n, .int .u8 t, .int .u16 af] 111)
      have hq1 := LA.ql
      refine (set_any (K := k) x (t % 4) af (!st) LA.sok LA.tok (by omega) (by omega) LA.qn LA.below.size hs0 (by omega) b2 b2').mono ?_
      rintro e w2 ⟨rfl, htm⟩
      obtain ⟨qv2, m2, Q2, L2⟩ := LA.timer htm (by cases st <;> simp [setQ] <;> omega) (by cases st <;> simp [setQ] <;> omega)
      have hbk := timer_block LA htm (b := wr.heap.size) (MapKept.heap_alloc wr _).1
      have z0 : w2.cell? ⟨wr.heap.size, 0, none⟩ = some (.bool st) := by simp [World.cell?, hbk]
      have hz : wr.heap.size < w2.heap.size := (Array.getElem?_eq_some_iff.1 hbk).1
      have HL2 : Hid _ := L2
      have HB : Hid (w2.heap[wr.heap.size]? = some (.cells #[.bool st, .int .u8 n, .int .u8 t, .int .u16 af] 111 (0, 0))) := hbk
      clear LA htm hbk L2 d0 d1 d2 d3 g1 HL hab hE
      go_wp2_with fail
      refine (find_row x (t % 4) (by omega) HL2.out.row).mono ?_
      rintro e w2 ⟨rfl, rfl⟩
      cases hix : idx S (x, t % 4) with
      | none =>
        have hfi : fi S (x, t % 4) = -1 := fi_none hix
        rw [hfi]
        have HX : Hid (idx S (x, t % 4) = none) := hix
        clear hfi hix
        go_upto_region 16 with (first
          | (at_builtin; refine wpList_append_own _ rfl _ _ 83 rfl w.heap.size 92 i0 _ 4 40 Yba.underlying83 hi hz0 hz1 hz2 rfl (by decide) _ _ _ rfl (HL2.out.row.alloc _) ⟨w2.heap.size, 0, none⟩ 1 1 [.string x, .int .i64 (t % 4), .int .u64 0, .bool false] rfl rfl (cells4_new _ _ _ _ _ _) (cells4_one _ _ _ _) (by unfold maxLen; omega) (by omega) (by simp; omega) ?_; intro v' w3 hown' hgrow3 hnil3; obtain ⟨g, cp, hform⟩ := row_form' hown' (Nat.succ_pos _); subst hform))
        have hl1 : (S ++ [((x, t % 4), ((0 : Int), false))]).length = S.length + 1 := by simp
        have hat : (S ++ [((x, t % 4), ((0 : Int), false))])[S.length]? = some ((x, t % 4), (0, false)) := by simp
        have L3 := (HL2.out.alloc _).turn (v' := .slice (some ⟨g, 0, none⟩) (S.length + 1) cp) (S' := S ++ [((x, t % 4), (0, false))]) hgrow3 (by rw [hl1, cells_snoc]; exact hown') (by omega)
        have hbk3 : w3.heap[wr.heap.size]? = some (.cells #[.bool st, .int .u8 n, .int .u8 t, .int .u16 af] 111 (0, 0)) := by
          rw [hgrow3.block wr.heap.size (by simp; omega) (fun e => by obtain ⟨cur, hc, _⟩ := row_tag HL2.out.row e.symm; exact tag_ne hc HB.out (by decide) rfl)]
          exact at_old' HB.out _
        have z3 : w3.cell? ⟨wr.heap.size, 0, none⟩ = some (.bool st) := by simp [World.cell?, hbk3]
        have hIn := HI.out.new HX.out
        have hix1 := idx_snoc ((0 : Int), false) HX.out
        obtain ⟨S1, hS1⟩ : ∃ S1, S1 = S ++ [((x, t % 4), ((0 : Int), false))] := ⟨_, rfl⟩
        rw [← hS1] at L3 hat hIn hl1 hix1
        have HL3 : Hid _ := L3
        have HA : Hid _ := hat
        have HIN : Hid (Inv T S1) := hIn
        have HX1 : Hid _ := hix1
        have k2 : w3.cell? ⟨g, S.length * 4 + 2, none⟩ = some (.int .u64 0) := by rw [← hl1] at L3; rw [L3.row.cellAt (S.length * 4 + 2) (by omega), cellsOf_at _ S.length 2 _ hat (by omega)]; rfl
        have k3 : w3.cell? ⟨g, S.length * 4 + 3, none⟩ = some (.bool false) := by rw [← hl1] at L3; rw [L3.row.cellAt (S.length * 4 + 3) (by omega), cellsOf_at _ S.length 3 _ hat (by omega)]; rfl
        have fz2 : w3.frozen? ⟨g, S.length * 4 + 2, none⟩ = false := by rw [← hl1] at L3; exact L3.row.frozenAt _
        have fz3 : w3.frozen? ⟨g, S.length * 4 + 3, none⟩ = false := by rw [← hl1] at L3; exact L3.row.frozenAt _
        have hgw : g < w3.heap.size := (L3.row.lt g rfl).2
        clear hS1 L3 hat hIn hix1 hown' hgrow3 hnil3 hbk3 HL2 HB HI HX z0
        cases st with
        | true =>
          go_wp2
          go_roundg (E.length - (k + 1))
          case measure => omega
          case rel =>
            refine ⟨k + 1, setQ (!true) sq, setT (!true) T (x, t % 4) sq, S1.set S.length ((x, t % 4), (sq, true)), qv2, m2, Q2, by omega, rfl, by go_num, ?_, ?_⟩
            · have h1 := HL3.out
              rw [← hl1] at h1
              have h2 := h1.both HA.out sq
              rw [List.length_set, hl1] at h2
              exact h2
            · rw [← put_some HX1.out]
              exact HIN.out.start _ _
        | false =>
          go_wp2
          go_roundg (E.length - (k + 1))
          case measure => omega
          case rel =>
            refine ⟨k + 1, setQ (!false) sq, setT (!false) T (x, t % 4) sq, S1.set S.length ((x, t % 4), (0, false)), qv2, m2, Q2, by omega, rfl, by go_num, ?_, ?_⟩
            · have h1 := HL3.out
              rw [← hl1] at h1
              have h2 := h1.set HA.out false
              rw [List.length_set, hl1] at h2
              exact h2
            · rw [← put_some HX1.out]
              exact HIN.out.stop _ _
      | some i =>
        have hfi : fi S (x, t % 4) = i := fi_some hix
        have hil := idx_lt hix
        obtain ⟨⟨q0, r0⟩, hat, _⟩ := idx_some hix
        rw [hfi]
        obtain ⟨g, cp, hform⟩ : ∃ g cp, u10 = .slice (some ⟨g, 0, none⟩) S.length cp := row_form' HL2.out.row (by omega)
        subst hform
        have HX : Hid (idx S (x, t % 4) = some i) := hix
        have HA : Hid _ := hat
        have k2 : w2.cell? ⟨g, i * 4 + 2, none⟩ = some (.int .u64 q0) := by rw [HL2.out.row.cellAt (i * 4 + 2) (by omega), cellsOf_at _ i 2 _ hat (by omega)]; rfl
        have k3 : w2.cell? ⟨g, i * 4 + 3, none⟩ = some (.bool r0) := by rw [HL2.out.row.cellAt (i * 4 + 3) (by omega), cellsOf_at _ i 3 _ hat (by omega)]; rfl
        have fz2 : w2.frozen? ⟨g, i * 4 + 2, none⟩ = false := HL2.out.row.frozenAt _
        have fz3 : w2.frozen? ⟨g, i * 4 + 3, none⟩ = false := HL2.out.row.frozenAt _
        have hgw : g < w2.heap.size := (HL2.out.row.lt g rfl).2
        clear hfi hix hat
        cases st with
        | true =>
          go_wp2
          go_roundg (E.length - (k + 1))
          case measure => omega
          case rel =>
            refine ⟨k + 1, setQ (!true) sq, setT (!true) T (x, t % 4) sq, S.set i ((x, t % 4), (sq, true)), qv2, m2, Q2, by omega, rfl, by go_num, ?_, ?_⟩
            · have h2 := HL2.out.both HA.out sq
              rw [List.length_set] at h2
              exact h2
            · rw [← put_some HX.out]
              exact HI.out.start _ _
        | false =>
          go_wp2
          go_roundg (E.length - (k + 1))
          case measure => omega
          case rel =>
            refine ⟨k + 1, setQ (!false) sq, setT (!false) T (x, t % 4) sq, S.set i ((x, t % 4), (q0, false)), qv2, m2, Q2, by omega, rfl, by go_num, ?_, ?_⟩
            · have h2 := HL2.out.set HA.out false
              rw [List.length_set] at h2
              exact h2
            · rw [← put_some HX.out]
              exact HI.out.stop _ _
    · obtain rfl : k = E.length := by omega
      have hnode : ∀ W, Calls Yba.prog 12 #[.int .u8 node] W fun e w' => e = .returned (.string (nodeOf node)) ∧ w' = W := fun W => node_any node hn0 hn1 W
      obtain ⟨x, hx⟩ : ∃ x, x = nodeOf node := ⟨_, rfl⟩
      rw [← hx] at hnode
      have hfind := find_row x (timer % 4) (by omega) HL.out.row
      clear hx hE hab
      cases hix : idx S (x, timer % 4) with
      | none =>
        have hfi : fi S (x, timer % 4) = -1 := fi_none hix
        rw [hfi] at hfind
        have HX : Hid (idx S (x, timer % 4) = none) := hix
        clear hix hfi
        go_upto_region 25 with (first
          | (go_at_call 12; refine (hnode _).mono ?_; rintro e w' ⟨rfl, rfl⟩)
          | (go_at_call 13; refine hfind.mono ?_; rintro e w' ⟨rfl, rfl⟩))
        obtain ⟨p, hp⟩ : ∃ p, p = probe % (sq + 1) := ⟨_, rfl⟩
        rw [← hp]
        clear hp hfind
        have hd : Hid (decide (get T (x, timer % 4) = some p) = false) := by
          show decide (get T (x, timer % 4) = some p) = false
          rw [HI.out.eq, run_none HX.out]; simp
        have LE := HL.out.alloc (.cells #[.int .i64 0, .int .u64 p, .string x, .string ⟨#[]⟩, .int .u8 6, .slice none 0 0, .iface 3 (.int .i64 (timer % 4)), .int .u64 0, .int .i64 0, .bool false] 104)
        have hev := (MapKept.heap_alloc w' (.cells #[.int .i64 0, .int .u64 p, .string x, .string ⟨#[]⟩, .int .u8 6, .slice none 0 0, .iface 3 (.int .i64 (timer % 4)), .int .u64 0, .int .i64 0, .bool false] 104)).1
        have HLE : Hid _ := LE
        have HEV : Hid _ := hev
        clear LE hev
        go_wp2_with fail
        refine (due_ok p x (timer % 4) HLE.out.sok HLE.out.tok HEV.out).mono ?_
        rintro e w2 ⟨rfl, hS2, hT2, hev2, hk2⟩
        rw [hd.out]
        have HS2 : Hid _ := hS2
        have HT2 : Hid _ := hT2
        have HE2 : Hid _ := hev2
        have HK2 : Hid _ := hk2
        clear hS2 hT2 hev2 hk2
        go_wp2_with fail
        refine (due_ok p x (timer % 4) HS2.out HT2.out HE2.out).mono ?_
        rintro e w3 ⟨rfl, _, _, _, hk3⟩
        rw [due_second HI.out.nd]
        have HK3 : Hid _ := hk3
        clear hk3
        go_wp2
        go_ret
        exact ⟨rfl, below_kept (below_kept HLE.out.below HK2.out HLE.out.below.size (fun _ h => h)) HK3.out (Nat.le_trans HLE.out.below.size HK2.out.size) (fun _ h => h)⟩
      | some i =>
        have hfi : fi S (x, timer % 4) = i := fi_some hix
        rw [hfi] at hfind
        have hil := idx_lt hix
        obtain ⟨⟨q0, r0⟩, hat, _⟩ := idx_some hix
        obtain ⟨g, cp, hform⟩ : ∃ g cp, u10 = .slice (some ⟨g, 0, none⟩) S.length cp := row_form' HL.out.row (by omega)
        subst hform
        have HX : Hid (idx S (x, timer % 4) = some i) := hix
        have HA : Hid _ := hat
        have k2 : wr.cell? ⟨g, i * 4 + 2, none⟩ = some (.int .u64 q0) := by rw [HL.out.row.cellAt (i * 4 + 2) (by omega), cellsOf_at _ i 2 _ hat (by omega)]; rfl
        have k3 : wr.cell? ⟨g, i * 4 + 3, none⟩ = some (.bool r0) := by rw [HL.out.row.cellAt (i * 4 + 3) (by omega), cellsOf_at _ i 3 _ hat (by omega)]; rfl
        have hgw : g < wr.heap.size := (HL.out.row.lt g rfl).2
        clear hix hfi hat
        go_upto_region 25 with (first
          | (go_at_call 12; refine (hnode _).mono ?_; rintro e w' ⟨rfl, rfl⟩)
          | (go_at_call 13; refine hfind.mono ?_; rintro e w' ⟨rfl, rfl⟩))
        obtain ⟨p, hp⟩ : ∃ p, p = probe % (sq + 1) := ⟨_, rfl⟩
        rw [← hp]
        clear hp hfind
        cases r0 with
        | false =>
          have hd : Hid (decide (get T (x, timer % 4) = some p) = false) := by
            show decide (get T (x, timer % 4) = some p) = false
            rw [HI.out.eq, run_some HX.out HA.out]; simp
          have LE := HL.out.alloc (.cells #[.int .i64 0, .int .u64 p, .string x, .string ⟨#[]⟩, .int .u8 6, .slice none 0 0, .iface 3 (.int .i64 (timer % 4)), .int .u64 0, .int .i64 0, .bool false] 104)
          have hev := (MapKept.heap_alloc w' (.cells #[.int .i64 0, .int .u64 p, .string x, .string ⟨#[]⟩, .int .u8 6, .slice none 0 0, .iface 3 (.int .i64 (timer % 4)), .int .u64 0, .int .i64 0, .bool false] 104)).1
          have HLE : Hid _ := LE
          have HEV : Hid _ := hev
          clear LE hev
          go_wp2_with fail
          refine (due_ok p x (timer % 4) HLE.out.sok HLE.out.tok HEV.out).mono ?_
          rintro e w2 ⟨rfl, hS2, hT2, hev2, hk2⟩
          rw [hd.out]
          have HS2 : Hid _ := hS2
          have HT2 : Hid _ := hT2
          have HE2 : Hid _ := hev2
          have HK2 : Hid _ := hk2
          clear hS2 hT2 hev2 hk2
          go_wp2_with fail
          refine (due_ok p x (timer % 4) HS2.out HT2.out HE2.out).mono ?_
          rintro e w3 ⟨rfl, _, _, _, hk3⟩
          rw [due_second HI.out.nd]
          have HK3 : Hid _ := hk3
          clear hk3
          go_wp2
          go_ret
          exact ⟨rfl, below_kept (below_kept HLE.out.below HK2.out HLE.out.below.size (fun _ h => h)) HK3.out (Nat.le_trans HLE.out.below.size HK2.out.size) (fun _ h => h)⟩
        | true =>
          by_cases hqp : q0 = p
          · subst hqp
            have hd : Hid (decide (get T (x, timer % 4) = some q0) = true) := by
              show decide (get T (x, timer % 4) = some q0) = true
              rw [HI.out.eq, run_some HX.out HA.out]; simp
            have LE := HL.out.alloc (.cells #[.int .i64 0, .int .u64 q0, .string x, .string ⟨#[]⟩, .int .u8 6, .slice none 0 0, .iface 3 (.int .i64 (timer % 4)), .int .u64 0, .int .i64 0, .bool false] 104)
            have hev := (MapKept.heap_alloc w' (.cells #[.int .i64 0, .int .u64 q0, .string x, .string ⟨#[]⟩, .int .u8 6, .slice none 0 0, .iface 3 (.int .i64 (timer % 4)), .int .u64 0, .int .i64 0, .bool false] 104)).1
            have HLE : Hid _ := LE
            have HEV : Hid _ := hev
            clear LE hev
            go_wp2_with fail
            refine (due_ok q0 x (timer % 4) HLE.out.sok HLE.out.tok HEV.out).mono ?_
            rintro e w2 ⟨rfl, hS2, hT2, hev2, hk2⟩
            rw [hd.out]
            have HS2 : Hid _ := hS2
            have HT2 : Hid _ := hT2
            have HE2 : Hid _ := hev2
            have HK2 : Hid _ := hk2
            clear hS2 hT2 hev2 hk2
            go_wp2_with fail
            refine (due_ok q0 x (timer % 4) HS2.out HT2.out HE2.out).mono ?_
            rintro e w3 ⟨rfl, _, _, _, hk3⟩
            rw [due_second HI.out.nd]
            have HK3 : Hid _ := hk3
            clear hk3
            go_wp2
            go_ret
            exact ⟨rfl, below_kept (below_kept HLE.out.below HK2.out HLE.out.below.size (fun _ h => h)) HK3.out (Nat.le_trans HLE.out.below.size HK2.out.size) (fun _ h => h)⟩
          · have hd : Hid (decide (get T (x, timer % 4) = some p) = false) := by
              show decide (get T (x, timer % 4) = some p) = false
              rw [HI.out.eq, run_some HX.out HA.out]; simpa using hqp
            have hqb : (q0 == p) = false := by simpa using hqp
            clear hqp
            have LE := HL.out.alloc (.cells #[.int .i64 0, .int .u64 p, .string x, .string ⟨#[]⟩, .int .u8 6, .slice none 0 0, .iface 3 (.int .i64 (timer % 4)), .int .u64 0, .int .i64 0, .bool false] 104)
            have hev := (MapKept.heap_alloc w' (.cells #[.int .i64 0, .int .u64 p, .string x, .string ⟨#[]⟩, .int .u8 6, .slice none 0 0, .iface 3 (.int .i64 (timer % 4)), .int .u64 0, .int .i64 0, .bool false] 104)).1
            have HLE : Hid _ := LE
            have HEV : Hid _ := hev
            clear LE hev
            go_wp2_with fail
            refine (due_ok p x (timer % 4) HLE.out.sok HLE.out.tok HEV.out).mono ?_
            rintro e w2 ⟨rfl, hS2, hT2, hev2, hk2⟩
            rw [hd.out]
            have HS2 : Hid _ := hS2
            have HT2 : Hid _ := hT2
            have HE2 : Hid _ := hev2
            have HK2 : Hid _ := hk2
            clear hS2 hT2 hev2 hk2
            go_wp2_with fail
            refine (due_ok p x (timer % 4) HS2.out HT2.out HE2.out).mono ?_
            rintro e w3 ⟨rfl, _, _, _, hk3⟩
            rw [due_second HI.out.nd]
            have HK3 : Hid _ := hk3
            clear hk3
            go_wp2
            go_ret
            exact ⟨rfl, below_kept (below_kept HLE.out.below HK2.out HLE.out.below.size (fun _ h => h)) HK3.out (Nat.le_trans HLE.out.below.size HK2.out.size) (fun _ h => h)⟩

end Go.Proofs.Ybulkadhw
