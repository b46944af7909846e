/-
  push WHERE A RING IS FULL: a ring of twice its length, the old one copied over.
-/
import Derived.Test.YbulkadhwGrow
namespace Go.Proofs.Ybulkadhw
open Go.RowKit Go.Tab
set_option linter.unusedVariables false
set_option linter.unusedSimpArgs false

theorem min_zero (b : Nat) : Nat.min 0 b = 0 := Nat.min_eq_left (by omega)
theorem min_lt {a b : Nat} (h : a < b) : Nat.min a b = a := Nat.min_eq_left (by omega)

set_option maxHeartbeats 1000000 in
set_option maxRecDepth 100000 in
theorem push_full (base bq g L L2 : Nat) (aft a0 a1 : Int) (s : ByteArray) (c t d : Int) (st : Bool) (w : World)
    (hq : w.heap[bq]? = some (.cells #[.int .i64 aft, .slice (some ⟨g, 0, none⟩) L L, .int .i64 0, .int .i64 L] 122 (0, 0))) (hb : base ≤ bq) (hbw : base ≤ w.heap.size) (hgr : RowOk w g (L * 10)) (hL1 : 64 ≤ L) (hL2 : L ≤ 1024) (HL : Hid (L2 = 2 * L)) (hp : P2 L2) :
    Calls Yba.prog 18 #[.pointer (some ⟨bq, 0, none⟩), .agg #[.int .i64 a0, .int .u64 a1, .string s, .string ⟨#[]⟩, .int .u8 c, .slice none 0 0, .iface 3 (.int .i64 t), .int .u64 0, .int .i64 d, .bool st]] w fun e w' => e = .returned (.tuple #[]) ∧ PushOk base w ⟨bq, aft, some g, L, L⟩ w' := by
  have q1 : w.cell? ⟨bq, 1, none⟩ = some (.slice (some ⟨g, 0, none⟩) L L) := by simp [World.cell?, hq]
  have q2 : w.cell? ⟨bq, 2, none⟩ = some (.int .i64 0) := by simp [World.cell?, hq]
  have q3 : w.cell? ⟨bq, 3, none⟩ = some (.int .i64 L) := by simp [World.cell?, hq]
  have hLL : L < L2 := by have := HL.out; omega
  have hL3 : L2 ≤ 2048 := by have := HL.out; omega
  have hgw : g < w.heap.size := by obtain ⟨cu, h, _⟩ := hgr; exact (Array.getElem?_eq_some_iff.1 h).1
  have HG : Hid (RowOk w g (L * 10)) := hgr
  clear hgr
  have hbq : bq < w.heap.size := (Array.getElem?_eq_some_iff.1 hq).1
  obtain ⟨i0, hi, hz0, hz1, hz2⟩ := info_parts info104
  have HQ : Hid (w.heap[bq]? = some (.cells #[.int .i64 aft, .slice (some ⟨g, 0, none⟩) L L, .int .i64 0, .int .i64 L] 122 (0, 0))) := hq
  clear hq
  go_enter Yba.func18, Yba.ntmps18
  go_wp2
  go_quiet (fail)
  go_wp2_with (first
    | (at_make; refine wpList_make_full _ rfl _ _ 120 rfl 0 104 i0 _ 10 Yba.underlying120 hi hz0 hz1 .i64 .i64 _ _ L2 rfl rfl (by have := HL.out; omega) (by have := HL.out; omega) (by rw [hz2]; omega) (by unfold maxLen; omega) (Nat.zero_le _) ?_; intro w1 hown1 hgrow1))
  have M1 : Mid w w1 _ (L2 * 10) := mid_made (n := L2) hgrow1 hown1 (made_one (L2 * 10))
  have HM1 : Hid (Mid w w1 #[.int .i64 a0, .int .u64 a1, .string s, .string ⟨#[]⟩, .int .u8 c, .slice none 0 0, .iface 3 (.int .i64 t), .int .u64 0, .int .i64 d, .bool st] (L2 * 10)) := M1
  have r1 : w1.cell? ⟨bq, 1, none⟩ = some (.slice (some ⟨g, 0, none⟩) L L) := by simp [World.cell?, M1.kept.block bq hbq (fun h => h), HQ.out]
  have r2 : w1.cell? ⟨bq, 2, none⟩ = some (.int .i64 0) := by simp [World.cell?, M1.kept.block bq hbq (fun h => h), HQ.out]
  clear hown1 hgrow1 q1 q2 q3 M1 hi hz0 hz1 hz2
  go_cut [5] from 24 to 34 (fun k wc => k = .int .i64 L ∧ Mid w wc #[.int .i64 a0, .int .u64 a1, .string s, .string ⟨#[]⟩, .int .u8 c, .slice none 0 0, .iface 3 (.int .i64 t), .int .u64 0, .int .i64 d, .bool st] (L2 * 10))
  case first =>
    go_region_law (refine step_copy_ring rfl _ _ rfl (w.heap.size + 1) 0 L2 L2 (some ⟨g, 0, none⟩) L L (L2 * 10) rfl rfl HM1.out.row.drew (by rw [min_lt hLL]; omega) (fun _ => ⟨g, 0, L * 10, rfl, (HG.out.kept HM1.out.kept (fun h => h)).drew, by rw [min_lt hLL]; omega⟩) L (min_lt hLL) ?_; intro w2 hr2 hk2)
    all_goals (go_wp2_with fail; go_meet)
    all_goals exact ⟨rfl, HM1.out.drew.step hk2 hr2⟩
  case rest =>
    obtain ⟨rfl, M2⟩ := hcut
    have HM2 : Hid (Mid w wc #[.int .i64 a0, .int .u64 a1, .string s, .string ⟨#[]⟩, .int .u8 c, .slice none 0 0, .iface 3 (.int .i64 t), .int .u64 0, .int .i64 d, .bool st] (L2 * 10)) := M2
    have t1 : wc.cell? ⟨bq, 1, none⟩ = some (.slice (some ⟨g, 0, none⟩) L L) := by simp [World.cell?, M2.kept.block bq hbq (fun h => h), HQ.out]
    have t2 : wc.cell? ⟨bq, 2, none⟩ = some (.int .i64 0) := by simp [World.cell?, M2.kept.block bq hbq (fun h => h), HQ.out]
    have hLe : L ≤ L2 := by omega
    have hLn : ¬ L2 = L := by omega
    clear M2 r1 r2 HM1
    go_wp2
    go_cut [5] from 35 to 47 (fun k wc => k = .int .i64 L ∧ Mid w wc #[.int .i64 a0, .int .u64 a1, .string s, .string ⟨#[]⟩, .int .u8 c, .slice none 0 0, .iface 3 (.int .i64 t), .int .u64 0, .int .i64 d, .bool st] (L2 * 10))
    case first =>
      go_region_law (refine step_copy_ring rfl _ _ rfl (w.heap.size + 1) (L * 10) _ _ _ 0 _ (L2 * 10) rfl rfl HM2.out.row.drew (by rw [min_zero]; omega) (fun h => absurd h (by rw [min_zero]; omega)) 0 (min_zero _) ?_; intro w2 hr2 hk2)
      all_goals (go_wp2_with fail; go_meet)
      all_goals exact ⟨rfl, HM2.out.drew.step hk2 hr2⟩
    case rest =>
      clear HM2 t1 t2
      obtain ⟨rfl, M3⟩ := hcut
      obtain ⟨cur, hg, hcs, hone⟩ := M3.row
      have hqc : wc.heap[bq]? = some (.cells #[.int .i64 aft, .slice (some ⟨g, 0, none⟩) L L, .int .i64 0, .int .i64 L] 122 (0, 0)) := (M3.kept.block bq hbq (fun h => h)).trans HQ.out
      have hlw : w.heap.size + 1 < wc.heap.size := (Array.getElem?_eq_some_iff.1 hg).1
      have HE : Hid (PushOk base w ⟨bq, aft, some g, L, L⟩ ((((wc.setCell ⟨bq, 1, none⟩ (.slice (some ⟨w.heap.size + 1, 0, none⟩) L2 L2)).setCell ⟨bq, 2, none⟩ (.int .i64 0)).setCells (w.heap.size + 1) (L * 10) [.int .i64 a0, .int .u64 a1, .string s, .string ⟨#[]⟩, .int .u8 c, .slice none 0 0, .iface 3 (.int .i64 t), .int .u64 0, .int .i64 d, .bool st]).setCell ⟨bq, 3, none⟩ (.int .i64 ((L : Int) + 1))).drew) := PushOk.drew <|
        grow_ok (L := L2) bq aft L w wc cur _ 0 (some g) M3.kept hqc hg hcs hone hLL hL3 hp hb hbw hbq (ev_one a0 a1 s c t d st)
      have q1 : wc.cell? ⟨bq, 1, none⟩ = some (.slice (some ⟨g, 0, none⟩) L L) := by simp [World.cell?, hqc]
      have q2 : wc.cell? ⟨bq, 2, none⟩ = some (.int .i64 0) := by simp [World.cell?, hqc]
      have q3 : wc.cell? ⟨bq, 3, none⟩ = some (.int .i64 L) := by simp [World.cell?, hqc]
      have e0 : wc.cell? ⟨w.heap.size, 0, none⟩ = some (.int .i64 a0) := by simp [World.cell?, M3.ev]
      have e1 : wc.cell? ⟨w.heap.size, 1, none⟩ = some (.int .u64 a1) := by simp [World.cell?, M3.ev]
      have e2 : wc.cell? ⟨w.heap.size, 2, none⟩ = some (.string s) := by simp [World.cell?, M3.ev]
      have e3 : wc.cell? ⟨w.heap.size, 3, none⟩ = some (.string ⟨#[]⟩) := by simp [World.cell?, M3.ev]
      have e4 : wc.cell? ⟨w.heap.size, 4, none⟩ = some (.int .u8 c) := by simp [World.cell?, M3.ev]
      have e5 : wc.cell? ⟨w.heap.size, 5, none⟩ = some (.slice none 0 0) := by simp [World.cell?, M3.ev]
      have e6 : wc.cell? ⟨w.heap.size, 6, none⟩ = some (.iface 3 (.int .i64 t)) := by simp [World.cell?, M3.ev]
      have e7 : wc.cell? ⟨w.heap.size, 7, none⟩ = some (.int .u64 0) := by simp [World.cell?, M3.ev]
      have e8 : wc.cell? ⟨w.heap.size, 8, none⟩ = some (.int .i64 d) := by simp [World.cell?, M3.ev]
      have e9 : wc.cell? ⟨w.heap.size, 9, none⟩ = some (.bool st) := by simp [World.cell?, M3.ev]
      obtain ⟨v0, k0⟩ := ring_cell (n := L) (L := L2) hg hcs hLL 0 (by omega)
      obtain ⟨v1, k1⟩ := ring_cell (n := L) (L := L2) hg hcs hLL 1 (by omega)
      obtain ⟨v2, k2⟩ := ring_cell (n := L) (L := L2) hg hcs hLL 2 (by omega)
      obtain ⟨v3, k3⟩ := ring_cell (n := L) (L := L2) hg hcs hLL 3 (by omega)
      obtain ⟨v4, k4⟩ := ring_cell (n := L) (L := L2) hg hcs hLL 4 (by omega)
      obtain ⟨v5, k5⟩ := ring_cell (n := L) (L := L2) hg hcs hLL 5 (by omega)
      obtain ⟨v6, k6⟩ := ring_cell (n := L) (L := L2) hg hcs hLL 6 (by omega)
      obtain ⟨v7, k7⟩ := ring_cell (n := L) (L := L2) hg hcs hLL 7 (by omega)
      obtain ⟨v8, k8⟩ := ring_cell (n := L) (L := L2) hg hcs hLL 8 (by omega)
      obtain ⟨v9, k9⟩ := ring_cell (n := L) (L := L2) hg hcs hLL 9 (by omega)
      simp only [Nat.add_zero] at k0
      have hfg : ∀ o, wc.frozen? ⟨w.heap.size + 1, o, none⟩ = false := fun o => frozen_of_row wc _ o _ _ hg
      have hfq : ∀ o, wc.frozen? ⟨bq, o, none⟩ = false := fun o => frozen_of_row wc bq o _ _ hqc
      have hand := ring_idx hp hLL hL3
      obtain ⟨gN, hgN⟩ : ∃ gN, gN = w.heap.size + 1 := ⟨_, rfl⟩
      have hne1 : ¬ gN = bq := by omega
      have hne2 : ¬ bq = gN := by omega
      have hne3 : ¬ gN = w.heap.size := by omega
      have hne4 : ¬ w.heap.size = gN := by omega
      rw [← hgN] at HE hfg k0 k1 k2 k3 k4 k5 k6 k7 k8 k9 hlw ⊢
      clear hgN
      clear M3 hg hqc HQ HG
      go_wp2
      go_region
      go_wp2
      go_end0
      exact ⟨rfl, HE.out⟩

/-- push, WHATEVER THE RING. -/
theorem push_any (base : Nat) (q : QI) (a0 a1 : Int) (s : ByteArray) (c t d : Int) (st : Bool) (w : World) (hq : QOk base w q) (hbw : base ≤ w.heap.size) (hn : q.n ≤ 1023) :
    Calls Yba.prog 18 #[.pointer (some ⟨q.blk, 0, none⟩), .agg #[.int .i64 a0, .int .u64 a1, .string s, .string ⟨#[]⟩, .int .u8 c, .slice none 0 0, .iface 3 (.int .i64 t), .int .u64 0, .int .i64 d, .bool st]] w fun e w' => e = .returned (.tuple #[]) ∧ PushOk base w q w' := by
  obtain ⟨bq, aft, ring, len, n⟩ := q
  have hc := hq.cells
  have hlow := hq.low
  have hle := hq.le
  have hp := hq.p2
  have hsm := hq.small
  cases ring with
  | none =>
    have hl : len = 0 := hq.none rfl
    simp only at hl hle hc hlow
    subst hl
    obtain rfl : n = 0 := by omega
    exact push_first base bq aft a0 a1 s c t d st w hc hlow hbw
  | some g =>
    obtain ⟨hbg, hl0, cur, h1, h2, h3⟩ := hq.some g rfl
    simp only at hle hc hlow hp hsm hl0 h2 hn
    by_cases hnl : n < len
    · exact push_room base bq g len n aft a0 a1 s c t d st cur w hc h1 h2 hnl hsm hp hlow hbg h3
    · obtain rfl : n = len := by omega
      have h64 : 64 ≤ n := by
        rcases hp with h | ⟨e, he, h⟩
        · omega
        · have : 2 ^ 6 ≤ 2 ^ e := Nat.pow_le_pow_right (by omega) he
          omega
      have hp2 : P2 (2 * n) := by
        rcases hp with h | ⟨e, he, h⟩
        · omega
        · exact Or.inr ⟨e + 1, by omega, by rw [h, Nat.pow_succ]; omega⟩
      exact push_full base bq g n (2 * n) aft a0 a1 s c t d st w hc hlow hbw ⟨cur, h1, h2, h3⟩ h64 (by omega) rfl hp2

end Go.Proofs.Ybulkadhw
