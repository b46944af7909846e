/-
  THE WALK OF LawS1470AReopened (3).
-/
import Derived.Test.YbulkadkoLaid
namespace Go.Proofs.Ybulkadko
open Go.RowKit
set_option linter.unusedVariables false
set_option linter.unusedSimpArgs false

theorem neq30 (w : World) : (binOp .neq 30 (.slice none 0 0) (.slice none 0 0)).run Yba.prog w = .ok (.bool false) w := by kernel_rfl
theorem neq48 (a : Addr) (w : World) : (binOp .neq 48 (.pointer (some a)) (.pointer (some a))).run Yba.prog w = .ok (.bool false) w := by
  obtain ⟨j, hj⟩ := info_of_underlying Yba.underlying45
  have h : ∀ d : Nat, (Op.equalIn (d + 1) 48 (.pointer (some a)) (.pointer (some a))).run Yba.prog w = .ok true w := fun d => by
    simp [Op.equalIn, run_underlying Yba.underlying48, sizeOf, typeInfo, hj, run_sameAddr_same]
  simp only [binOp]
  simp [Op.equal, Op.maxDepth, h 9999]

set_option maxHeartbeats 4000000 in
set_option maxRecDepth 100000 in
theorem law_any (a : Option Addr) (b off cap : Nat) (E : List (Bool × Int)) (state : Int) (w : World) (hlen : E.length ≤ 1024) (hab : Hid (0 < E.length → a = some ⟨b, off, none⟩ ∧ b < w.heap.size)) (hE : Hid (laidE w b off E)) (hn0 : 0 ≤ state) (hn1 : state ≤ 255) :
    Calls Yba.prog 3 #[.int .u8 state, .slice a E.length cap] w fun e w' => e = .returned (.bool true) ∧ Below w.heap.size w w' := by
  obtain ⟨cur0, hcs, hmk⟩ := make30 E.length hlen
  have hst : ∀ W, Calls Yba.prog 4 #[.int .u8 state] W fun e w' => e = .returned (.string (stateOf state)) ∧ w' = W := fun W => state_any state hn0 hn1 W
  obtain ⟨st, HST⟩ : ∃ st, Hid (st = stateOf state) := ⟨_, (rfl : stateOf state = stateOf state)⟩
  rw [← HST.out] at hst
  go_enter Yba.func3, Yba.ntmps3
  go_wp2_with (go_at_call 4; refine (hst _).mono ?_; rintro e w' ⟨rfl, rfl⟩)
  go_loopg [7] (E.length) (fun gh i wr => ∃ D : List D1, gh = E.length - D.length ∧ i = .int .i64 D.length ∧ L1 w wr st E D)
  case atStart => exact ⟨[], rfl, rfl, L1.start w st E cur0 hcs⟩
  case round =>
    obtain ⟨D, rfl, rfl, L⟩ := hrel
    clear hst hmk
    have HL : Hid (L1 w wr st E D) := L
    have hle := L.le
    have i11 : wr.cell? ⟨w.heap.size, 11, none⟩ = some (.slice (some ⟨w.heap.size + 1, 0, none⟩) E.length E.length) := by simp [World.cell?, L.it, itemArr]
    have i2 : wr.cell? ⟨w.heap.size, 2, none⟩ = some (.string st) := by simp [World.cell?, L.it, itemArr]
    have hsz := L.size
    have hw1 : w.heap.size < wr.heap.size := by omega
    have hw2 : w.heap.size + 1 < wr.heap.size := by omega
    clear L
    by_cases hlt : D.length < E.length
    · obtain ⟨e, he⟩ : ∃ e, E[D.length]? = some e := ⟨_, List.getElem?_eq_getElem hlt⟩
      obtain ⟨ha, hb⟩ := hab.out (by omega)
      subst ha
      obtain ⟨c0, c1, b0, b0'⟩ := hE.out D.length e he
      obtain ⟨p, q⟩ := e
      have d0 : wr.cell? ⟨b, off + D.length * 2, none⟩ = some (.bool p) := (HL.out.below.cell (by exact hb)).trans c0
      have d1 : wr.cell? ⟨b, off + D.length * 2 + 1, none⟩ = some (.int .u8 q) := (HL.out.below.cell (by exact hb)).trans c1
      have hbr : b < wr.heap.size := by omega
      obtain ⟨cur, hcur, hcs1⟩ := HL.out.row
      obtain ⟨v0, k0⟩ := row_cell hcur hcs1 hlt 0 (by omega)
      obtain ⟨v1, k1⟩ := row_cell hcur hcs1 hlt 1 (by omega)
      obtain ⟨v2, k2⟩ := row_cell hcur hcs1 hlt 2 (by omega)
      obtain ⟨v3, k3⟩ := row_cell hcur hcs1 hlt 3 (by omega)
      obtain ⟨v4, k4⟩ := row_cell hcur hcs1 hlt 4 (by omega)
      obtain ⟨v5, k5⟩ := row_cell hcur hcs1 hlt 5 (by omega)
      obtain ⟨v6, k6⟩ := row_cell hcur hcs1 hlt 6 (by omega)
      replace k0 : wr.cell? ⟨w.heap.size + 1, D.length * 7, none⟩ = some v0 := k0
      have hfg : ∀ o, wr.frozen? ⟨w.heap.size + 1, o, none⟩ = false := fun o => frozen_of_row wr _ o _ _ hcur
      simp only [] at b0 b0'
      obtain ⟨O, hmk⟩ := make41 (q % 8) (by omega) (by omega)
      have HE1 : Hid (E[D.length]? = some (p, q)) := he
      have HS : Hid (L1 w _ st E _) := ((HL.out.step HE1.out (some ⟨wr.heap.size, 0, none⟩)).alloc O).drew
      clear hcur hcs1 c0 c1 he
      cases p with
      | true =>
        go_wp2
        go_region
        go_wp2
        go_roundg (E.length - (D.length + 1))
        case measure => omega
        case rel =>
          exact ⟨_, by simp, by simp, HS.out⟩
      | false =>
        go_wp2
        go_region
        go_wp2
        go_roundg (E.length - (D.length + 1))
        case measure => omega
        case rel =>
          exact ⟨_, by simp, by simp, HS.out⟩
    · have hDl : D.length = E.length := by omega
      have HA7 : Hid (∀ d ∈ D, d.2.2 ≤ 7) := HL.out.seven
      have HLD : Hid (Laid wr (w.heap.size + 1) D) := HL.out.laid
      by_cases hn : 0 < E.length
      · obtain ⟨ha, hb⟩ := hab.out hn
        subst ha
        have HR : Hid (laidE wr b off E) := fun j e he => by
          obtain ⟨c0, c1, c2⟩ := hE.out j e he
          exact ⟨(HL.out.below.cell (by exact hb)).trans c0, (HL.out.below.cell (by exact hb)).trans c1, c2⟩
        have hbr : b < wr.heap.size := by omega
        have i11D := i11
        rw [← hDl] at i11D
        have hD0 : 0 < D.length := by omega
        have hD1 : D.length ≤ 1024 := by omega
        have hz : ((E.length : Int) == 0) = false := by rw [beq_eq_false_iff_ne]; omega
        have hp48 := neq48
        clear hab hE
        by_cases h2 : state % 4 = 2
        · have hst2 : st = ⟨#[114, 101, 106, 101, 99, 116, 101, 100]⟩ := by rw [HST.out]; simp [stateOf, h2]
          subst hst2
          go_wp2
          go_loopg [11, 12] (E.length - 0) (fun gh v i wx => ∃ k : Nat, k ≤ E.length - 0 ∧ gh = E.length - 0 - k ∧ i = .int .i64 (k : Nat) ∧ v = .int .i64 (held D 0 k) ∧ wx = wr)
          case atStart => exact ⟨0, Nat.zero_le _, rfl, by simp, by rw [held_zero]; rfl, rfl⟩
          case round =>
            obtain ⟨k, hk, rfl, rfl, rfl, hwx⟩ := hrel
            subst hwx
            have hbd := held_le HL.out.seven 0 k
            by_cases hlt3 : k < E.length - 0
            · obtain ⟨e, he⟩ : ∃ e, E[k]? = some e := ⟨_, List.getElem?_eq_getElem (by omega)⟩
              obtain ⟨d0, d1, b0, b0'⟩ := HR.out _ e he
              obtain ⟨d, hd, hdq⟩ := HL.out.at hDl he
              obtain ⟨p, q⟩ := e
              have HS : Hid (held D 0 (k + 1) = held D 0 k + (q % 8).toNat) := (held_succ (s := 0) (k := k) (by simpa using hd)).trans (by rw [hdq])
              simp only [] at d0 d1 b0 b0'
              clear he hd hdq
              generalize hH : held D 0 k = hl at hbd HS ⊢
              go_wp2
              go_roundg (E.length - 0 - (k + 1))
              case measure => omega
              case rel =>
                refine ⟨k + 1, by omega, rfl, by go_num, ?_, rfl⟩
                rw [HS.out]
                simp
                omega
            · obtain rfl : k = E.length - 0 := by omega
              have hro := reopened_rejected w.heap.size (w.heap.size + 1) D wr 0 (rfl : (0 : Nat) = 0) hD1 hD0 hw1 hw2 i2 i11D HLD HA7
              rw [hDl] at hro
              clear hlt3 hk
              go_wp2_with fail
              refine hro.mono ?_
              rintro e w2 ⟨rfl, hg2⟩
              have j11 : w2.cell? ⟨w.heap.size, 11, none⟩ = some (.slice (some ⟨w.heap.size + 1, 0, none⟩) E.length E.length) := (World.cell?_of_block (w := wr) (hg2.block _ (by omega) (by simp))).trans i11
              have hw3 : w.heap.size < w2.heap.size := Nat.lt_of_lt_of_le hw1 hg2.size
              have HG : Hid (wr.grownBy w2 none) := hg2
              clear hro hg2 i11 i2
              go_wp2
              go_quiet (fail)
              go_wp2
              go_ret
              exact ⟨rfl, below_drewN (HL.out.below.grown HG.out HL.out.below.size (fun k h => by cases h)) _⟩
        · by_cases h1 : state % 4 = 1
          · have hst2 : st = ⟨#[97, 112, 112, 114, 111, 118, 101, 100]⟩ := by rw [HST.out]; simp [stateOf, h1]
            subst hst2
            obtain ⟨s, hs1⟩ : ∃ s, s + 1 = E.length := ⟨E.length - 1, by omega⟩
            have hslt : s < E.length := by omega
            have HSE : Hid (s = D.length - 1) := by show s = D.length - 1; omega
            have hsi : (E.length : Int) - 1 = (s : Int) := by omega
            have HSI : Hid ((E.length : Int) - 1 = (s : Int)) := hsi
            clear hsi
            go_wp2
            rw [HSI.out]
            go_loopg [11, 12] (E.length - s) (fun gh v i wx => ∃ k : Nat, k ≤ E.length - s ∧ gh = E.length - s - k ∧ i = .int .i64 (s + k : Nat) ∧ v = .int .i64 (held D s k) ∧ wx = wr)
            case atStart => exact ⟨0, Nat.zero_le _, rfl, by simp, by rw [held_zero]; rfl, rfl⟩
            case round =>
              obtain ⟨k, hk, rfl, rfl, rfl, hwx⟩ := hrel
              subst hwx
              have hbd := held_le HL.out.seven s k
              by_cases hlt3 : k < E.length - s
              · obtain ⟨e, he⟩ : ∃ e, E[s + k]? = some e := ⟨_, List.getElem?_eq_getElem (by omega)⟩
                obtain ⟨d0, d1, b0, b0'⟩ := HR.out _ e he
                obtain ⟨d, hd, hdq⟩ := HL.out.at hDl he
                obtain ⟨p, q⟩ := e
                have HS : Hid (held D s (k + 1) = held D s k + (q % 8).toNat) := (held_succ (s := s) (k := k) (by simpa using hd)).trans (by rw [hdq])
                simp only [] at d0 d1 b0 b0'
                clear he hd hdq
                generalize hH : held D s k = hl at hbd HS ⊢
                go_wp2
                go_roundg (E.length - s - (k + 1))
                case measure => omega
                case rel =>
                  refine ⟨k + 1, by omega, rfl, by go_num, ?_, rfl⟩
                  rw [HS.out]
                  simp
                  omega
              · obtain rfl : k = E.length - s := by omega
                have hro := reopened_approved w.heap.size (w.heap.size + 1) D wr s HSE hD1 hD0 hw1 hw2 i2 i11D HLD HA7
                rw [hDl] at hro
                clear hlt3 hk
                go_wp2_with fail
                refine hro.mono ?_
                rintro e w2 ⟨rfl, hg2⟩
                have j11 : w2.cell? ⟨w.heap.size, 11, none⟩ = some (.slice (some ⟨w.heap.size + 1, 0, none⟩) E.length E.length) := (World.cell?_of_block (w := wr) (hg2.block _ (by omega) (by simp))).trans i11
                have hw3 : w.heap.size < w2.heap.size := Nat.lt_of_lt_of_le hw1 hg2.size
                have HG : Hid (wr.grownBy w2 none) := hg2
                clear hro hg2 i11 i2
                go_wp2
                go_quiet (fail)
                go_wp2
                go_ret
                exact ⟨rfl, below_drewN (HL.out.below.grown HG.out HL.out.below.size (fun k h => by cases h)) _⟩
          · have n1 : (st.toList == [97, 112, 112, 114, 111, 118, 101, 100]) = false := by
              rw [HST.out]; unfold stateOf; rw [if_neg h1, if_neg h2]; split <;> kernel_rfl
            have n2 : (st.toList == [114, 101, 106, 101, 99, 116, 101, 100]) = false := by
              rw [HST.out]; unfold stateOf; rw [if_neg h1, if_neg h2]; split <;> kernel_rfl
            have HFL : Hid (D.map (·.1) = E.map (·.1)) := HL.out.flag hDl
            go_wp2
            go_loopg [9, 10] (E.length) (fun gh v i wx => ∃ s : Nat, s ≤ E.length ∧ gh = E.length - s ∧ v = .int .i64 E.length ∧ i = .int .i64 s ∧ (∀ j, j < s → (E.map (·.1))[j]? = some false) ∧ wx = wr)
            case atStart => exact ⟨0, Nat.zero_le _, rfl, rfl, rfl, fun j hj => absurd hj (Nat.not_lt_zero _), rfl⟩
            case round =>
              obtain ⟨s, hk2, rfl, rfl, rfl, hne, hwx⟩ := hrel
              subst hwx
              have HN : Hid (∀ j, j < s → (E.map (·.1))[j]? = some false) := hne
              clear hne
              by_cases hlt2 : s < E.length
              · obtain ⟨e, he⟩ : ∃ e, E[s]? = some e := ⟨_, List.getElem?_eq_getElem hlt2⟩
                obtain ⟨d0, d1, b0, b0'⟩ := HR.out _ e he
                obtain ⟨p, q⟩ := e
                have HEs : Hid (E[s]? = some (p, q)) := he
                simp only [] at d0 d1 b0 b0'
                clear he
                cases p with
                | true =>
                  have HSE : Hid (s = first (D.map (·.1))) := by
                    show s = first (D.map (·.1))
                    rw [HFL.out]
                    exact (first_hit (by simp [HEs.out]) HN.out).symm
                  have hsD : s < D.length := by omega
                  go_wp2
                  clear d0 d1 b0 b0' HEs HN
                  go_loopg [11, 12] (E.length - s) (fun gh v i wx => ∃ k : Nat, k ≤ E.length - s ∧ gh = E.length - s - k ∧ i = .int .i64 (s + k : Nat) ∧ v = .int .i64 (held D s k) ∧ wx = wr)
                  case atStart => exact ⟨0, Nat.zero_le _, rfl, by simp, by rw [held_zero]; rfl, rfl⟩
                  case round =>
                    obtain ⟨k, hk, rfl, rfl, rfl, hwx⟩ := hrel
                    subst hwx
                    have hbd := held_le HL.out.seven s k
                    by_cases hlt3 : k < E.length - s
                    · obtain ⟨e, he⟩ : ∃ e, E[s + k]? = some e := ⟨_, List.getElem?_eq_getElem (by omega)⟩
                      obtain ⟨d0, d1, b0, b0'⟩ := HR.out _ e he
                      obtain ⟨d, hd, hdq⟩ := HL.out.at hDl he
                      obtain ⟨p, q⟩ := e
                      have HS : Hid (held D s (k + 1) = held D s k + (q % 8).toNat) := (held_succ (s := s) (k := k) (by simpa using hd)).trans (by rw [hdq])
                      simp only [] at d0 d1 b0 b0'
                      clear he hd hdq
                      generalize hH : held D s k = hl at hbd HS ⊢
                      go_wp2
                      go_roundg (E.length - s - (k + 1))
                      case measure => omega
                      case rel =>
                        refine ⟨k + 1, by omega, rfl, by go_num, ?_, rfl⟩
                        rw [HS.out]
                        simp
                        omega
                    · obtain rfl : k = E.length - s := by omega
                      have hro := reopened_default w.heap.size (w.heap.size + 1) st D wr s HSE hD1 hD0 hw1 hw2 i2 i11D HLD HA7 hsD n1 n2
                      rw [hDl] at hro
                      clear hlt3 hk
                      go_wp2_with fail
                      refine hro.mono ?_
                      rintro e w2 ⟨rfl, hg2⟩
                      have j11 : w2.cell? ⟨w.heap.size, 11, none⟩ = some (.slice (some ⟨w.heap.size + 1, 0, none⟩) E.length E.length) := (World.cell?_of_block (w := wr) (hg2.block _ (by omega) (by simp))).trans i11
                      have hw3 : w.heap.size < w2.heap.size := Nat.lt_of_lt_of_le hw1 hg2.size
                      have HG : Hid (wr.grownBy w2 none) := hg2
                      clear hro hg2 i11 i2
                      go_wp2
                      go_quiet (fail)
                      go_wp2
                      go_ret
                      exact ⟨rfl, below_drewN (HL.out.below.grown HG.out HL.out.below.size (fun k h => by cases h)) _⟩
                | false =>
                  go_wp2
                  go_roundg (E.length - (s + 1))
                  case measure => omega
                  case rel =>
                    refine ⟨s + 1, by omega, rfl, rfl, by go_num, fun j hj => ?_, rfl⟩
                    rcases Nat.lt_succ_iff_lt_or_eq.1 hj with h | h
                    · exact HN.out j h
                    · subst h
                      simp [HEs.out]
              · obtain rfl : s = E.length := by omega
                have HSE : Hid (first (D.map (·.1)) = D.length) := by
                  show first (D.map (·.1)) = D.length
                  rw [HFL.out, hDl, first_none (fun j hj => HN.out j (by simpa using hj))]
                  simp
                have hro := reopened_last w.heap.size (w.heap.size + 1) st D wr HSE hD1 hD0 hw1 hw2 i2 i11D HLD n1 n2
                go_wp2
                refine wp_loop_rounds 1 ?_
                rw [rounds_succ]
                go_wp2_with fail
                refine hro.mono ?_
                rintro e w2 ⟨rfl, hg2⟩
                have j11 : w2.cell? ⟨w.heap.size, 11, none⟩ = some (.slice (some ⟨w.heap.size + 1, 0, none⟩) E.length E.length) := (World.cell?_of_block (w := wr) (hg2.block _ (by omega) (by simp))).trans i11
                have hw3 : w.heap.size < w2.heap.size := Nat.lt_of_lt_of_le hw1 hg2.size
                have HG : Hid (wr.grownBy w2 none) := hg2
                clear hro hg2 i11 i2
                go_wp2
                go_quiet (fail)
                go_wp2
                go_ret
                exact ⟨rfl, below_drewN (HL.out.below.grown HG.out HL.out.below.size (fun k h => by cases h)) _⟩
      · obtain rfl : E = [] := List.eq_nil_of_length_eq_zero (by omega)
        obtain rfl : D = [] := List.eq_nil_of_length_eq_zero (by omega)
        simp only [List.length_nil] at i11
        have hn30 := neq30
        have hro := reopened_empty w.heap.size _ _ wr hw1 i11
        go_wp2
        refine wp_loop_rounds 1 ?_
        rw [rounds_succ]
        go_wp2_with fail
        refine hro.mono ?_
        rintro e w2 ⟨rfl, hg2⟩
        have j11 : w2.cell? ⟨w.heap.size, 11, none⟩ = some (.slice (some ⟨w.heap.size + 1, 0, none⟩) 0 0) := (World.cell?_of_block (w := wr) (hg2.block _ (by omega) (by simp))).trans i11
        have hw3 : w.heap.size < w2.heap.size := Nat.lt_of_lt_of_le hw1 hg2.size
        have HG : Hid (wr.grownBy w2 none) := hg2
        clear hro hg2 i11 i2
        go_wp2
        go_quiet (fail)
        go_wp2
        go_ret
        exact ⟨rfl, below_drewN (HL.out.below.grown HG.out HL.out.below.size (fun k h => by cases h)) _⟩

end Go.Proofs.Ybulkadko
