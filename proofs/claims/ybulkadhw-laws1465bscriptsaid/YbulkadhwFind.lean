/-
  THE WALKS OF zzs1465bnode (12) AND zzs1465bfind (13).
-/
import Derived.Test.YbulkadhwKeys
namespace Go.Proofs.Ybulkadhw
open Go.RowKit Go.Tab

/-- The node's name, as the Go text picks it. -/
def nodeOf (i : Int) : ByteArray := if i % 3 = 0 then ⟨#[103, 110, 98, 49]⟩ else if i % 3 = 1 then ⟨#[97, 109, 102]⟩ else ⟨#[115, 109, 102]⟩

theorem node_any (i : Int) (h0 : 0 ≤ i) (h1 : i ≤ 255) (w : World) : Calls Yba.prog 12 #[.int .u8 i] w fun e w' => e = .returned (.string (nodeOf i)) ∧ w' = w := by
  unfold nodeOf
  by_cases h3 : i % 3 = 0
  · rw [if_pos h3]
    go_enter Yba.func12, Yba.ntmps12
    go_wp2
    go_ret
    exact ⟨rfl, rfl⟩
  · rw [if_neg h3]
    by_cases h4 : i % 3 = 1
    · rw [if_pos h4]
      go_enter Yba.func12, Yba.ntmps12
      go_wp2
      go_ret
      exact ⟨rfl, rfl⟩
    · rw [if_neg h4]
      go_enter Yba.func12, Yba.ntmps12
      go_wp2
      go_ret
      exact ⟨rfl, rfl⟩

/-- One slot of the model: its key, its seq, whether it runs. -/
def slotCells (p : (ByteArray × Int) × (Int × Bool)) : List Value := [.string p.1.1, .int .i64 p.1.2, .int .u64 p.2.1, .bool p.2.2]
def cellsOf (S : List ((ByteArray × Int) × (Int × Bool))) : List Value := S.flatMap slotCells

theorem cellsOf_length : ∀ S : List ((ByteArray × Int) × (Int × Bool)), (cellsOf S).length = S.length * 4
  | [] => rfl
  | p :: S => by
    have := cellsOf_length S
    simp only [cellsOf, List.flatMap_cons, List.length_append, List.length_cons] at this ⊢
    rw [this]
    simp [slotCells]
    omega

theorem cellsOf_at : ∀ (S : List ((ByteArray × Int) × (Int × Bool))) (j c : Nat) (p : (ByteArray × Int) × (Int × Bool)), S[j]? = some p → c < 4 → (cellsOf S)[j * 4 + c]? = (slotCells p)[c]?
  | [], j, c, p, h, _ => by simp at h
  | q :: S, 0, c, p, h, hc => by
    simp at h
    subst h
    simp only [cellsOf, List.flatMap_cons]
    rw [List.getElem?_append_left (by simp [slotCells]; omega)]
    simp
  | q :: S, j + 1, c, p, h, hc => by
    have ih := cellsOf_at S j c p (by simpa using h) hc
    simp only [cellsOf, List.flatMap_cons] at ih ⊢
    rw [List.getElem?_append_right (by simp [slotCells]; omega)]
    rw [← ih]
    congr 1
    simp [slotCells]
    omega

/-- What find answers. -/
def fi (S : List ((ByteArray × Int) × (Int × Bool))) (x : ByteArray × Int) : Int := match idx S x with | some i => (i : Int) | none => -1

theorem idx_first {α β : Type} [DecidableEq α] {x : α} : ∀ {S : List (α × β)} {k : Nat} {p : α × β}, S[k]? = some p → p.1 = x → (∀ j q, j < k → S[j]? = some q → q.1 ≠ x) → idx S x = some k
  | [], k, p, h, _, _ => by simp at h
  | q :: S, 0, p, h, he, _ => by
    simp at h
    subst h
    rw [idx_cons, if_pos he]
  | q :: S, k + 1, p, h, he, hn => by
    rw [idx_cons, if_neg (hn 0 q (by omega) rfl), idx_first (by simpa using h) he (fun j r hj hr => hn (j + 1) r (by omega) (by simpa using hr))]
    rfl
theorem idx_absent {α β : Type} [DecidableEq α] {x : α} {S : List (α × β)} (h : ∀ (j : Nat) (q : α × β), S[j]? = some q → q.1 ≠ x) : idx S x = none := by
  cases hi : idx S x with
  | none => rfl
  | some i =>
    obtain ⟨v, h1, _⟩ := idx_some hi
    exact absurd rfl (h i _ h1)
theorem fi_some {S : List ((ByteArray × Int) × (Int × Bool))} {x : ByteArray × Int} {i : Nat} (h : idx S x = some i) : fi S x = i := by unfold fi; rw [h]
theorem fi_none {S : List ((ByteArray × Int) × (Int × Bool))} {x : ByteArray × Int} (h : idx S x = none) : fi S x = -1 := by unfold fi; rw [h]
theorem ret_int {k : IntKind} {a b : Int} (h : a = b) : Ending.returned (.int k a) = .returned (.int k b) := by rw [h]

set_option maxRecDepth 100000 in
theorem find_none (a : Option Addr) (cap : Nat) (n : ByteArray) (t : Int) (w : World) : Calls Yba.prog 13 #[.slice a 0 cap, .string n, .int .i64 t] w fun e w' => e = .returned (.int .i64 (-1)) ∧ w' = w := by
  go_enter Yba.func13, Yba.ntmps13
  go_wp2
  refine wp_loop_rounds 1 ?_
  rw [rounds_succ]
  go_wp2
  go_ret
  exact ⟨rfl, rfl⟩

theorem bytes_ne {a b : ByteArray} (h : a ≠ b) : (a.toList == b.toList) = false := by
  rw [← beq_toListBytes]
  cases hb : (a == b) with
  | false => rfl
  | true => exact absurd ((MapKept.bytes_beq a b).1 hb) h

set_option maxHeartbeats 1600000 in
set_option maxRecDepth 100000 in
theorem find_any (g cap : Nat) (S : List ((ByteArray × Int) × (Int × Bool))) (n : ByteArray) (t : Int) (w : World) (hlen : S.length ≤ 4096) (h0 : 0 < S.length)
    (hc : ∀ j c, j < S.length → c < 4 → w.cell? ⟨g, j * 4 + c, none⟩ = (cellsOf S)[j * 4 + c]?) :
    Calls Yba.prog 13 #[.slice (some ⟨g, 0, none⟩) S.length cap, .string n, .int .i64 t] w fun e w' => e = .returned (.int .i64 (fi S (n, t))) ∧ w' = w := by
  go_enter Yba.func13, Yba.ntmps13
  go_wp2
  go_loop [10] (fun i => ∃ k : Nat, k ≤ S.length ∧ i = .int .i64 k ∧ (∀ j p, j < k → S[j]? = some p → p.1 ≠ (n, t))) (fun i => S.length - (intOf i).toNat)
  case atStart => exact ⟨0, Nat.zero_le _, rfl, fun j p hj => absurd hj (Nat.not_lt_zero _)⟩
  case round =>
    obtain ⟨k, hk, rfl, hne⟩ := hrel
    by_cases hlt : k < S.length
    · obtain ⟨p, hp⟩ : ∃ p, S[k]? = some p := ⟨_, List.getElem?_eq_getElem hlt⟩
      obtain ⟨⟨pn, pt⟩, ps, pr⟩ := p
      have hc0 : w.cell? ⟨g, k * 4, none⟩ = some (.string pn) := by have := hc k 0 hlt (by omega); rw [cellsOf_at S k 0 _ hp (by omega)] at this; simpa [slotCells] using this
      have hc1 : w.cell? ⟨g, k * 4 + 1, none⟩ = some (.int .i64 pt) := by have := hc k 1 hlt (by omega); rw [cellsOf_at S k 1 _ hp (by omega)] at this; simpa [slotCells] using this
      clear hc
      have HP : Hid (S[k]? = some ((pn, pt), ps, pr)) := hp
      have HN : Hid (∀ j p, j < k → S[j]? = some p → p.1 ≠ (n, t)) := hne
      clear hp hne
      by_cases hn : pn = n
      · by_cases ht : pt = t
        · have HF : Hid (fi S (n, t) = k) := fi_some (idx_first HP.out (by simp [hn, ht]) HN.out)
          subst hn
          subst ht
          go_wp2
          go_ret
          exact ⟨ret_int HF.out.symm, rfl⟩
        · have HQ : Hid (pt ≠ t) := ht
          have hb : (pt == t) = false := by simpa using ht
          clear ht
          subst hn
          go_wp2
          go_round
          case rel =>
            refine ⟨k + 1, by omega, by go_num, fun j q hj hq => ?_⟩
            rcases Nat.lt_succ_iff_lt_or_eq.1 hj with h | h
            · exact HN.out j q h hq
            · subst h
              rw [HP.out] at hq
              cases hq
              intro e
              exact HQ.out (congrArg Prod.snd e)
          case measure => simp [intOf]; omega
      · have hb := bytes_ne hn
        have HQ : Hid (pn ≠ n) := hn
        clear hn
        go_wp2
        go_round
        case rel =>
          refine ⟨k + 1, by omega, by go_num, fun j q hj hq => ?_⟩
          rcases Nat.lt_succ_iff_lt_or_eq.1 hj with h | h
          · exact HN.out j q h hq
          · subst h
            rw [HP.out] at hq
            cases hq
            intro e
            exact HQ.out (congrArg Prod.fst e)
        case measure => simp [intOf]; omega
    · have HF : Hid (fi S (n, t) = -1) := fi_none (idx_absent (fun j q hq => hne j q (by have := (List.getElem?_eq_some_iff.1 hq).1; omega) hq))
      go_wp2
      go_ret
      exact ⟨ret_int HF.out.symm, rfl⟩

/-- A slice value that owns the model's slots. -/
theorem find_row {base : Nat} {v : Value} {S : List ((ByteArray × Int) × (Int × Bool))} (n : ByteArray) (t : Int) {w : World} (hlen : S.length ≤ 4096) (h : w.ownsRow base 92 4 v S.length (cellsOf S)) :
    Calls Yba.prog 13 #[v, .string n, .int .i64 t] w fun e w' => e = .returned (.int .i64 (fi S (n, t))) ∧ w' = w := by
  obtain ⟨hx, h0⟩ := h
  rcases h0 with ⟨rfl, h0⟩ | ⟨g, cap, cur, rfl, hg, hh, h1, h2, h3, h4⟩
  · obtain rfl : S = [] := List.eq_nil_of_length_eq_zero h0
    exact find_none none 0 n t w
  · by_cases hS : 0 < S.length
    · refine find_any g cap S n t w hlen hS (fun j c hj hc => ?_)
      have hown : w.ownsRow base 92 4 (.slice (some ⟨g, 0, none⟩) S.length cap) S.length (cellsOf S) := ⟨hx, Or.inr ⟨g, cap, cur, rfl, hg, hh, h1, h2, h3, h4⟩⟩
      exact hown.cellAt _ (by omega)
    · obtain rfl : S = [] := List.eq_nil_of_length_eq_zero (by omega)
      exact find_none _ cap n t w

end Go.Proofs.Ybulkadhw
