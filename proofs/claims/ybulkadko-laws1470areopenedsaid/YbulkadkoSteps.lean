/-
  THE WALKS OF zzs1470astate (4), firstPending$1 (8), slices.IndexFunc (7), firstPending (6).
-/
import Derived.Test.YbulkadkoRows
import Derived.WalkKit
import Derived.Below
import Derived.Deep.LoopGhost
import Derived.Deep.QuietTactic
import Derived.BigQuiet
import Derived.BigRegion
import Derived.LaidEqlPtr
import Derived.Maps.AppendAt
import Derived.Deep.RegionWith
import Derived.Deep.DeepCutAuto
namespace Go.Proofs.Ybulkadko
open Go.RowKit
set_option linter.unusedVariables false
set_option linter.unusedSimpArgs false

def inApproval : ByteArray := ⟨#[105, 110, 95, 97, 112, 112, 114, 111, 118, 97, 108]⟩
def approved : ByteArray := ⟨#[97, 112, 112, 114, 111, 118, 101, 100]⟩
def rejected : ByteArray := ⟨#[114, 101, 106, 101, 99, 116, 101, 100]⟩
def pending : ByteArray := ⟨#[112, 101, 110, 100, 105, 110, 103]⟩

/-- The state that the byte picks. -/
def stateOf (s : Int) : ByteArray := if s % 4 = 0 then ⟨#[105, 110, 95, 97, 112, 112, 114, 111, 118, 97, 108]⟩ else if s % 4 = 1 then ⟨#[97, 112, 112, 114, 111, 118, 101, 100]⟩ else if s % 4 = 2 then ⟨#[114, 101, 106, 101, 99, 116, 101, 100]⟩ else ⟨#[]⟩

theorem state_any (s : Int) (h0 : 0 ≤ s) (h1 : s ≤ 255) (w : World) : Calls Yba.prog 4 #[.int .u8 s] w fun e w' => e = .returned (.string (stateOf s)) ∧ w' = w := by
  unfold stateOf
  by_cases a0 : s % 4 = 0
  · rw [if_pos a0]
    go_enter Yba.func4, Yba.ntmps4
    go_wp2
    go_ret
    exact ⟨rfl, rfl⟩
  · rw [if_neg a0]
    by_cases a1 : s % 4 = 1
    · rw [if_pos a1]
      go_enter Yba.func4, Yba.ntmps4
      go_wp2
      go_ret
      exact ⟨rfl, rfl⟩
    · rw [if_neg a1]
      by_cases a2 : s % 4 = 2
      · rw [if_pos a2]
        go_enter Yba.func4, Yba.ntmps4
        go_wp2
        go_ret
        exact ⟨rfl, rfl⟩
      · rw [if_neg a2]
        go_enter Yba.func4, Yba.ntmps4
        go_wp2
        go_ret
        exact ⟨rfl, rfl⟩

/-- A step's status. -/
def stat (b : Bool) : ByteArray := if b then ⟨#[112, 101, 110, 100, 105, 110, 103]⟩ else ⟨#[97, 112, 112, 114, 111, 118, 101, 100]⟩
abbrev D1 := Bool × Option Addr × Nat
def stepArr (d : D1) : Array Value := #[.string ⟨#[115]⟩, .string (stat d.1), .int .i64 1, .slice d.2.1 d.2.2 d.2.2, .string ⟨#[]⟩, .string ⟨#[]⟩, .string ⟨#[]⟩]

theorem pend_any (b : Bool) (ao : Option Addr) (L : Nat) (w : World) :
    Calls Yba.prog 8 #[.agg #[.string ⟨#[115]⟩, .string (stat b), .int .i64 1, .slice ao L L, .string ⟨#[]⟩, .string ⟨#[]⟩, .string ⟨#[]⟩]] w fun e w' => e = .returned (.bool b) ∧
      w' = w.alloc (.cells #[.string ⟨#[115]⟩, .string (stat b), .int .i64 1, .slice ao L L, .string ⟨#[]⟩, .string ⟨#[]⟩, .string ⟨#[]⟩] 45) := by
  cases b with
  | true =>
    simp only [stat, if_true]
    go_enter Yba.func8, Yba.ntmps8
    go_wp2
    go_ret
    exact ⟨rfl, rfl⟩
  | false =>
    simp only [stat]
    go_enter Yba.func8, Yba.ntmps8
    go_wp2
    go_ret
    exact ⟨rfl, rfl⟩

/-- The steps' cells. -/
def Laid (w : World) (g : Nat) (D : List D1) : Prop :=
  ∀ j d, D[j]? = some d → w.cell? ⟨g, j * 7, none⟩ = some (.string ⟨#[115]⟩) ∧ w.cell? ⟨g, j * 7 + 1, none⟩ = some (.string (stat d.1)) ∧ w.cell? ⟨g, j * 7 + 2, none⟩ = some (.int .i64 1) ∧ w.cell? ⟨g, j * 7 + 3, none⟩ = some (.slice d.2.1 d.2.2 d.2.2) ∧
    w.cell? ⟨g, j * 7 + 4, none⟩ = some (.string ⟨#[]⟩) ∧ w.cell? ⟨g, j * 7 + 5, none⟩ = some (.string ⟨#[]⟩) ∧ w.cell? ⟨g, j * 7 + 6, none⟩ = some (.string ⟨#[]⟩)

/-- The first that is pending; the length where none is. -/
def first : List Bool → Nat
  | [] => 0
  | b :: l => if b then 0 else first l + 1
theorem first_hit : ∀ {P : List Bool} {k : Nat}, P[k]? = some true → (∀ j, j < k → P[j]? = some false) → first P = k
  | [], k, h, _ => by simp at h
  | b :: P, 0, h, _ => by simp at h; simp [first, h]
  | b :: P, k + 1, h, hn => by
    have h0 := hn 0 (by omega)
    simp at h0
    have := first_hit (P := P) (k := k) (by simpa using h) (fun j hj => by have := hn (j + 1) (by omega); simpa using this)
    simp [first, h0, this]
theorem first_none : ∀ {P : List Bool}, (∀ j, j < P.length → P[j]? = some false) → first P = P.length
  | [], _ => rfl
  | b :: P, hn => by
    have h0 := hn 0 (by simp)
    simp at h0
    have := first_none (P := P) (fun j hj => by have := hn (j + 1) (by simp; omega); simpa using this)
    simp [first, h0, this]
theorem first_le : ∀ P : List Bool, first P ≤ P.length
  | [] => Nat.le_refl _
  | b :: P => by
    have := first_le P
    cases b <;> simp [first] <;> omega

theorem laid_kept {w w' : World} {g : Nat} {D : List D1} (h : Laid w g D) (hb : w'.heap[g]? = w.heap[g]?) : Laid w' g D := by
  intro j d hd
  obtain ⟨a0, a1, a2, a3, a4, a5, a6⟩ := h j d hd
  have e : ∀ o, w'.cell? ⟨g, o, none⟩ = w.cell? ⟨g, o, none⟩ := fun o => World.cell?_of_block (w := w) hb
  simp only [e]
  exact ⟨a0, a1, a2, a3, a4, a5, a6⟩

theorem laid_grown {w w' : World} {g : Nat} {D : List D1} (h : Laid w g D) (hg : w.grownBy w' none) (hl : g < w.heap.size) : Laid w' g D := laid_kept h (hg.block g hl (by simp))

theorem ret_int {k : IntKind} {a b : Int} (h : a = b) : Ending.returned (.int k a) = .returned (.int k b) := by rw [h]

/-- What IndexFunc answers. -/
def ix (P : List Bool) : Int := if first P < P.length then (first P : Int) else -1

set_option maxHeartbeats 1000000 in
set_option maxRecDepth 100000 in
theorem index_any (g cap : Nat) (D : List D1) (w : World) (hlen : D.length ≤ 1024) (hg : g < w.heap.size) (hL : Hid (Laid w g D)) :
    Calls Yba.prog 7 #[.slice (some ⟨g, 0, none⟩) D.length cap, .func (.func 8) #[] #[]] w fun e w' => e = .returned (.int .i64 (ix (D.map (·.1)))) ∧ w.grownBy w' none := by
  go_enter Yba.func7, Yba.ntmps7
  go_wp2
  go_loopg [8] (D.length) (fun gh i wr => ∃ k : Nat, k ≤ D.length ∧ gh = D.length - k ∧ i = .int .i64 k ∧ (∀ j, j < k → (D.map (·.1))[j]? = some false) ∧ w.grownBy wr none)
  case atStart => exact ⟨0, Nat.zero_le _, rfl, rfl, fun j hj => absurd hj (Nat.not_lt_zero _), ⟨rfl, rfl, rfl, Nat.le_refl _, fun _ _ _ => rfl⟩⟩
  case round =>
    obtain ⟨k, hk, rfl, rfl, hne, hgr⟩ := hrel
    by_cases hlt : k < D.length
    · obtain ⟨d, hd⟩ : ∃ d, D[k]? = some d := ⟨_, List.getElem?_eq_getElem hlt⟩
      obtain ⟨a0, a1, a2, a3, a4, a5, a6⟩ := laid_grown hL.out hgr hg k d hd
      obtain ⟨b, ao, L⟩ := d
      have HN : Hid (∀ j, j < k → (D.map (·.1))[j]? = some false) := hne
      have HD : Hid (D[k]? = some (b, ao, L)) := hd
      have HG : Hid (w.grownBy wr none) := hgr
      clear hne hd hgr
      simp only [] at a1 a3
      go_wp2_with fail
      refine (pend_any b ao L _).mono ?_
      rintro e w' ⟨rfl, rfl⟩
      have HG2 : Hid (w.grownBy (wr.alloc (.cells #[.string ⟨#[115]⟩, .string (stat b), .int .i64 1, .slice ao L L, .string ⟨#[]⟩, .string ⟨#[]⟩, .string ⟨#[]⟩] 45)) none) := HG.out.trans (World.grownBy_alloc wr _ none)
      cases b with
      | true =>
        have HF : Hid (ix (D.map (·.1)) = k) := by
          have h1 := first_hit (P := D.map (·.1)) (k := k) (by simp [HD.out]) HN.out
          show ix (D.map (·.1)) = k
          unfold ix
          rw [if_pos (by simp; omega), h1]
        go_wp2
        go_ret
        exact ⟨ret_int HF.out.symm, HG2.out⟩
      | false =>
        go_wp2
        go_roundg (D.length - (k + 1))
        case measure => omega
        case rel =>
          refine ⟨k + 1, by omega, rfl, by go_num, fun j hj => ?_, HG2.out⟩
          rcases Nat.lt_succ_iff_lt_or_eq.1 hj with h | h
          · exact HN.out j h
          · subst h
            simp [HD.out]
    · have HF : Hid (ix (D.map (·.1)) = -1) := by
        obtain rfl : k = D.length := by omega
        have := first_none (P := D.map (·.1)) (fun j hj => hne j (by simpa using hj))
        show ix (D.map (·.1)) = -1
        unfold ix
        rw [if_neg (by omega)]
      go_wp2
      go_ret
      exact ⟨ret_int HF.out.symm, hgr⟩

set_option maxHeartbeats 1000000 in
set_option maxRecDepth 100000 in
theorem pending_any (bi g cap : Nat) (D : List D1) (w : World) (hlen : D.length ≤ 1024) (hb : bi < w.heap.size) (hg : g < w.heap.size) (hs : w.cell? ⟨bi, 11, none⟩ = some (.slice (some ⟨g, 0, none⟩) D.length cap)) (hL : Hid (Laid w g D)) :
    Calls Yba.prog 6 #[.pointer (some ⟨bi, 0, none⟩)] w fun e w' => e = .returned (.int .i64 (first (D.map (·.1)))) ∧ w.grownBy w' none := by
  by_cases hf : first (D.map (·.1)) < (D.map (·.1)).length
  · have hix : ix (D.map (·.1)) = first (D.map (·.1)) := by unfold ix; rw [if_pos hf]
    go_enter Yba.func6, Yba.ntmps6
    go_wp2_with fail
    refine (index_any g cap D w hlen hg hL).mono ?_
    rintro e w1 ⟨rfl, h1⟩
    have hs1 : w1.cell? ⟨bi, 11, none⟩ = some (.slice (some ⟨g, 0, none⟩) D.length cap) := (World.cell?_of_block (w := w) (h1.block bi hb (by simp))).trans hs
    have HG : Hid (w.grownBy w1 none) := h1
    rw [hix]
    clear h1 hix
    go_wp2
    go_ret
    exact ⟨rfl, HG.out⟩
  · have hix : ix (D.map (·.1)) = -1 := by unfold ix; rw [if_neg hf]
    have hfl : (first (D.map (·.1)) : Int) = D.length := by have := first_le (D.map (·.1)); simp at this hf; omega
    rw [hfl]
    go_enter Yba.func6, Yba.ntmps6
    go_wp2_with fail
    refine (index_any g cap D w hlen hg hL).mono ?_
    rintro e w1 ⟨rfl, h1⟩
    have hs1 : w1.cell? ⟨bi, 11, none⟩ = some (.slice (some ⟨g, 0, none⟩) D.length cap) := (World.cell?_of_block (w := w) (h1.block bi hb (by simp))).trans hs
    have HG : Hid (w.grownBy w1 none) := h1
    rw [hix]
    clear h1 hix
    go_wp2
    go_ret
    exact ⟨rfl, HG.out⟩

end Go.Proofs.Ybulkadko
