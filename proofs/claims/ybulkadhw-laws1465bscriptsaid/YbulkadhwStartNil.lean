/-
  THE WALK OF (*schedule).setTimer (15): A START.
-/
import Derived.Test.YbulkadhwTimer
namespace Go.Proofs.Ybulkadhw
open Go.RowKit Go.Tab
set_option linter.unusedVariables false
set_option linter.unusedSimpArgs false

set_option maxHeartbeats 8000000 in
set_option maxRecDepth 100000 in
theorem timer_start_nil (base bs : Nat) (sq aft : Int) (qv : Value) (Q : List QI) (s : ByteArray) (t : Int) (K : Nat) (w : World) (h : SOk base w bs sq qv (.map none) Q) (hQ : Q.length ≤ 1023) (hK : K ≤ 1023) (hn : ∀ q ∈ Q, q.n ≤ K) (hbw : base ≤ w.heap.size)
    (hs0 : 0 ≤ sq) (hs1 : sq ≤ 4096) (ha0 : 0 ≤ aft) (ha1 : aft ≤ 65535) :
    Calls Yba.prog 15 #[.pointer (some ⟨bs, 0, none⟩), .agg #[.string s, .string ⟨#[]⟩, .int .u8 6, .slice none 0 0, .iface 3 (.int .i64 t), .int .u64 0, .int .i64 aft, .bool false]] w fun e w' => e = .returned (.tuple #[]) ∧ TimerOk base w bs qv (.map none) Q K (sq + 1) (put ([] : List ((ByteArray × Int) × Int)) (s, t) sq) w' := by
  have s3 : w.cell? ⟨bs, 3, none⟩ = some (.map none) := by simp [World.cell?, h.sch]
  have hbs : bs < w.heap.size := (Array.getElem?_eq_some_iff.1 h.sch).1
  have hmm := @run_makeMap Yba.prog
  have HS : Hid (SOk base w bs sq qv (.map none) Q) := h
  have HN : Hid (∀ q ∈ Q, q.n ≤ K) := hn
  clear h hn
  go_enter Yba.func15, Yba.ntmps15
  go_wp2
  go_cut [10] from 10 to 14 (fun _ wc => Del base w wc bs sq qv (.map none) (.map none) Q ([] : List ((ByteArray × Int) × Int)) #[.string s, .string ⟨#[]⟩, .int .u8 6, .slice none 0 0, .iface 3 (.int .i64 t), .int .u64 0, .int .i64 aft, .bool false] #[.string s, .iface 3 (.int .i64 t)])
  case first =>
    go_region_law (refine step_delete_nil rfl _ _ rfl rfl (s, t) rfl ?_)
    all_goals (go_wp2_with fail; go_meet)
    all_goals exact del_nil HS.out
  case rest =>
    have D := hcut
    have HD : Hid (Del base w wc bs sq qv (.map none) (.map none) Q ([] : List ((ByteArray × Int) × Int)) #[.string s, .string ⟨#[]⟩, .int .u8 6, .slice none 0 0, .iface 3 (.int .i64 t), .int .u64 0, .int .i64 aft, .bool false] #[.string s, .iface 3 (.int .i64 t)]) := D
    clear hcut
    have m7 : wc.cell? ⟨w.heap.size, 7, none⟩ = some (.bool false) := by simp [World.cell?, D.msg]
    have t3 : wc.cell? ⟨bs, 3, none⟩ = some (.map none) := by simp [World.cell?, D.sok.sch]
    have tf : wc.frozen? ⟨bs, 3, none⟩ = false := frozen_of_row wc bs 3 _ _ D.sok.sch
    have hbc : bs < wc.heap.size := by have := D.size; omega
    have hD2 := D.made (by have := D.size; omega)
    have HD2 : Hid (Del base w ((wc.setCell ⟨bs, 3, none⟩ (.map (some wc.heap.size))).alloc (.map #[] 0)) bs sq qv (.map none) (.map (some wc.heap.size)) Q [] #[.string s, .string ⟨#[]⟩, .int .u8 6, .slice none 0 0, .iface 3 (.int .i64 t), .int .u64 0, .int .i64 aft, .bool false] #[.string s, .iface 3 (.int .i64 t)]) := hD2
    obtain ⟨B, hBe⟩ : ∃ B, B = wc.heap.size := ⟨_, rfl⟩
    have hBl : w.heap.size + 2 ≤ B := by rw [hBe]; exact D.size
    clear hD2 D
    have e84a := eql84nil
    have e84b := eql84some
    go_upto_region 6 with fail
    obtain ⟨W, hW⟩ : ∃ W, W = ((wc.setCell ⟨bs, 3, none⟩ (.map (some wc.heap.size))).alloc (.map #[] 0)) := ⟨_, rfl⟩
    rw [← hW]
    rw [← hW, ← hBe] at HD2
    clear hW hBe HD
    have D := HD2.out
    have HD : Hid (Del base w W bs sq qv (.map none) (.map (some B)) Q [] #[.string s, .string ⟨#[]⟩, .int .u8 6, .slice none 0 0, .iface 3 (.int .i64 t), .int .u64 0, .int .i64 aft, .bool false] #[.string s, .iface 3 (.int .i64 t)]) := D
    have hBlow : base ≤ B := by omega
    have hfresh : Hid (w.heap.size ≤ B ∨ (Value.map none) = .map (some B)) := Or.inl (by omega)
    have f0 : W.cell? ⟨w.heap.size, 0, none⟩ = some (.string s) := by simp [World.cell?, D.msg]
    have f1 : W.cell? ⟨w.heap.size, 1, none⟩ = some (.string ⟨#[]⟩) := by simp [World.cell?, D.msg]
    have f2 : W.cell? ⟨w.heap.size, 2, none⟩ = some (.int .u8 6) := by simp [World.cell?, D.msg]
    have f3 : W.cell? ⟨w.heap.size, 3, none⟩ = some (.slice none 0 0) := by simp [World.cell?, D.msg]
    have f4 : W.cell? ⟨w.heap.size, 4, none⟩ = some (.iface 3 (.int .i64 t)) := by simp [World.cell?, D.msg]
    have f5 : W.cell? ⟨w.heap.size, 5, none⟩ = some (.int .u64 0) := by simp [World.cell?, D.msg]
    have f6 : W.cell? ⟨w.heap.size, 6, none⟩ = some (.int .i64 aft) := by simp [World.cell?, D.msg]
    have f7 : W.cell? ⟨w.heap.size, 7, none⟩ = some (.bool false) := by simp [World.cell?, D.msg]
    have y0 : W.cell? ⟨w.heap.size + 1, 0, none⟩ = some (.string s) := by simp [World.cell?, D.key]
    have y1 : W.cell? ⟨w.heap.size + 1, 1, none⟩ = some (.iface 3 (.int .i64 t)) := by simp [World.cell?, D.key]
    have b3 : W.cell? ⟨bs, 3, none⟩ = some (.map (some B)) := by simp [World.cell?, D.sok.sch]
    have htw := tok_tab D.tok
    have HTW : Hid (tab W B tk (Value.int .u64) ([] : List ((ByteArray × Int) × Int))) := htw
    have hbww : base ≤ W.heap.size := by have := D.size; omega
    clear D htw m7 e84a e84b hmm
    go_region_with (first
      | (go_at_call 16; refine (add_any base bs sq aft qv (.map (some B)) Q s t false K _ HD.out.sok.drewd hQ hK HN.out (by exact hbww) hs0 hs1 ha0 ha1).mono ?_; rintro e w6 ⟨rfl, ha⟩; obtain ⟨x3, xk, w7, hup, htm⟩ := add_store (s := s) (t := t) HD.out hBlow HTW.out hfresh.out ha; have x0 : w6.cell? ⟨w.heap.size + 1, 0, none⟩ = some (.string s) := (by simp [World.cell?, xk]); have x1 : w6.cell? ⟨w.heap.size + 1, 1, none⟩ = some (.iface 3 (.int .i64 t)) := (by simp [World.cell?, xk]); simp only [tk] at hup; have HX : Hid _ := htm; clear htm xk ha))
    all_goals go_wp2
    all_goals go_end0
    all_goals exact ⟨rfl, HX.out⟩

end Go.Proofs.Ybulkadhw
