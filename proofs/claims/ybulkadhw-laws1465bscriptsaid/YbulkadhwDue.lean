/-
  THE WALK OF (*schedule).due (14).
-/
import Derived.Test.YbulkadhwFind
import Derived.Test.YbulkadhwSteps
import Derived.Deep.QuietTactic
import Derived.BigQuiet
import Derived.BigRegion
namespace Go.Proofs.Ybulkadhw
open Go.RowKit Go.Tab

set_option maxRecDepth 100000 in
/-- No timer's event: it is due, nothing turns. -/
theorem due_other (bs be : Nat) (c : Int) (w : World) (hc : (c == 6) = false) (he4 : w.cell? ⟨be, 4, none⟩ = some (.int .u8 c)) :
    Calls Yba.prog 14 #[.pointer (some ⟨bs, 0, none⟩), .pointer (some ⟨be, 0, none⟩)] w fun e w' => e = .returned (.bool true) ∧ w' = w := by
  go_enter Yba.func14, Yba.ntmps14
  go_wp2
  go_ret
  exact ⟨rfl, rfl⟩

theorem zero25 (w : World) : (zeroValue 25).run Yba.prog w = .ok (.int .u64 0) w := by kernel_rfl

set_option maxHeartbeats 1000000 in
set_option maxRecDepth 100000 in
/-- The key is not there. -/
theorem due_miss (bs be : Nat) (m : Value) (q : Int) (n : ByteArray) (t : Int) (w : World) (hs3 : w.cell? ⟨bs, 3, none⟩ = some m)
    (_he1 : w.cell? ⟨be, 1, none⟩ = some (.int .u64 q)) (he2 : w.cell? ⟨be, 2, none⟩ = some (.string n)) (he4 : w.cell? ⟨be, 4, none⟩ = some (.int .u8 6)) (he6 : w.cell? ⟨be, 6, none⟩ = some (.iface 3 (.int .i64 t))) (hbe : be < w.heap.size) (hbs : bs < w.heap.size)
    (hl : ∀ w', w.grownBy w' none → (Instr.lookup 84 m (tk (n, t)) true).run Yba.prog w' = .ok (.tuple #[.int .u64 0, .bool false]) w') :
    Calls Yba.prog 14 #[.pointer (some ⟨bs, 0, none⟩), .pointer (some ⟨be, 0, none⟩)] w fun e w' => e = .returned (.bool false) ∧ w.grownBy w' none := by
  go_enter Yba.func14, Yba.ntmps14
  go_wp2
  go_region
  have hl1 : ∀ nq, (Instr.lookup 84 m (.agg #[.string n, .iface 3 (.int .i64 t)]) true).run Yba.prog ((w.alloc (.cells #[.string n, .iface 3 (.int .i64 t)] 89)).drewN nq) = .ok (.tuple #[.int .u64 0, .bool false]) ((w.alloc (.cells #[.string n, .iface 3 (.int .i64 t)] 89)).drewN nq) := fun nq => hl _ (grown_drewN (World.grownBy_alloc w _ none) nq)
  clear hl
  go_wp2
  go_quiet (fail)
  go_wp2
  go_ret
  exact ⟨rfl, grown_drewN (World.grownBy_alloc w _ none) _⟩

set_option maxHeartbeats 1000000 in
set_option maxRecDepth 100000 in
/-- The key is there with another seq. -/
theorem due_stale (bs be : Nat) (m : Value) (q q' : Int) (n : ByteArray) (t : Int) (w : World) (hs3 : w.cell? ⟨bs, 3, none⟩ = some m)
    (he1 : w.cell? ⟨be, 1, none⟩ = some (.int .u64 q)) (he2 : w.cell? ⟨be, 2, none⟩ = some (.string n)) (he4 : w.cell? ⟨be, 4, none⟩ = some (.int .u8 6)) (he6 : w.cell? ⟨be, 6, none⟩ = some (.iface 3 (.int .i64 t))) (hbe : be < w.heap.size) (hbs : bs < w.heap.size)
    (hne : (q' == q) = false)
    (hl : ∀ w', w.grownBy w' none → (Instr.lookup 84 m (tk (n, t)) true).run Yba.prog w' = .ok (.tuple #[.int .u64 q', .bool true]) w') :
    Calls Yba.prog 14 #[.pointer (some ⟨bs, 0, none⟩), .pointer (some ⟨be, 0, none⟩)] w fun e w' => e = .returned (.bool false) ∧ w.grownBy w' none := by
  go_enter Yba.func14, Yba.ntmps14
  go_wp2
  go_region
  have hl1 : ∀ nq, (Instr.lookup 84 m (.agg #[.string n, .iface 3 (.int .i64 t)]) true).run Yba.prog ((w.alloc (.cells #[.string n, .iface 3 (.int .i64 t)] 89)).drewN nq) = .ok (.tuple #[.int .u64 q', .bool true]) ((w.alloc (.cells #[.string n, .iface 3 (.int .i64 t)] 89)).drewN nq) := fun nq => hl _ (grown_drewN (World.grownBy_alloc w _ none) nq)
  clear hl
  go_wp2
  go_quiet (fail)
  go_wp2
  go_ret
  exact ⟨rfl, grown_drewN (World.grownBy_alloc w _ none) _⟩

theorem grown_turned {w w1 : World} {o : Obj} {k B : Nat} (h : ((w.alloc o).drewN k).mapTurned w1 B) : w.grownBy w1 (some B) :=
  (grown_drewN (World.grownBy_alloc w o (some B)) k).trans h.grown

set_option maxHeartbeats 1000000 in
set_option maxRecDepth 100000 in
/-- The key is there with this very seq: it is due, and the key goes. -/
theorem due_hit (bs be B : Nat) (q : Int) (n : ByteArray) (t : Int) (T : List ((ByteArray × Int) × Int)) (w : World) (hs3 : w.cell? ⟨bs, 3, none⟩ = some (.map (some B)))
    (he1 : w.cell? ⟨be, 1, none⟩ = some (.int .u64 q)) (he2 : w.cell? ⟨be, 2, none⟩ = some (.string n)) (he4 : w.cell? ⟨be, 4, none⟩ = some (.int .u8 6)) (he6 : w.cell? ⟨be, 6, none⟩ = some (.iface 3 (.int .i64 t))) (hbe : be < w.heap.size) (hbs : bs < w.heap.size)
    (htab : tab w B tk (Value.int .u64) T) (hget : get T (n, t) = some q) :
    Calls Yba.prog 14 #[.pointer (some ⟨bs, 0, none⟩), .pointer (some ⟨be, 0, none⟩)] w fun e w' => e = .returned (.bool true) ∧ tab w' B tk (Value.int .u64) (del T (n, t)) ∧ w.grownBy w' (some B) := by
  have hl1 : ∀ nq, (Instr.lookup 84 (.map (some B)) (.agg #[.string n, .iface 3 (.int .i64 t)]) true).run Yba.prog ((w.alloc (.cells #[.string n, .iface 3 (.int .i64 t)] 89)).drewN nq) = .ok (.tuple #[.int .u64 q, .bool true]) ((w.alloc (.cells #[.string n, .iface 3 (.int .i64 t)] 89)).drewN nq) := fun nq => by
    have h := (htab.kept (grown_drewN (World.grownBy_alloc w (.cells #[.string n, .iface 3 (.int .i64 t)] 89) none) nq) (by simp)).look keys89 (fun _ _ => trivial) Yba.underlying84 (x := (n, t)) trivial (zero25 _) true
    rw [hget] at h
    exact h
  have hd : ∀ nq, tab ((w.alloc (.cells #[.string n, .iface 3 (.int .i64 t)] 89)).drewN nq) B tk (Value.int .u64) T := fun nq => htab.kept (grown_drewN (World.grownBy_alloc w (.cells #[.string n, .iface 3 (.int .i64 t)] 89) none) nq) (by simp)
  have HD : Hid (∀ nq, tab ((w.alloc (.cells #[.string n, .iface 3 (.int .i64 t)] 89)).drewN nq) B tk (Value.int .u64) T) := hd
  clear hd
  have HG : Hid (get T (n, t) = some q) := hget
  clear hget htab
  go_enter Yba.func14, Yba.ntmps14
  go_wp2
  go_region
  go_wp2
  go_quiet (fail)
  go_wp2
  go_region_law (refine step_delete_tab rfl _ _ 84 89 rfl 25 keys89 Yba.underlying84 B rfl (HD.out _) (fun _ _ => trivial) (n, t) trivial rfl ?_; intro w1 ht1 hturn1)
  all_goals go_wp2
  all_goals go_ret
  all_goals exact ⟨rfl, ht1, grown_turned hturn1⟩

/-- due AT A TIMER's EVENT, by the table. -/
theorem due_tab (bs be B : Nat) (q : Int) (n : ByteArray) (t : Int) (T : List ((ByteArray × Int) × Int)) (w : World) (hs3 : w.cell? ⟨bs, 3, none⟩ = some (.map (some B)))
    (he1 : w.cell? ⟨be, 1, none⟩ = some (.int .u64 q)) (he2 : w.cell? ⟨be, 2, none⟩ = some (.string n)) (he4 : w.cell? ⟨be, 4, none⟩ = some (.int .u8 6)) (he6 : w.cell? ⟨be, 6, none⟩ = some (.iface 3 (.int .i64 t))) (hbe : be < w.heap.size) (hbs : bs < w.heap.size)
    (htab : tab w B tk (Value.int .u64) T) :
    Calls Yba.prog 14 #[.pointer (some ⟨bs, 0, none⟩), .pointer (some ⟨be, 0, none⟩)] w fun e w' => e = .returned (.bool (decide (get T (n, t) = some q))) ∧ tab w' B tk (Value.int .u64) (if get T (n, t) = some q then del T (n, t) else T) ∧ w.grownBy w' (some B) := by
  have look : ∀ w', w.grownBy w' none → _ := fun w' hg => (htab.kept hg (by simp)).look keys89 (fun _ _ => trivial) Yba.underlying84 (x := (n, t)) trivial (zero25 _) true
  cases hget : get T (n, t) with
  | none =>
    simp only [hget] at look
    refine (due_miss bs be _ q n t w hs3 he1 he2 he4 he6 hbe hbs look).mono fun e w' ⟨he, hg⟩ => ?_
    exact ⟨by rw [he]; simp, by simpa using htab.kept hg (by simp), hg.but _⟩
  | some q' =>
    simp only [hget] at look
    by_cases hq : q' = q
    · subst hq
      refine (due_hit bs be B q' n t T w hs3 he1 he2 he4 he6 hbe hbs htab hget).mono fun e w' ⟨he, ht, hg⟩ => ?_
      exact ⟨by rw [he]; simp, by simpa using ht, hg⟩
    · refine (due_stale bs be _ q q' n t w hs3 he1 he2 he4 he6 hbe hbs (by simpa using hq) look).mono fun e w' ⟨he, hg⟩ => ?_
      exact ⟨by rw [he]; simp [hq], by simpa [hq] using htab.kept hg (by simp), hg.but _⟩

/-- .. where no timer was ever started: the map is nil. -/
theorem due_nil (bs be : Nat) (q : Int) (n : ByteArray) (t : Int) (w : World) (hs3 : w.cell? ⟨bs, 3, none⟩ = some (.map none))
    (he1 : w.cell? ⟨be, 1, none⟩ = some (.int .u64 q)) (he2 : w.cell? ⟨be, 2, none⟩ = some (.string n)) (he4 : w.cell? ⟨be, 4, none⟩ = some (.int .u8 6)) (he6 : w.cell? ⟨be, 6, none⟩ = some (.iface 3 (.int .i64 t))) (hbe : be < w.heap.size) (hbs : bs < w.heap.size) :
    Calls Yba.prog 14 #[.pointer (some ⟨bs, 0, none⟩), .pointer (some ⟨be, 0, none⟩)] w fun e w' => e = .returned (.bool false) ∧ w.grownBy w' none := by
  refine due_miss bs be _ q n t w hs3 he1 he2 he4 he6 hbe hbs (fun w' _ => ?_)
  kernel_rfl

end Go.Proofs.Ybulkadhw
