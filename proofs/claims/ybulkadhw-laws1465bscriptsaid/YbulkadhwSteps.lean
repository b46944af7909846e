/-
  THE LAWS OF Tab AT A REGION THAT DRAWS ITS ORDER.
-/
import Derived.Test.YbulkadhwKeys
import Derived.Deep.RegionLaw
import Derived.Maps.AppendAt
import Derived.Maps.RangeWalk
import Derived.Deep.QuietTactic
namespace Go.Tab

section
variable {α β : Type} [DecidableEq α]
variable {P : Program} {w : World} {ops : Array Oper} {o : Oper} {a : Act} {Kc : Act → World → Prop} {Q : Exit → Act → World → Prop} {E : Prop}

theorem step_delete_tab (hg : o.guard = none) (m x : Operand) (t k : TypeId) (hop : o.op = Op.call { callee := Callee.builtin Builtin.delete, args := #[m, x], argTypes := #[t, k] })
    (e : TypeId) {f : α → Value} {g : β → Value} {ok : α → Prop} (K : Keys P k f ok) (ht : P.underlying t = some (.map k e)) (b : Nat) {T : List (α × β)}
    (hm : a.eval m = .map (some b)) (hown : tab w b f g T) (hT : ∀ p ∈ T, ok p.1) (y : α) (hy : ok y) (hx : a.eval x = f y)
    (hK : ∀ w', tab w' b f g (del T y) → w.mapTurned w' b → Kc (a.put o.dst (.tuple #[])) w') :
    if Region.wanted o (yielded ops a.tmps) = true then Oper.wp P o a w Kc Q else E := by
  have hw : Region.wanted o (yielded ops a.tmps) = true := by simp [Region.wanted, hg]
  rw [if_pos hw]
  obtain ⟨w', hrun, r1, r2⟩ := hown.drop K hT ht hy o.type
  unfold Oper.wp
  simp [execOp, hop, resolve, invoke, builtin, hm, hx, hrun, Result.andThen]
  exact hK w' r1 r2

theorem step_store_tab (hg : o.guard = none) (m x v : Operand) (t : TypeId) (hop : o.op = Op.mapUpdate t m x v)
    (k e : TypeId) {f : α → Value} {g : β → Value} {ok : α → Prop} (K : Keys P k f ok) (ht : P.underlying t = some (.map k e)) (b : Nat) {T : List (α × β)}
    (hm : a.eval m = .map (some b)) (hown : tab w b f g T) (hT : ∀ p ∈ T, ok p.1) (y : α) (hy : ok y) (hx : a.eval x = f y) (u : β) (hv : a.eval v = g u)
    (hK : ∀ w', tab w' b f g (put T y u) → w.mapTurned w' b → Kc (a.put o.dst undef) w') :
    if Region.wanted o (yielded ops a.tmps) = true then Oper.wp P o a w Kc Q else E := by
  have hw : Region.wanted o (yielded ops a.tmps) = true := by simp [Region.wanted, hg]
  rw [if_pos hw]
  obtain ⟨w', hrun, r1, r2⟩ := hown.store K hT ht hy u
  unfold Oper.wp
  simp [execOp, hop, hm, hx, hv, hrun, Result.andThen]
  exact hK w' r1 r2

end

theorem grown_drew {w w' : World} {row : Option Nat} (h : w.grownBy w' row) : w.grownBy w'.drew row := ⟨h.os, h.tape, h.output, h.size, h.block⟩
theorem grown_drewN {w w' : World} {row : Option Nat} (h : w.grownBy w' row) : ∀ n, w.grownBy (w'.drewN n) row
  | 0 => h
  | n + 1 => grown_drew (grown_drewN h n)

end Go.Tab
