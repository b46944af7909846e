/-
  THE WALK OF LawS1463AFirstComes (function 3).
-/
import Derived.Test.YbulkadguModel
namespace Go.Proofs.Ybulkadgu
open Go.RowKit Go.Tab

set_option maxRecDepth 100000 in
theorem first_long (a : Option Addr) (len cap : Nat) (w : World) (hm : len ≤ maxLen) (h : 1024 < len) : Calls Yba.prog 3 #[.slice a len cap] w fun e w' => e = .returned (.bool true) ∧ Below w.heap.size w w' := by
  unfold maxLen at hm
  go_enter Yba.func3, Yba.ntmps3
  go_wp2
  go_ret
  exact ⟨rfl, Below.refl _ _⟩

set_option maxRecDepth 100000 in
theorem first_any (a : Option Addr) (len cap : Nat) (l : List ByteArray) (w : World) (hlen : len ≤ 1024) (hl : l.length = len) (h1 : reads w (.slice a len cap) l) :
    Calls Yba.prog 3 #[.slice a len cap] w fun e w' => e = .returned (.bool true) ∧ Below w.heap.size w w' := by
  have HL : Hid (l.length = len) := hl
  clear hl
  go_enter Yba.func3, Yba.ntmps3
  go_wp2_with fail
  refine (dedupe_reads _ l _ h1 (HL.out ▸ hlen)).mono ?_
  rintro e w1 ⟨v1, rfl, hr1, hb1⟩
  go_wp2_with fail
  refine (model_reads _ l _ (reads_below h1 hb1) (HL.out ▸ hlen)).mono ?_
  rintro e w2 ⟨v2, rfl, hr2, hb2⟩
  go_wp2_with fail
  refine (eq_reads _ _ (dd l) _ (reads_below hr1 hb2) hr2 (Nat.le_trans (dd_len l) (HL.out ▸ hlen))).mono ?_
  rintro e w3 ⟨rfl, hb3⟩
  go_wp2
  go_ret
  exact ⟨rfl, (hb1.trans (hb2.mono hb1.size)).trans (hb3.mono (Nat.le_trans hb1.size hb2.size))⟩

end Go.Proofs.Ybulkadgu
