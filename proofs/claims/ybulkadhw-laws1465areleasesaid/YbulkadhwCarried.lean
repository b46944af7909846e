/-
  THE WALKS OF (*SMF).carriedOut (10).
-/
import Derived.Test.YbulkadhwKeys38
import Derived.Deep.QuietTactic
import Derived.BigQuiet
import Derived.BigRegion
namespace Go.Proofs.Ybulkadhw
open Go.RowKit Go.Tab
set_option linter.unusedVariables false

theorem ta59 (v : Value) (w : World) : (Instr.typeAssert (.iface 59 v) 69 59 true).run Yba.prog w = .ok (.tuple #[v, .bool true]) w := by kernel_rfl
theorem ta77 (v : Value) (w : World) : (Instr.typeAssert (.iface 77 v) 69 77 true).run Yba.prog w = .ok (.tuple #[v, .bool true]) w := by kernel_rfl
theorem ta77no (v : Value) (w : World) : (Instr.typeAssert (.iface 77 v) 69 59 true).run Yba.prog w = .ok (.tuple #[.pointer none, .bool false]) w := by kernel_rfl

theorem grown_set (w : World) (b j : Nat) (u : Value) : w.grownBy (w.setCell ⟨b, j, none⟩ u) (some b) :=
  ⟨rfl, rfl, rfl, by simp, fun k _ hk => heap_setCell_other w ⟨b, j, none⟩ k u (fun e => hk (by rw [e]))⟩

/-- What the world is behind a switch of the downlink. -/
structure Switched (w w' : World) (bc : Nat) (asker : ByteArray) (ba : Nat) (teid : Int) (c0 c1 c2 c3 c4 c5 c11 : Value) : Prop where
  grown : w.grownBy w' (some bc)
  ctx : w'.heap[bc]? = some (.cells #[c0, c1, c2, c3, c4, c5, .string ⟨#[78, 79, 78, 69]⟩, .pointer (some ⟨w.heap.size, 0, none⟩), .pointer none, .bool false, .pointer none, c11] 55 (0, 0))
  down : w'.heap[w.heap.size]? = some (.cells #[.int .u64 0, .int .u64 0, .pointer none, .int .u32 teid] 40 (0, 0))
  msg : w'.heap[w.heap.size + 1]? = some (.cells #[.string asker, .pointer (some ⟨ba, 0, none⟩), .nilIface] 115 (0, 0))

theorem switched_mk (w : World) (bc : Nat) (asker : ByteArray) (ba : Nat) (teid : Int) (c0 c1 c2 c3 c4 c5 c6 c7 c8 c9 c10 c11 : Value) (hC : w.heap[bc]? = some (.cells #[c0, c1, c2, c3, c4, c5, c6, c7, c8, c9, c10, c11] 55 (0, 0))) :
    Switched w ((((((((w.setCell ⟨bc, 6, none⟩ (.string ⟨#[78, 79, 78, 69]⟩)).setCell ⟨bc, 7, none⟩ (.pointer (some ⟨w.heap.size, 0, none⟩))).setCell ⟨bc, 8, none⟩ (.pointer none)).setCell ⟨bc, 9, none⟩ (.bool false)).setCell ⟨bc, 10, none⟩ (.pointer none)).alloc
      (.cells #[.int .u64 0, .int .u64 0, .pointer none, .int .u32 teid] 40)).alloc (.cells #[.string asker, .pointer (some ⟨ba, 0, none⟩), .nilIface] 115)).drew) bc asker ba teid c0 c1 c2 c3 c4 c5 c11 := by
  have hlt : bc < w.heap.size := (Array.getElem?_eq_some_iff.1 hC).1
  have h1 := heap_setCell_same w bc 6 _ 55 (.string ⟨#[78, 79, 78, 69]⟩) hC
  have h2 := heap_setCell_same _ bc 7 _ 55 (.pointer (some ⟨w.heap.size, 0, none⟩)) h1
  have h3 := heap_setCell_same _ bc 8 _ 55 (.pointer none) h2
  have h4 := heap_setCell_same _ bc 9 _ 55 (.bool false) h3
  have h5 := heap_setCell_same _ bc 10 _ 55 (.pointer none) h4
  generalize hW : ((((w.setCell ⟨bc, 6, none⟩ (.string ⟨#[78, 79, 78, 69]⟩)).setCell ⟨bc, 7, none⟩ (.pointer (some ⟨w.heap.size, 0, none⟩))).setCell ⟨bc, 8, none⟩ (.pointer none)).setCell ⟨bc, 9, none⟩ (.bool false)).setCell ⟨bc, 10, none⟩ (.pointer none) = W5 at h5 ⊢
  have hsz : W5.heap.size = w.heap.size := by rw [← hW]; simp
  have hg : w.grownBy W5 (some bc) := by
    rw [← hW]
    exact ((((grown_set _ _ _ _).trans (grown_set _ _ _ _)).trans (grown_set _ _ _ _)).trans (grown_set _ _ _ _)).trans (grown_set _ _ _ _)
  refine ⟨grown_drew ((hg.trans (World.grownBy_alloc _ _ _)).trans (World.grownBy_alloc _ _ _)), ?_, ?_, ?_⟩
  · show ((W5.alloc _).alloc _).heap[bc]? = _
    rw [(MapKept.heap_alloc (W5.alloc _) _).2 bc (by simp; omega), (MapKept.heap_alloc W5 _).2 bc (by omega), h5]
    rfl
  · show ((W5.alloc _).alloc _).heap[w.heap.size]? = _
    rw [(MapKept.heap_alloc (W5.alloc _) _).2 w.heap.size (by simp; omega), ← hsz, (MapKept.heap_alloc W5 _).1]
  · show ((W5.alloc _).alloc _).heap[w.heap.size + 1]? = _
    have := (MapKept.heap_alloc (W5.alloc (.cells #[.int .u64 0, .int .u64 0, .pointer none, .int .u32 teid] 40)) (.cells #[.string asker, .pointer (some ⟨ba, 0, none⟩), .nilIface] 115)).1
    rw [← hsz]
    simpa using this

set_option maxHeartbeats 1000000 in
set_option maxRecDepth 100000 in
theorem carried_mod (bs bc bp br ba : Nat) (asker : ByteArray) (teid : Int) (c0 c1 c2 c3 c4 c5 c6 c7 c8 c9 c10 c11 : Value) (w : World)
    (hp0 : w.cell? ⟨bp, 0, none⟩ = some (.string asker)) (hp1 : w.cell? ⟨bp, 1, none⟩ = some (.iface 59 (.pointer (some ⟨br, 0, none⟩)))) (hp2 : w.cell? ⟨bp, 2, none⟩ = some (.pointer (some ⟨ba, 0, none⟩)))
    (hr2 : w.cell? ⟨br, 2, none⟩ = some (.int .u64 0)) (hr3 : w.cell? ⟨br, 3, none⟩ = some (.int .u64 0)) (hr4 : w.cell? ⟨br, 4, none⟩ = some (.pointer none)) (hr5 : w.cell? ⟨br, 5, none⟩ = some (.int .u32 teid))
    (hC : w.heap[bc]? = some (.cells #[c0, c1, c2, c3, c4, c5, c6, c7, c8, c9, c10, c11] 55 (0, 0))) (hbp : bp < w.heap.size) (hbr : br < w.heap.size) (hpc : ¬ bp = bc) :
    Calls Yba.prog 10 #[.pointer (some ⟨bs, 0, none⟩), .pointer (some ⟨bc, 0, none⟩), .pointer (some ⟨bp, 0, none⟩)] w fun e w' => e = .returned (.slice (some ⟨w.heap.size + 1, 0, none⟩) 1 1) ∧ Switched w w' bc asker ba teid c0 c1 c2 c3 c4 c5 c11 := by
  have hbc : bc < w.heap.size := (Array.getElem?_eq_some_iff.1 hC).1
  have hc6 : w.cell? ⟨bc, 6, none⟩ = some c6 := by simp [World.cell?, hC]
  have hc7 : w.cell? ⟨bc, 7, none⟩ = some c7 := by simp [World.cell?, hC]
  have hc8 : w.cell? ⟨bc, 8, none⟩ = some c8 := by simp [World.cell?, hC]
  have hc9 : w.cell? ⟨bc, 9, none⟩ = some c9 := by simp [World.cell?, hC]
  have hc10 : w.cell? ⟨bc, 10, none⟩ = some c10 := by simp [World.cell?, hC]
  have hf : ∀ o, w.frozen? ⟨bc, o, none⟩ = false := fun o => frozen_of_row w bc o _ _ hC
  have HS : Hid _ := switched_mk w bc asker ba teid c0 c1 c2 c3 c4 c5 c6 c7 c8 c9 c10 c11 hC
  have hta := ta59
  clear hC
  go_enter Yba.func10, Yba.ntmps10
  go_wp2
  go_region
  go_wp2
  go_ret
  exact ⟨rfl, HS.out⟩

end Go.Proofs.Ybulkadhw
