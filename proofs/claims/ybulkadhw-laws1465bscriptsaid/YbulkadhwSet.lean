/-
  (*schedule).setTimer (15), AS ONE CONTRACT.
-/
import Derived.Test.YbulkadhwStartNil
import Derived.Test.YbulkadhwStartTab
import Derived.Test.YbulkadhwState
namespace Go.Proofs.Ybulkadhw
open Go.RowKit Go.Tab

/-- What setTimer makes of the map of timers and of the count. st: a stop. -/
def setT (st : Bool) (T : TT) (x : ByteArray × Int) (sq : Int) : TT := if st then del T x else put (del T x) x sq
def setQ (st : Bool) (sq : Int) : Int := if st then sq else sq + 1

theorem set_any {base bs : Nat} {sq : Int} {qv m : Value} {Q : List QI} {K : Nat} {T : TT} {w : World} (s : ByteArray) (t aft : Int) (st : Bool) (h : SOk base w bs sq qv m Q) (hT : TOk base w m T) (hQ : Q.length ≤ 1023) (hK : K ≤ 1023) (hn : ∀ q ∈ Q, q.n ≤ K) (hbw : base ≤ w.heap.size)
    (hs0 : 0 ≤ sq) (hs1 : sq ≤ 4096) (ha0 : 0 ≤ aft) (ha1 : aft ≤ 65535) :
    Calls Yba.prog 15 #[.pointer (some ⟨bs, 0, none⟩), .agg #[.string s, .string ⟨#[]⟩, .int .u8 6, .slice none 0 0, .iface 3 (.int .i64 t), .int .u64 0, .int .i64 aft, .bool st]] w fun e w' => e = .returned (.tuple #[]) ∧ TimerOk base w bs qv m Q K (setQ st sq) (setT st T (s, t) sq) w' := by
  rcases hT with ⟨rfl, rfl⟩ | ⟨B, rfl, hB, ht⟩
  · have e : del ([] : TT) (s, t) = [] := del_none (idx_nil _)
    cases st with
    | true => simp only [setT, setQ, if_true, e]; exact timer_stop_nil base bs sq aft qv Q s t K w h hn
    | false => simp only [setT, setQ, e]; exact timer_start_nil base bs sq aft qv Q s t K w h hQ hK hn hbw hs0 hs1 ha0 ha1
  · cases st with
    | true => simp only [setT, setQ, if_true]; exact timer_stop_tab base bs B sq aft qv Q s t K T w h hB ht hn
    | false => simp only [setT, setQ]; exact timer_start_tab base bs B sq aft qv Q s t K T w h hB ht hQ hK hn hbw hs0 hs1 ha0 ha1

end Go.Proofs.Ybulkadhw
