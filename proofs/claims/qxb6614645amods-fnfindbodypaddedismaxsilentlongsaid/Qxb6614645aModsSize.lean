import Derived.Test.Qxb6614645aModsRows
import Derived.WalkKit
import Derived.WalkSpells
import Derived.WalkLawsBesides
import Derived.Laws.Tables
import Derived.Deep.MidRow
namespace Go.Proofs.Qxb6614645aMods
open Go.RowKit
set_option linter.unusedVariables false

theorem Trym.size34 : (Trym.prog.info? 34).map (·.size) = some 114 := by kernel_rfl

/-- findBody.bodySize -/
def bodyLen (n : Nat) (p : Bool) : Int := 32 + 50 * (if p then 20 else (n : Int))

theorem ret_int {k : IntKind} {a b : Int} (h : a = b) : Ending.returned (.int k a) = .returned (.int k b) := by rw [h]

set_option maxHeartbeats 400000 in
theorem size7 (cs : Array Value) (ao : Option Addr) (n c : Nat) (p : Bool) (w : World) (h1 : cs[109]? = some (.slice ao n c)) (h2 : cs[110]? = some (.bool p)) (hn : n ≤ 32768) :
    Calls Trym.prog 7 #[.agg #[], .agg cs] w fun e w' => e = .returned (.int .i64 (bodyLen n p)) ∧ Below w.heap.size w w' := by
  cases p
  all_goals
    go_enter Trym.func7, Trym.ntmps7
    go_wp2
    go_ret
    exact ⟨ret_int (by simp [bodyLen]), ((Below.refl _ _).alloc (Nat.le_refl _) _).alloc (by simp) _⟩

set_option maxHeartbeats 400000 in
theorem size5 (cs : Array Value) (ao : Option Addr) (n c : Nat) (p : Bool) (w : World) (hs : cs.size = 114) (h1 : cs[109]? = some (.slice ao n c)) (h2 : cs[110]? = some (.bool p)) (hn : n ≤ 32768) :
    Calls Trym.prog 5 #[.agg cs] w fun e w' => e = .returned (.int .i64 (bodyLen n p)) ∧ Below w.heap.size w w' := by
  have HS : Hid (cs.size = 114) := hs
  clear hs
  go_enter Trym.func5, Trym.ntmps5
  go_wp2_with (first | (go_at_call 7; refine (size7 cs ao n c p _ h1 h2 hn).mono ?_; rintro e w' ⟨rfl, hb⟩) | (refine wpList_load_row rfl 34 _ rfl w.heap.size rfl 34 cs (0, 0) _ (heap_alloc_new w _) Trym.underlying34 rfl (by rw [HS.out]; exact Trym.size34) ?_))
  go_ret
  exact ⟨rfl, ((Below.refl _ _).alloc (Nat.le_refl _) _).trans (hb.mono (by simp))⟩
end Go.Proofs.Qxb6614645aMods
