import Derived.Test.Qxb6619195aModsLeaf
namespace Go.Proofs.Qxb6619195aMods
open Go.RowKit
set_option linter.unusedVariables false

set_option maxHeartbeats 1000000 in
set_option maxRecDepth 1000000 in
/-- one of the law's first tests says: not in question -/
theorem bnd_early (a0 : Int) (a1 : Option Addr) (len1 cap1 : Nat) (a2 : Option Addr) (len2 cap2 : Nat) (w : World) (h1 : len1 ≤ maxLen) (h2 : len2 ≤ maxLen)
    (h : ¬ (len1 ≤ 4096 ∧ len2 ≤ 4096 ∧ len1 = len2 ∧ 0 ≤ a0 ∧ a0 ≤ 65536)) :
    Calls Trym.prog 6 #[.int .i64 a0, .slice a1 len1 cap1, .slice a2 len2 cap2] w fun e w' => e = .returned (.bool true) ∧ Below w.heap.size w w' := by
  have c : 4096 < len1 ∨ (len1 ≤ 4096 ∧ 4096 < len2) ∨ (len1 ≤ 4096 ∧ len2 ≤ 4096 ∧ a0 < 0) ∨ (len1 ≤ 4096 ∧ len2 ≤ 4096 ∧ 65536 < a0) ∨ (len1 ≤ 4096 ∧ len2 ≤ 4096 ∧ 0 ≤ a0 ∧ a0 ≤ 65536 ∧ len1 ≠ len2) := by omega
  clear h
  rcases c with c | ⟨c1, c⟩ | ⟨c1, c2, c⟩ | ⟨c1, c2, c⟩ | ⟨c1, c2, c3, c4, c⟩
  case inr.inr.inr.inr =>
    have c' : ((len1 : Int) != (len2 : Int)) = true := by simp; omega
    go_enter Trym.func6, Trym.ntmps6
    go_wp2_with (go_at_call 16; refine (bytes_any _ _ _ _ _ _ _ _ h1 h2).mono ?_; rintro e w' ⟨rb, rfl, rfl⟩)
    all_goals (go_ret; exact ⟨rfl, Below.refl _ _⟩)
  all_goals
    go_enter Trym.func6, Trym.ntmps6
    go_wp2_with (go_at_call 16; refine (bytes_any _ _ _ _ _ _ _ _ h1 h2).mono ?_; rintro e w' ⟨rb, rfl, rfl⟩)
    all_goals (go_ret; exact ⟨rfl, Below.refl _ _⟩)

end Go.Proofs.Qxb6619195aMods
