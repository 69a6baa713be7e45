import Derived.Test.Qxb6614436aModsReads
namespace Go.Proofs.Qxb6614436aMods
open Go.RowKit
set_option linter.unusedVariables false

set_option maxRecDepth 100000 in
set_option maxHeartbeats 1000000 in
theorem law_long (a : Option Addr) (n cap : Nat) (w : World) (hn : 4096 < n) (hm : n ≤ maxLen) : Calls Trym.prog 3 #[.slice a n cap] w fun e w' => e = .returned (.bool true) ∧ Below w.heap.size w w' := by
  go_enter Trym.func3, Trym.ntmps3
  go_wp2_with (go_at_call 4; refine (bytes4 _ _ _ _ hm).mono ?_; rintro e w' ⟨rb, rfl, rfl⟩)
  all_goals (go_ret; exact ⟨rfl, Below.refl _ _⟩)

set_option maxRecDepth 100000 in
set_option maxHeartbeats 1000000 in
theorem law_none (a : Option Addr) (cap : Nat) (w : World) : Calls Trym.prog 3 #[.slice a 0 cap] w fun e w' => e = .returned (.bool true) ∧ Below w.heap.size w w' := by
  have hre := replay a 0 cap w (by omega) 0 0 (fun _ => 0) (fun _ => 0) (fun _ => false) (fun h => absurd h (by omega)) (fun h => absurd h (by omega)) (fun t h => absurd h (by omega)) (fun t h => absurd h (by omega)) (fun t h => absurd h (by omega)) (fun t h => absurd h (by omega))
  have HR := hre
  clear hre
  go_enter Trym.func3, Trym.ntmps3
  go_wp2_with (first | (go_at_call 4; refine (bytes4 _ _ _ _ (by unfold maxLen; omega)).mono ?_; rintro e w' ⟨rb, rfl, rfl⟩) | (go_at_call 5; refine HR.mono ?_; rintro e w1 ⟨rfl, hb, hp⟩; have hc : w1.cell? ⟨w.heap.size, 5, none⟩ = some (.map none) := (by rcases hp with ⟨_, h, _⟩ | ⟨h, _⟩; exact h; exact absurd h (by omega)); clear hp) | (go_at_call 6; refine (nil6 _ _ hc).mono ?_; rintro e w' ⟨rfl, rfl⟩))
  · go_ret; exact ⟨rfl, Below.refl _ _⟩
  · go_ret; exact ⟨rfl, hb⟩
end Go.Proofs.Qxb6614436aMods
