import Derived.Test.Qxb6619195aModsLeaf
namespace Go.Proofs.Qxb6619195aMods
open Go.RowKit
set_option linter.unusedVariables false

set_option maxHeartbeats 400000 in
theorem hbytes_any (x0 x1 x2 : Int) (s : Bool) (a1 : Option Addr) (len1 cap1 : Nat) (a2 : Option Addr) (len2 cap2 : Nat) (w : World) (h1 : len1 ≤ maxLen) (h2 : len2 ≤ maxLen) :
    Calls Trym.prog 13 #[.int .i64 x0, .int .i64 x1, .int .i64 x2, .bool s, .slice a1 len1 cap1, .slice a2 len2 cap2] w fun e w' => ∃ b, e = .returned (.bool b) ∧ w = w' := by
  unfold maxLen at h1 h2
  go_enter Trym.func13, Trym.ntmps13
  go_wp2
  all_goals (go_ret; exact ⟨_, rfl, rfl⟩)

/-- zzOut -/
def outB (x : Int) : Bool := decide (1099511627776 < x ∨ x < -1099511627776)
theorem outB_no {x : Int} (h : outB x = false) : -1099511627776 ≤ x ∧ x ≤ 1099511627776 := by
  unfold outB at h
  have := of_decide_eq_false h
  omega
theorem ret_bool {a b : Bool} (h : a = b) : Ending.returned (.bool a) = .returned (.bool b) := by rw [h]

set_option maxHeartbeats 400000 in
theorem out_any (x : Int) (w : World) : Calls Trym.prog 14 #[.int .i64 x] w fun e w' => e = .returned (.bool (outB x)) ∧ w' = w := by
  by_cases h1 : 1099511627776 < x
  · go_enter Trym.func14, Trym.ntmps14
    go_wp2
    go_ret
    exact ⟨ret_bool (by unfold outB; simp [h1]), rfl⟩
  · by_cases h2 : x < -1099511627776
    · go_enter Trym.func14, Trym.ntmps14
      go_wp2
      go_ret
      exact ⟨ret_bool (by unfold outB; simp [h2]), rfl⟩
    · go_enter Trym.func14, Trym.ntmps14
      go_wp2
      go_ret
      exact ⟨ret_bool (by unfold outB; simp [h1, h2]), rfl⟩

theorem out_any' (x : Int) (w : World) : Calls Trym.prog 14 #[.int .i64 x] w fun e w' => e = .returned (.bool (outB x)) ∧ w = w' :=
  (out_any x w).mono fun e w' ⟨h, k⟩ => ⟨h, k.symm⟩

theorem out_yes (x : Int) (w : World) (h : outB x = true) : Calls Trym.prog 14 #[.int .i64 x] w fun e w' => e = .returned (.bool true) ∧ w' = w :=
  (out_any x w).mono fun e w' ⟨h1, k⟩ => ⟨by rw [h1, h], k⟩
theorem out_not (x : Int) (w : World) (h : outB x = false) : Calls Trym.prog 14 #[.int .i64 x] w fun e w' => e = .returned (.bool false) ∧ w' = w :=
  (out_any x w).mono fun e w' ⟨h1, k⟩ => ⟨by rw [h1, h], k⟩

end Go.Proofs.Qxb6619195aMods
