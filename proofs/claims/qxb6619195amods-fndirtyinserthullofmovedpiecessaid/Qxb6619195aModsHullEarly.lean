import Derived.Test.Qxb6619195aModsHullLeaf
namespace Go.Proofs.Qxb6619195aMods
open Go.RowKit
set_option linter.unusedVariables false

set_option maxHeartbeats 1000000 in
set_option maxRecDepth 1000000 in
/-- one of the law's first tests says: not in question -/
theorem hull_early (f0 t0 d0 : Int) (s0 : Bool) (a1 : Option Addr) (len1 cap1 : Nat) (a2 : Option Addr) (len2 cap2 : Nat) (w : World) (h1 : len1 ≤ maxLen) (h2 : len2 ≤ maxLen)
    (h : ¬ (len1 ≤ 4096 ∧ len2 ≤ 4096 ∧ len1 = len2 ∧ outB f0 = false ∧ outB t0 = false ∧ outB d0 = false ∧ (s0 = true → f0 ≤ t0))) :
    Calls Trym.prog 5 #[.int .i64 f0, .int .i64 t0, .int .i64 d0, .bool s0, .slice a1 len1 cap1, .slice a2 len2 cap2] w fun e w' => e = .returned (.bool true) ∧ Below w.heap.size w w' := by
  by_cases c1 : 4096 < len1
  · go_enter Trym.func5, Trym.ntmps5
    go_wp2_with (go_at_call 13; refine (hbytes_any _ _ _ _ _ _ _ _ _ _ _ h1 h2).mono ?_; rintro e w' ⟨rb, rfl, rfl⟩)
    all_goals (go_ret; exact ⟨rfl, Below.refl _ _⟩)
  by_cases c2 : 4096 < len2
  · go_enter Trym.func5, Trym.ntmps5
    go_wp2_with (go_at_call 13; refine (hbytes_any _ _ _ _ _ _ _ _ _ _ _ h1 h2).mono ?_; rintro e w' ⟨rb, rfl, rfl⟩)
    all_goals (go_ret; exact ⟨rfl, Below.refl _ _⟩)
  by_cases c3 : len1 = len2
  case neg =>
    have c' : ((len1 : Int) != (len2 : Int)) = true := by simp; omega
    clear h
    go_enter Trym.func5, Trym.ntmps5
    go_wp2_with (go_at_call 13; refine (hbytes_any _ _ _ _ _ _ _ _ _ _ _ h1 h2).mono ?_; rintro e w' ⟨rb, rfl, rfl⟩)
    all_goals (go_ret; exact ⟨rfl, Below.refl _ _⟩)
  subst c3
  by_cases c4 : outB f0 = true
  · clear h
    go_enter Trym.func5, Trym.ntmps5
    go_wp2_with (first | (go_at_call 13; refine (hbytes_any _ _ _ _ _ _ _ _ _ _ _ h1 h2).mono ?_; rintro e w' ⟨rb, rfl, rfl⟩) | (go_at_call 14; refine (out_any' _ _).mono ?_; rintro e w' ⟨rfl, rfl⟩))
    all_goals (go_ret; exact ⟨rfl, Below.refl _ _⟩)
  have d4 : outB f0 = false := by simpa using c4
  clear c4
  by_cases c5 : outB t0 = true
  · clear h
    go_enter Trym.func5, Trym.ntmps5
    go_wp2_with (first | (go_at_call 13; refine (hbytes_any _ _ _ _ _ _ _ _ _ _ _ h1 h2).mono ?_; rintro e w' ⟨rb, rfl, rfl⟩) | (go_at_call 14; refine (out_any' _ _).mono ?_; rintro e w' ⟨rfl, rfl⟩))
    all_goals (go_ret; exact ⟨rfl, Below.refl _ _⟩)
  have d5 : outB t0 = false := by simpa using c5
  clear c5
  by_cases c6 : outB d0 = true
  · clear h
    go_enter Trym.func5, Trym.ntmps5
    go_wp2_with (first | (go_at_call 13; refine (hbytes_any _ _ _ _ _ _ _ _ _ _ _ h1 h2).mono ?_; rintro e w' ⟨rb, rfl, rfl⟩) | (go_at_call 14; refine (out_any' _ _).mono ?_; rintro e w' ⟨rfl, rfl⟩))
    all_goals (go_ret; exact ⟨rfl, Below.refl _ _⟩)
  have d6 : outB d0 = false := by simpa using c6
  clear c6
  have c7 : s0 = true ∧ t0 < f0 := by
    cases s0
    · exact absurd ⟨by omega, by omega, rfl, d4, d5, d6, fun e => by cases e⟩ h
    · refine ⟨rfl, ?_⟩
      by_cases e : t0 < f0
      · exact e
      · exact absurd ⟨by omega, by omega, rfl, d4, d5, d6, fun _ => by omega⟩ h
  obtain ⟨rfl, c7⟩ := c7
  clear h
  go_enter Trym.func5, Trym.ntmps5
  go_wp2_with (first | (go_at_call 13; refine (hbytes_any _ _ _ _ _ _ _ _ _ _ _ h1 h2).mono ?_; rintro e w' ⟨rb, rfl, rfl⟩) | (go_at_call 14; refine (out_any' _ _).mono ?_; rintro e w' ⟨rfl, rfl⟩))
  all_goals (go_ret; exact ⟨rfl, Below.refl _ _⟩)

end Go.Proofs.Qxb6619195aMods
