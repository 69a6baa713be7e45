import Derived.Test.Qxb6615632aModsRows
import Derived.WalkKit
import Derived.WalkSpells
import Derived.WalkLawsBesides
import Derived.Deep.LoopGhost
import Derived.Deep.Light
namespace Go.Proofs.Qxb6615632aMods
open Go.RowKit
set_option linter.unusedVariables false

/-- limited, of a key that is not nil -/
def limB (r t : Int) : Bool := decide (0 < r) || decide (0 < t)
theorem limB_left {r t : Int} (h : 0 < r) : limB r t = true := by simp [limB, h]
theorem limB_right {r t : Int} (h : 0 < t) : limB r t = true := by simp [limB, h]
theorem limB_none {r t : Int} (h : ¬ 0 < r) (k : ¬ 0 < t) : limB r t = false := by simp [limB, h, k]
theorem ret_bool {a b : Bool} (h : a = b) : Ending.returned (.bool a) = .returned (.bool b) := by rw [h]

set_option maxHeartbeats 400000 in
theorem lim10 (b : Nat) (r t : Int) (w : World) (h6 : w.cell? ⟨b, 6, none⟩ = some (.int .i64 r)) (h7 : w.cell? ⟨b, 7, none⟩ = some (.int .i64 t)) :
    Calls Trym.prog 10 #[.pointer (some ⟨b, 0, none⟩)] w fun e w' => e = .returned (.bool (limB r t)) ∧ w = w' := by
  by_cases hr : 0 < r
  · go_enter Trym.func10, Trym.ntmps10
    go_wp2
    go_ret
    exact ⟨ret_bool (limB_left hr).symm, rfl⟩
  · by_cases ht : 0 < t
    · go_enter Trym.func10, Trym.ntmps10
      go_wp2
      go_ret
      exact ⟨ret_bool (limB_right ht).symm, rfl⟩
    · go_enter Trym.func10, Trym.ntmps10
      go_wp2
      go_ret
      exact ⟨ret_bool (limB_none (by omega) (by omega)).symm, rfl⟩

set_option maxHeartbeats 400000 in
theorem lim8 (b : Nat) (r t : Int) (w : World) (h6 : w.cell? ⟨b, 6, none⟩ = some (.int .i64 r)) (h7 : w.cell? ⟨b, 7, none⟩ = some (.int .i64 t)) :
    Calls Trym.prog 8 #[.pointer (some ⟨b, 0, none⟩)] w fun e w' => e = .returned (.bool (limB r t)) ∧ w = w' := by
  go_enter Trym.func8, Trym.ntmps8
  go_wp2_with (go_at_call 10; refine (lim10 b r t _ h6 h7).mono ?_; rintro e w' ⟨rfl, rfl⟩)
  go_ret
  exact ⟨rfl, rfl⟩

set_option maxHeartbeats 400000 in
theorem lim8_nil (w : World) : Calls Trym.prog 8 #[.pointer none] w fun e w' => e = .returned (.bool false) ∧ w = w' := by
  go_enter Trym.func8, Trym.ntmps8
  go_wp2
  go_ret
  exact ⟨rfl, rfl⟩

set_option maxRecDepth 100000 in
set_option maxHeartbeats 1000000 in
theorem bytes7 (nm ky : ByteArray) (a : Option Addr) (n cap : Nat) (r t : Int) (w : World) (b o : Nat) (s : Nat → ByteArray) (hnm : nm.size ≤ maxLen) (hky : ky.size ≤ maxLen) (hn : n ≤ maxLen) (ha : 0 < n → a = some ⟨b, o, none⟩)
    (hc : ∀ j, j < n → w.cell? ⟨b, o + j, none⟩ = some (.string (s j))) (hs : ∀ j, j < n → (s j).size ≤ maxLen) :
    Calls Trym.prog 7 #[.string nm, .string ky, .slice a n cap, .int .i64 r, .int .i64 t] w fun e w' => ∃ b : Bool, e = .returned (.bool b) ∧ w = w' := by
  unfold maxLen at hnm hky hn hs
  have HC : Hid (∀ j, j < n → w.cell? ⟨b, o + j, none⟩ = some (.string (s j))) := hc
  have HS : Hid (∀ j, j < n → (s j).size ≤ 2 ^ 63 - 1) := hs
  have HA : Hid (0 < n → a = some ⟨b, o, none⟩) := ha
  clear hc hs ha
  by_cases c1 : nm.size + ky.size + n ≤ 1048576
  · go_enter Trym.func7, Trym.ntmps7
    go_wp2
    go_loopg [11, 12] n (fun gk z i wr => ∃ (k : Nat) (z0 : Int), k ≤ n ∧ gk = n - k ∧ i = .int .i64 k ∧ z = .int .i64 z0 ∧ 0 ≤ z0 ∧ z0 ≤ 1048576 ∧ w = wr)
    case atStart => exact ⟨0, _, Nat.zero_le _, rfl, rfl, rfl, by omega, by omega, rfl⟩
    case round =>
      obtain ⟨k, z0, hk, rfl, rfl, rfl, hz0, hz, rfl⟩ := hrel
      by_cases hlt : k < n
      · have e := HA.out (by omega)
        subst e
        have ck := HC.out k hlt
        have sk := HS.out k hlt
        by_cases h1 : 1048576 < ((s k).size : Int)
        · go_wp2
          go_ret
          first | exact ⟨_, rfl, rfl⟩ | exact ⟨.inl rfl, rfl⟩ | exact ⟨.inr rfl, rfl⟩
        · by_cases h2 : z0 + ((s k).size : Int) ≤ 1048576
          · go_wp2
            go_roundg (n - (k + 1))
            case measure => omega
            case rel => exact ⟨k + 1, z0 + ((s k).size : Int), by omega, rfl, by go_num, rfl, by omega, by omega, rfl⟩
          · go_wp2
            go_ret
            first | exact ⟨_, rfl, rfl⟩ | exact ⟨.inl rfl, rfl⟩ | exact ⟨.inr rfl, rfl⟩
      · go_wp2
        go_ret
        first | exact ⟨_, rfl, rfl⟩ | exact ⟨.inl rfl, rfl⟩ | exact ⟨.inr rfl, rfl⟩
  · have c2 : 1048576 < nm.size ∨ (nm.size ≤ 1048576 ∧ 1048576 < ky.size) ∨ (nm.size ≤ 1048576 ∧ ky.size ≤ 1048576 ∧ 1048576 < nm.size + ky.size) ∨ (nm.size + ky.size ≤ 1048576 ∧ 1048576 < n) ∨ (nm.size + ky.size ≤ 1048576 ∧ n ≤ 1048576 ∧ 1048576 < nm.size + ky.size + n) := by omega
    clear c1
    rcases c2 with c | ⟨c1, c⟩ | ⟨c1, c2, c⟩ | ⟨c1, c⟩ | ⟨c1, c2, c⟩
    all_goals
      go_enter Trym.func7, Trym.ntmps7
      go_wp2
      go_ret
      first | exact ⟨_, rfl, rfl⟩ | exact ⟨.inl rfl, rfl⟩ | exact ⟨.inr rfl, rfl⟩
end Go.Proofs.Qxb6615632aMods
