import Derived.Test.Qxb6615632aModsLeaf
namespace Go.Proofs.Qxb6615632aMods
open Go.RowKit
set_option linter.unusedVariables false

set_option maxRecDepth 100000 in
set_option maxHeartbeats 1000000 in
theorem law (nm ky : ByteArray) (a : Option Addr) (n cap : Nat) (r t : Int) (w : World) (b o : Nat) (s : Nat → ByteArray) (hnm : nm.size ≤ maxLen) (hky : ky.size ≤ maxLen) (hn : n ≤ maxLen) (ha : 0 < n → a = some ⟨b, o, none⟩)
    (hc : ∀ j, j < n → w.cell? ⟨b, o + j, none⟩ = some (.string (s j))) (hs : ∀ j, j < n → (s j).size ≤ maxLen) :
    Calls Trym.prog 4 #[.string nm, .string ky, .slice a n cap, .int .i64 r, .int .i64 t] w fun e w' => e = .returned (.bool true) ∧ Below w.heap.size w w' := by
  have HB : Hid (Calls Trym.prog 7 #[.string nm, .string ky, .slice a n cap, .int .i64 r, .int .i64 t] w fun e w' => ∃ b : Bool, e = .returned (.bool b) ∧ w = w') := bytes7 nm ky a n cap r t w b o s hnm hky hn ha hc hs
  unfold maxLen at hnm hky hn hs
  have HC : Hid (∀ j, j < n → w.cell? ⟨b, o + j, none⟩ = some (.string (s j))) := hc
  have HS : Hid (∀ j, j < n → (s j).size ≤ 2 ^ 63 - 1) := hs
  have HA : Hid (0 < n → a = some ⟨b, o, none⟩) := ha
  clear hc hs ha
  by_cases c1 : nm.size + ky.size ≤ 1048576
  · go_enter Trym.func4, Trym.ntmps4
    go_wp2_with (go_at_call 7; refine HB.out.mono ?_; rintro e w' ⟨rb, rfl, rfl⟩)
    · go_ret; exact ⟨rfl, Below.refl _ _⟩
    go_loopg [11, 12] n (fun gk z i wr => ∃ (k : Nat) (z0 : Int), k ≤ n ∧ gk = n - k ∧ i = .int .i64 k ∧ z = .int .i64 z0 ∧ 0 ≤ z0 ∧ z0 ≤ 1048576 ∧ w = wr)
    case atStart => exact ⟨0, _, Nat.zero_le _, rfl, rfl, rfl, by omega, by omega, rfl⟩
    case round =>
      obtain ⟨k, z0, hk, rfl, rfl, rfl, hz0, hz, rfl⟩ := hrel
      by_cases hlt : k < n
      · have e := HA.out (by omega)
        subst e
        have ck := HC.out k hlt
        have sk := HS.out k hlt
        by_cases h1 : 1048576 < ((s k).size : Int)
        · go_wp2
          go_ret
          exact ⟨rfl, Below.refl _ _⟩
        · by_cases h2 : z0 + (16 + ((s k).size : Int)) ≤ 1048576
          · go_wp2
            go_roundg (n - (k + 1))
            case measure => omega
            case rel => exact ⟨k + 1, z0 + (16 + ((s k).size : Int)), by omega, rfl, by go_num, rfl, by omega, by omega, rfl⟩
          · go_wp2
            go_ret
            exact ⟨rfl, Below.refl _ _⟩
      · go_wp2_with fail
        by_cases hr : 0 < r
        · by_cases ht : 0 < t
          · skip
            have e1 : limB r t = true := limB_left hr
            have e2 : limB r 0 = true := limB_left hr
            have e3 : limB 0 t = true := limB_right ht
            have e4 : limB t r = true := limB_left ht
            refine (lim8 w.heap.size r t _ (by go_simp) (by go_simp)).mono ?_
            rw [e1]
            rintro e w1 ⟨rfl, rfl⟩
            go_wp2_with fail
            refine (lim8 (w.heap.size + 1) r 0 _ (by go_simp) (by go_simp)).mono ?_
            rw [e2]
            rintro e w1 ⟨rfl, rfl⟩
            go_wp2_with fail
            refine (lim8 (w.heap.size + 2) 0 t _ (by go_simp) (by go_simp)).mono ?_
            rw [e3]
            rintro e w1 ⟨rfl, rfl⟩
            go_wp2_with fail
            refine (lim8 (w.heap.size + 3) t r _ (by go_simp) (by go_simp)).mono ?_
            rw [e4]
            rintro e w1 ⟨rfl, rfl⟩
            clear e1 e2 e3 e4
            go_wp2_with (go_at_call 8; refine (lim8_nil _).mono ?_; rintro e w1 ⟨rfl, rfl⟩)
            go_ret
            exact ⟨rfl, ((((Below.refl _ _).alloc (Nat.le_refl _) _).alloc (by simp) _).alloc (by simp; omega) _).alloc (by simp; omega) _⟩
          · skip
            have e1 : limB r t = true := limB_left hr
            have e2 : limB r 0 = true := limB_left hr
            have e3 : limB 0 t = false := limB_none (by omega) ht
            have e4 : limB t r = true := limB_right hr
            refine (lim8 w.heap.size r t _ (by go_simp) (by go_simp)).mono ?_
            rw [e1]
            rintro e w1 ⟨rfl, rfl⟩
            go_wp2_with fail
            refine (lim8 (w.heap.size + 1) r 0 _ (by go_simp) (by go_simp)).mono ?_
            rw [e2]
            rintro e w1 ⟨rfl, rfl⟩
            go_wp2_with fail
            refine (lim8 (w.heap.size + 2) 0 t _ (by go_simp) (by go_simp)).mono ?_
            rw [e3]
            rintro e w1 ⟨rfl, rfl⟩
            go_wp2_with fail
            refine (lim8 (w.heap.size + 3) t r _ (by go_simp) (by go_simp)).mono ?_
            rw [e4]
            rintro e w1 ⟨rfl, rfl⟩
            clear e1 e2 e3 e4
            go_wp2_with (go_at_call 8; refine (lim8_nil _).mono ?_; rintro e w1 ⟨rfl, rfl⟩)
            go_ret
            exact ⟨rfl, ((((Below.refl _ _).alloc (Nat.le_refl _) _).alloc (by simp) _).alloc (by simp; omega) _).alloc (by simp; omega) _⟩
        · by_cases ht : 0 < t
          · skip
            have e1 : limB r t = true := limB_right ht
            have e2 : limB r 0 = false := limB_none hr (by omega)
            have e3 : limB 0 t = true := limB_right ht
            have e4 : limB t r = true := limB_left ht
            refine (lim8 w.heap.size r t _ (by go_simp) (by go_simp)).mono ?_
            rw [e1]
            rintro e w1 ⟨rfl, rfl⟩
            go_wp2_with fail
            refine (lim8 (w.heap.size + 1) r 0 _ (by go_simp) (by go_simp)).mono ?_
            rw [e2]
            rintro e w1 ⟨rfl, rfl⟩
            go_wp2_with fail
            refine (lim8 (w.heap.size + 2) 0 t _ (by go_simp) (by go_simp)).mono ?_
            rw [e3]
            rintro e w1 ⟨rfl, rfl⟩
            go_wp2_with fail
            refine (lim8 (w.heap.size + 3) t r _ (by go_simp) (by go_simp)).mono ?_
            rw [e4]
            rintro e w1 ⟨rfl, rfl⟩
            clear e1 e2 e3 e4
            go_wp2_with (go_at_call 8; refine (lim8_nil _).mono ?_; rintro e w1 ⟨rfl, rfl⟩)
            go_ret
            exact ⟨ret_bool (by rw [show decide (1 ≤ r) = false from decide_eq_false (by omega)]; rfl), ((((Below.refl _ _).alloc (Nat.le_refl _) _).alloc (by simp) _).alloc (by simp; omega) _).alloc (by simp; omega) _⟩
          · skip
            have e1 : limB r t = false := limB_none hr ht
            have e2 : limB r 0 = false := limB_none hr (by omega)
            have e3 : limB 0 t = false := limB_none (by omega) ht
            have e4 : limB t r = false := limB_none ht hr
            refine (lim8 w.heap.size r t _ (by go_simp) (by go_simp)).mono ?_
            rw [e1]
            rintro e w1 ⟨rfl, rfl⟩
            go_wp2_with fail
            refine (lim8 (w.heap.size + 1) r 0 _ (by go_simp) (by go_simp)).mono ?_
            rw [e2]
            rintro e w1 ⟨rfl, rfl⟩
            go_wp2_with fail
            refine (lim8 (w.heap.size + 2) 0 t _ (by go_simp) (by go_simp)).mono ?_
            rw [e3]
            rintro e w1 ⟨rfl, rfl⟩
            go_wp2_with fail
            refine (lim8 (w.heap.size + 3) t r _ (by go_simp) (by go_simp)).mono ?_
            rw [e4]
            rintro e w1 ⟨rfl, rfl⟩
            clear e1 e2 e3 e4
            go_wp2_with (go_at_call 8; refine (lim8_nil _).mono ?_; rintro e w1 ⟨rfl, rfl⟩)
            go_ret
            exact ⟨ret_bool (by rw [show decide (1 ≤ r) = false from decide_eq_false (by omega)]; rfl), ((((Below.refl _ _).alloc (Nat.le_refl _) _).alloc (by simp) _).alloc (by simp; omega) _).alloc (by simp; omega) _⟩
  · have c2 : 1048576 < nm.size ∨ (nm.size ≤ 1048576 ∧ 1048576 < ky.size) ∨ (nm.size ≤ 1048576 ∧ ky.size ≤ 1048576 ∧ 1048576 < nm.size + ky.size) := by omega
    clear c1
    rcases c2 with c | ⟨c1, c⟩ | ⟨c1, c2, c⟩
    all_goals
      go_enter Trym.func4, Trym.ntmps4
      go_wp2_with (go_at_call 7; refine HB.out.mono ?_; rintro e w' ⟨rb, rfl, rfl⟩)
      all_goals (go_ret; exact ⟨rfl, Below.refl _ _⟩)
end Go.Proofs.Qxb6615632aMods
