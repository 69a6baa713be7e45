import Derived.Test.Qxb6614645aModsMsgOn
namespace Go.Proofs.Qxb6614645aMods
open Go.RowKit
set_option linter.unusedVariables false

set_option maxRecDepth 100000 in
set_option maxHeartbeats 1000000 in
theorem bytes4 (a : Option Addr) (n cap : Nat) (w : World) (h : n ≤ maxLen) : Calls Trym.prog 4 #[.slice a n cap] w fun e w' => ∃ b, e = .returned (.bool b) ∧ w = w' := by
  unfold maxLen at h
  by_cases hn : 1048576 < n
  · go_enter Trym.func4, Trym.ntmps4
    go_wp2
    go_ret
    exact ⟨_, rfl, rfl⟩
  · go_enter Trym.func4, Trym.ntmps4
    go_wp2
    go_loopg [3, 4] n (fun gk z i wr => ∃ (k : Nat) (z0 : Int), k ≤ n ∧ gk = n - k ∧ i = .int .i64 k ∧ z = .int .i64 z0 ∧ 0 ≤ z0 ∧ z0 ≤ 1048576 ∧ w = wr)
    case atStart => exact ⟨0, (n : Int), Nat.zero_le _, rfl, rfl, by go_num, by omega, by omega, rfl⟩
    case round =>
      obtain ⟨k, z0, hk, rfl, rfl, rfl, hz0, hz, rfl⟩ := hrel
      by_cases hlt : k < n
      · by_cases hz2 : z0 + 32 ≤ 1048576
        · go_wp2
          go_roundg (n - (k + 1))
          case measure => omega
          case rel => exact ⟨k + 1, z0 + 32, by omega, rfl, by go_num, by go_num, by omega, by omega, rfl⟩
        · go_wp2
          go_ret
          first | exact ⟨_, rfl, rfl⟩ | exact ⟨.inl rfl, rfl⟩ | exact ⟨.inr rfl, rfl⟩
      · go_wp2
        go_ret
        first | exact ⟨_, rfl, rfl⟩ | exact ⟨.inl rfl, rfl⟩ | exact ⟨.inr rfl, rfl⟩

set_option maxRecDepth 100000 in
set_option maxHeartbeats 1000000 in
theorem law_long (a : Option Addr) (n cap : Nat) (w : World) (hn : 32768 < n) (hm : n ≤ maxLen) : Calls Trym.prog 3 #[.slice a n cap] w fun e w' => e = .returned (.bool true) ∧ Below w.heap.size w w' := by
  go_enter Trym.func3, Trym.ntmps3
  go_wp2_with (go_at_call 4; refine (bytes4 _ _ _ _ hm).mono ?_; rintro e w' ⟨rb, rfl, rfl⟩)
  all_goals (go_ret; exact ⟨rfl, Below.refl _ _⟩)

theorem info28 : ∃ i Y, Trym.prog.info? 28 = some i ∧ i.zero = some (.agg Y) ∧ i.size = 32 ∧ i.bytes ≤ 4096 ∧ Y.size = 32 ∧ ∀ v ∈ Y.toList, v = Value.int .u8 0 := by
  have h : (Trym.prog.info? 28).map (fun i => (i.size, decide (i.bytes ≤ 4096), i.zero)) = some (32, true, some (.agg (List.replicate 32 (Value.int .u8 0)).toArray)) := by kernel_rfl
  obtain ⟨i, h1, h2⟩ := Option.map_eq_some_iff.1 h
  simp only [Prod.mk.injEq] at h2
  exact ⟨i, _, h1, h2.2.2, h2.1, of_decide_eq_true h2.2.1, by simp, fun v hv => List.eq_of_mem_replicate hv⟩

theorem made_zero {Y : Array Value} (hs : Y.size = 32) (hY : ∀ v ∈ Y.toList, v = Value.int .u8 0) (m j : Nat) (hj : j < m) : (madeCells Y m).toList[j]? = some (Value.int .u8 0) := by
  have h32 : j % Y.size < Y.size := Nat.mod_lt _ (by omega)
  have := hY (Y[j % Y.size]) (by simp)
  simp [madeCells, hj, h32, this]

theorem RowB.made {w : World} {base g n : Nat} {Y : Array Value} (hs : Y.size = 32) (hY : ∀ v ∈ Y.toList, v = Value.int .u8 0) (h : w.ownsRow base 28 32 (.slice (some ⟨g, 0, none⟩) n n) n (madeCells Y (n * 32)).toList) : RowB w g (n * 32) (fun _ => 0) := by
  rcases h.2 with ⟨h', _⟩ | ⟨g', cap', cur, h', hb, hg, hnc, hcm, hcs, htake⟩
  · simp at h'
  · simp only [Value.slice.injEq, Option.some.injEq, Addr.mk.injEq, and_true, true_and] at h'
    obtain ⟨rfl, rfl⟩ := h'
    refine ⟨cur, hg, hcs, fun j hj => ?_⟩
    have := made_zero hs hY (n * 32) j hj
    rw [← htake, List.getElem?_take, if_pos hj] at this
    simpa using this

end Go.Proofs.Qxb6614645aMods
