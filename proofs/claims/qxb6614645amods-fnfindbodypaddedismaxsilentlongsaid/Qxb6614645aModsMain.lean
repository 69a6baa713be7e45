import Derived.Test.Qxb6614645aModsLaw
namespace Go.Proofs.Qxb6614645aMods
open Go.RowKit
set_option linter.unusedVariables false

theorem ret_bool {a b : Bool} (h : a = b) : Ending.returned (.bool a) = .returned (.bool b) := by rw [h]
theorem bodyLen_pad (n : Nat) : bodyLen n true = 1032 := by simp [bodyLen]
theorem bodyLen_full : bodyLen 20 false = 1032 := by simp [bodyLen]
theorem bodyLen_plain (n : Nat) : bodyLen n false = 32 + 50 * (n : Int) := by simp [bodyLen]

set_option maxRecDepth 100000 in
set_option maxHeartbeats 1000000 in
theorem law_nil (w : World) : Calls Trym.prog 3 #[.slice none 0 0] w fun e w' => e = .returned (.bool true) ∧ Below w.heap.size w w' := by
  have q22 : ∀ (w : World) (a : Option Addr) (n c : Nat), (binOp .neq 22 (.slice a n c) (.slice none 0 0)).run Trym.prog w = .ok (.bool (!a.isNone)) w := fun w a n c => run_neq_slice_nil_any w _ _ a n c 0 0 Trym.underlying22
  obtain ⟨i0, Y, hi, hz0, hz1, hz2, hY1, hY2⟩ := info28
  have HY : Hid (Y.size = 32 ∧ ∀ v ∈ Y.toList, v = Value.int .u8 0) := ⟨hY1, hY2⟩
  clear hY1 hY2
  go_enter Trym.func3, Trym.ntmps3
  go_wp2_with (go_at_call 4; refine (bytes4 _ _ _ _ (by unfold maxLen; omega)).mono ?_; rintro e w' ⟨rb, rfl, rfl⟩)
  · go_ret; exact ⟨rfl, Below.refl _ _⟩
  refine (msg6_nil true _).mono ?_
  rintro e w1 ⟨cs, ao, c, rfl, hs, h9, h10, hb1⟩
  go_wp2_with fail
  refine (size5 cs ao 0 c true _ hs h9 h10 (by omega)).mono ?_
  rw [bodyLen_pad]
  rintro e w2 ⟨rfl, hb2⟩
  have hB2 : Below w.heap.size w w2 := hb1.trans (hb2.mono hb1.size)
  clear hs h9 h10 hb1 hb2
  go_wp2_with fail
  refine (msg6_nil false _).mono ?_
  rintro e w3 ⟨ds, ao2, c2, rfl, hs, h9, h10, hb3⟩
  go_wp2_with fail
  refine (size5 ds ao2 0 c2 false _ hs h9 h10 (by omega)).mono ?_
  rw [bodyLen_plain]
  rintro e w4 ⟨rfl, hb4⟩
  have hB4 : Below w.heap.size w w4 := (hB2.trans (hb3.mono hB2.size)).trans (hb4.mono (Nat.le_trans hB2.size hb3.size))
  clear hs h9 h10 hb3 hb4 hB2
  go_wp2_with (at_make; refine wpList_make_full _ rfl _ _ 22 rfl w.heap.size 28 i0 (.agg Y) 32 Trym.underlying22 hi hz0 hz1 _ _ _ _ 20 rfl rfl rfl rfl (by have := Nat.mul_le_mul_right 20 hz2; omega) (by unfold maxLen; omega) hB4.size ?_)
  intro w5 hown5 hgrow5
  have row5 : RowB w5 w4.heap.size (20 * 32) (fun _ => 0) := RowB.made HY.out.1 HY.out.2 hown5
  have hB5 : Below w.heap.size w w5 := hB4.grown hgrow5 hB4.size (by simp)
  clear hown5 hgrow5 hi hz0 hz1 hz2
  go_wp2_with fail
  refine (msg6_on w4.heap.size 20 20 false _ _ (by omega) row5).mono ?_
  rintro e w6 ⟨es, ao3, c3, rfl, hs, h9, h10, hb6⟩
  go_wp2_with fail
  refine (size5 es ao3 20 c3 false _ hs h9 h10 (by omega)).mono ?_
  rw [bodyLen_full]
  rintro e w7 ⟨rfl, hb7⟩
  have hB7 : Below w.heap.size w w7 := (hB5.trans (hb6.mono hB5.size)).trans (hb7.mono (Nat.le_trans hB5.size hb6.size))
  clear hs h9 h10 hb6 hb7 hB5 hB4 row5
  go_wp2
  go_ret
  exact ⟨rfl, hB7⟩

set_option maxRecDepth 100000 in
set_option maxHeartbeats 1000000 in
theorem law_on (ad : Addr) (n cap : Nat) (x : Nat → Int) (w : World) (hn : n ≤ 32768) (hc : ∀ j, j < n * 32 → w.cell? (ad.add j) = some (.int .u8 (x j))) : Calls Trym.prog 3 #[.slice (some ad) n cap] w fun e w' => e = .returned (.bool true) ∧ Below w.heap.size w w' := by
  have q22 : ∀ (w : World) (a : Option Addr) (n c : Nat), (binOp .neq 22 (.slice a n c) (.slice none 0 0)).run Trym.prog w = .ok (.bool (!a.isNone)) w := fun w a n c => run_neq_slice_nil_any w _ _ a n c 0 0 Trym.underlying22
  obtain ⟨i0, Y, hi, hz0, hz1, hz2, hY1, hY2⟩ := info28
  have HY : Hid (Y.size = 32 ∧ ∀ v ∈ Y.toList, v = Value.int .u8 0) := ⟨hY1, hY2⟩
  have HC : Hid (∀ j, j < n * 32 → w.cell? (ad.add j) = some (.int .u8 (x j))) := hc
  clear hY1 hY2 hc
  go_enter Trym.func3, Trym.ntmps3
  go_wp2_with (first | (go_at_call 4; refine (bytes4 _ _ _ _ (by unfold maxLen; omega)).mono ?_; rintro e w' ⟨rb, rfl, rfl⟩) | (at_make; refine wpList_make_full _ rfl _ _ 22 rfl w.heap.size 28 i0 (.agg Y) 32 Trym.underlying22 hi hz0 hz1 _ _ _ _ n rfl rfl rfl rfl (by have := Nat.mul_le_mul hz2 hn; omega) (by unfold maxLen; omega) (Nat.le_refl _) ?_))
  · go_ret; exact ⟨rfl, Below.refl _ _⟩
  intro w0 hown0 hgrow0
  have hrow0 : ∃ cur : Array Value, w0.heap[w.heap.size]? = some (.cells cur 28 (0, 0)) ∧ cur.size = n * 32 := by
    obtain ⟨cur, h1, h2, _⟩ := RowB.made HY.out.1 HY.out.2 hown0
    exact ⟨cur, h1, h2⟩
  obtain ⟨cur, hg0, hcz⟩ := hrow0
  have hB0 : Below w.heap.size w w0 := (Below.refl _ _).grown hgrow0 (Nat.le_refl _) (by simp)
  have HZ : Hid (cur.size = n * 32) := hcz
  have HG0 : Hid (w0.heap[w.heap.size]? = some (.cells cur 28 (0, 0))) := hg0
  have hsrc : Hid (∀ j v, ((List.range (n * 32)).map fun j => Value.int .u8 (x j))[j]? = some v → w0.cell? (ad.add j) = some v) := fun j v hv => by
    have hj : j < n * 32 := by
      have := (List.getElem?_eq_some_iff.1 hv).1
      simpa using this
    have e := HC.out j hj
    have hbl : (ad.add j).block < w.heap.size := World.block_lt_of_cell? _ _ e
    rw [hB0.cell hbl, e]
    simpa [hj] using hv
  clear hown0 hgrow0 hg0 hcz
  go_wp2_with (refine wpList_copy_rows rfl _ _ 22 22 rfl 28 Trym.underlying22 32 Trym.size28 w.heap.size n n ad cap rfl rfl cur 28 HG0.out ((List.range (n * 32)).map fun j => Value.int .u8 (x j)) (by simp) hsrc.out (by rw [HZ.out]; simp) (by intro v hv; obtain ⟨j, _, rfl⟩ := List.mem_map.1 hv; rfl) ?_)
  intro w1 hg1 hoth hsz hos htp hout
  have row1 : RowB w1 w.heap.size (n * 32) x := ⟨_, hg1, by simp, fun j hj => by simp [hj]⟩
  have hB1 : Below w.heap.size w w1 := hB0.trans ⟨hos, htp, hout, by rw [hsz]; exact Nat.le_refl _, fun k hk => hoth k (by omega)⟩
  clear hg1 hoth hsz hos htp hout HG0 HZ hsrc HC hB0
  go_wp2_with fail
  refine (msg6_on w.heap.size n n true x _ hn row1).mono ?_
  rintro e w2 ⟨cs, ao, c, rfl, hs, h9, h10, hb1⟩
  have row2 := row1.below hb1 row1.lt
  go_wp2_with fail
  refine (size5 cs ao n c true _ hs h9 h10 (by omega)).mono ?_
  rw [bodyLen_pad]
  rintro e w3 ⟨rfl, hb2⟩
  have row3 := row2.below hb2 row2.lt
  have hB3 : Below w.heap.size w w3 := (hB1.trans (hb1.mono hB1.size)).trans (hb2.mono (Nat.le_trans hB1.size hb1.size))
  clear hs h9 h10 hb1 hb2 row1 row2 hB1
  go_wp2_with fail
  refine (msg6_on w.heap.size n n false x _ hn row3).mono ?_
  rintro e w5' ⟨ds, ao2, c2, rfl, hs, h9, h10, hb3⟩
  go_wp2_with fail
  refine (size5 ds ao2 n c2 false _ hs h9 h10 (by omega)).mono ?_
  rw [bodyLen_plain]
  rintro e w4 ⟨rfl, hb4⟩
  have hB4 : Below w.heap.size w w4 := (hB3.trans (hb3.mono hB3.size)).trans (hb4.mono (Nat.le_trans hB3.size hb3.size))
  clear hs h9 h10 hb3 hb4 hB3 row3
  go_wp2_with (at_make; refine wpList_make_full _ rfl _ _ 22 rfl w.heap.size 28 i0 (.agg Y) 32 Trym.underlying22 hi hz0 hz1 _ _ _ _ 20 rfl rfl rfl rfl (by have := Nat.mul_le_mul_right 20 hz2; omega) (by unfold maxLen; omega) hB4.size ?_)
  intro w5 hown5 hgrow5
  have row5 : RowB w5 w4.heap.size (20 * 32) (fun _ => 0) := RowB.made HY.out.1 HY.out.2 hown5
  have hB5 : Below w.heap.size w w5 := hB4.grown hgrow5 hB4.size (by simp)
  clear hown5 hgrow5 hi hz0 hz1 hz2
  go_wp2_with fail
  refine (msg6_on w4.heap.size 20 20 false _ _ (by omega) row5).mono ?_
  rintro e w6 ⟨es, ao3, c3, rfl, hs, h9, h10, hb6⟩
  go_wp2_with fail
  refine (size5 es ao3 20 c3 false _ hs h9 h10 (by omega)).mono ?_
  rw [bodyLen_full]
  rintro e w7 ⟨rfl, hb7⟩
  have hB7 : Below w.heap.size w w7 := (hB5.trans (hb6.mono hB5.size)).trans (hb7.mono (Nat.le_trans hB5.size hb6.size))
  clear hs h9 h10 hb6 hb7 hB5 hB4 row5
  by_cases h20 : 20 < n
  · go_wp2
    go_ret
    exact ⟨rfl, hB7⟩
  · go_wp2
    go_ret
    exact ⟨ret_bool (by
      have e : decide (32 + 50 * (n : Int) ≤ 1032) = true := decide_eq_true (by omega)
      rw [e, Bool.or_true]), hB7⟩
end Go.Proofs.Qxb6614645aMods
