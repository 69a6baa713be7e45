import Derived.Test.Qxb6614436aModsReplay
import Derived.Deep.QuietTactic
import Derived.BigQuiet
namespace Go.Proofs.Qxb6614436aMods
open Go.RowKit
set_option linter.unusedVariables false

set_option maxHeartbeats 400000 in
theorem nil6 (sb : Nat) (w : World) (hc : w.cell? ⟨sb, 5, none⟩ = some (.map none)) : Calls Trym.prog 6 #[.pointer (some ⟨sb, 0, none⟩)] w fun e w' => e = .returned (.bool true) ∧ w = w' := by
  have q38 : ∀ (w : World) (r : Option Nat), (binOp .eql 38 (.map r) (.map none)).run Trym.prog w = .ok (.bool r.isNone) w := fun w r => run_eql_map_nil w _ _ _ r Trym.underlying38
  go_enter Trym.func6, Trym.ntmps6
  go_wp2
  go_ret
  exact ⟨rfl, rfl⟩

/-- what the slice at a key looks like -/
theorem LogSt.form {w : World} {bm k : Nat} {to kk : Nat → Int} {ak : Nat → Bool} {D : DataW Value} {V : Int → Value} (h : LogSt w bm k to kk ak D V) (x : Int) : ∃ ao cap, V x = .slice ao (ix to x k).length cap := by
  rcases (h.row x).2 with ⟨e, e0⟩ | ⟨g, cap, cur, e, _⟩
  · exact ⟨none, 0, by rw [e, e0]⟩
  · exact ⟨_, _, e⟩

set_option maxHeartbeats 400000 in
theorem len7 (sb bm n : Nat) (to kk : Nat → Int) (ak : Nat → Bool) (D : DataW Value) (V : Int → Value) (x : Int) (w : World) (hc : w.cell? ⟨sb, 5, none⟩ = some (.map (some bm))) (h : LogSt w bm n to kk ak D V) (hx : (Lit.int .i64 x).wf = true) :
    Calls Trym.prog 7 #[.pointer (some ⟨sb, 0, none⟩), .int .i64 x] w fun e w' => e = .returned (.int .i64 (ix to x n).length) ∧ w = w' := by
  have hl := h.lookup hx
  obtain ⟨ao, cap, hV⟩ := h.form x
  rw [hV] at hl
  clear h hV
  go_enter Trym.func7, Trym.ntmps7
  go_wp2
  go_ret
  exact ⟨rfl, rfl⟩

set_option maxHeartbeats 400000 in
theorem count9 (sb bm n : Nat) (to kk : Nat → Int) (ak : Nat → Bool) (D : DataW Value) (V : Int → Value) (w : World) (hc : w.cell? ⟨sb, 5, none⟩ = some (.map (some bm))) (h : LogSt w bm n to kk ak D V) :
    Calls Trym.prog 9 #[.pointer (some ⟨sb, 0, none⟩)] w fun e w' => e = .returned (.int .i64 (dist to n)) ∧ w = w' := by
  have hm := h.map
  have hs := h.size
  clear h
  go_enter Trym.func9, Trym.ntmps9
  go_wp2_with (at_len; refine wpList_len_own _ rfl _ 38 rfl 3 41 Trym.underlying38 RV bm n D rfl hm ?_)
  go_ret
  rw [← hs]
  exact ⟨rfl, rfl⟩

set_option maxHeartbeats 400000 in
theorem at12 (sb bm n i : Nat) (to kk : Nat → Int) (ak : Nat → Bool) (D : DataW Value) (V : Int → Value) (w : World) (hc : w.cell? ⟨sb, 5, none⟩ = some (.map (some bm))) (h : LogSt w bm n to kk ak D V) (hx : (Lit.int .i64 (to i)).wf = true) (hi : i < n) (hn : n ≤ 4096) :
    Calls Trym.prog 12 #[.pointer (some ⟨sb, 0, none⟩), .int .i64 (to i), .int .i64 (ix to (to i) i).length] w fun e w' => e = .returned (.tuple #[.int .i64 (kk i), .bool (ak i)]) ∧ Below w.heap.size w w' := by
  have hl := h.lookup hx
  have hat := ix_at to i n hi
  have hlt : (ix to (to i) i).length < (ix to (to i) n).length := (List.getElem?_eq_some_iff.1 hat).1
  obtain ⟨g, cap, hV, hg1, hg2⟩ := (h.row (to i)).form (by omega)
  have hr := h.row (to i)
  rw [hV] at hl hr
  obtain ⟨e0, e1⟩ := cel_get kk ak _ _ _ hat
  have c0 := (hr.cellAt ((ix to (to i) i).length * 2) (by omega)).trans e0
  have c1 := (hr.cellAt ((ix to (to i) i).length * 2 + 1) (by omega)).trans e1
  have hlen := ix_le to (to i) n
  clear e0 e1 hr hat hV h
  generalize (ix to (to i) i).length = r at *
  generalize (ix to (to i) n).length = m at *
  have hrm : (r : Int) < (m : Int) := by omega
  go_enter Trym.func12, Trym.ntmps12
  go_wp2
  go_quiet (fail)
  go_wp2
  go_ret2
  exact ⟨rfl, below_drewN ((Below.refl _ _).alloc (Nat.le_refl _) _) _⟩

set_option maxHeartbeats 400000 in
theorem entry8 (sb bm n i : Nat) (to kk : Nat → Int) (ak : Nat → Bool) (D : DataW Value) (V : Int → Value) (w : World) (hc : w.cell? ⟨sb, 5, none⟩ = some (.map (some bm))) (h : LogSt w bm n to kk ak D V) (hx : (Lit.int .i64 (to i)).wf = true) (hi : i < n) (hn : n ≤ 4096) :
    Calls Trym.prog 8 #[.pointer (some ⟨sb, 0, none⟩), .int .i64 (to i), .int .i64 (ix to (to i) i).length, .int .i64 (kk i), .bool (ak i)] w fun e w' => e = .returned (.bool true) ∧ Below w.heap.size w w' := by
  have H : Hid (LogSt w bm n to kk ak D V) := h
  clear h
  go_enter Trym.func8, Trym.ntmps8
  go_wp2_with (go_at_call 12; refine (at12 sb bm n i to kk ak D V w hc H.out hx hi hn).mono ?_; rintro e w' ⟨rfl, hb⟩)
  go_ret
  exact ⟨rfl, hb⟩

theorem LogSt.below {w w' : World} {bm k : Nat} {to kk : Nat → Int} {ak : Nat → Bool} {D : DataW Value} {V : Int → Value} (h : LogSt w bm k to kk ak D V) (hb : Below w.heap.size w w') : LogSt w' bm k to kk ak D V :=
  h.kept (r := none) ⟨hb.os, hb.tape, hb.output, hb.size, fun k hk _ => hb.block k hk⟩ (fun g e => by cases e)

theorem LogSt.drewN {w : World} {bm k : Nat} {to kk : Nat → Int} {ak : Nat → Bool} {D : DataW Value} {V : Int → Value} (h : LogSt w bm k to kk ak D V) (n : Nat) : LogSt (w.drewN n) bm k to kk ak D V :=
  h.below (below_drewN (Below.refl _ _) n)

set_option maxHeartbeats 400000 in
theorem bytes4 (a : Option Addr) (n cap : Nat) (w : World) (h : n ≤ maxLen) : Calls Trym.prog 4 #[.slice a n cap] w fun e w' => ∃ b, e = .returned (.bool b) ∧ w = w' := by
  unfold maxLen at h
  go_enter Trym.func4, Trym.ntmps4
  go_wp2
  all_goals (go_ret; exact ⟨_, rfl, rfl⟩)

end Go.Proofs.Qxb6614436aMods
