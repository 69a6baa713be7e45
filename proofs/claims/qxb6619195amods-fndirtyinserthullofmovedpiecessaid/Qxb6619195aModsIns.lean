import Derived.Test.Qxb6619195aModsLeaf
namespace Go.Proofs.Qxb6619195aMods
open Go.RowKit
set_option linter.unusedVariables false

theorem results_tmp4 {fn : Func} {t u v x : Tmp} (h : fn.results = #[.tmp t, .tmp u, .tmp v, .tmp x]) (tmps : Array Value) (P : Program) (w : World) :
    (results fn tmps).run P w = .ok (.tuple #[tmps.getD t undef, tmps.getD u undef, tmps.getD v undef, tmps.getD x undef]) w := by
  simp [results, h]

/-- no int of this walk is far out -/
def Near (x : Int) : Prop := -1000000000000000000 ≤ x ∧ x ≤ 1000000000000000000

set_option maxHeartbeats 400000 in
theorem ins_none (f t d p q : Int) (w : World) (hd : Near d) (hp : Near p) (hq : Near q) :
    Calls Trym.prog 15 #[.int .i64 f, .int .i64 t, .int .i64 d, .bool false, .int .i64 p, .int .i64 q] w fun e w' =>
      e = .returned (.tuple #[.int .i64 p, .int .i64 q, .int .i64 (d + (q - p)), .bool true]) ∧ Below w.heap.size w w' := by
  unfold Near at hd hp hq
  go_enter Trym.func15, Trym.ntmps15
  go_wp2
  go_end0
  go_wp2
  go_quiet (fail)
  go_wp2
  refine bodyPost_ret (results_tmp4 rfl _ _ _) rfl ?_
  exact ⟨rfl, below_drewN ((Below.refl _ _).alloc (Nat.le_refl _) _) _⟩

theorem tup4 {a b c a' b' c' : Int} (ha : a = a') (hb : b = b') (hc : c = c') :
    Ending.returned (.tuple #[.int .i64 a, .int .i64 b, .int .i64 c, .bool true]) = .returned (.tuple #[.int .i64 a', .int .i64 b', .int .i64 c', .bool true]) := by
  rw [ha, hb, hc]

set_option maxHeartbeats 400000 in
theorem ins_over (f t d p q : Int) (w : World) (hf : Near f) (ht : Near t) (hd : Near d) (hp : Near p) (hq : Near q) (htp : p < t) :
    Calls Trym.prog 15 #[.int .i64 f, .int .i64 t, .int .i64 d, .bool true, .int .i64 p, .int .i64 q] w fun e w' =>
      e = .returned (.tuple #[.int .i64 (min f p), .int .i64 (t + (q - p)), .int .i64 (d + (q - p)), .bool true]) ∧ Below w.heap.size w w' := by
  unfold Near at hf ht hd hp hq
  go_enter Trym.func15, Trym.ntmps15
  go_wp2
  all_goals
    go_end0
    go_wp2
    go_quiet (fail)
    go_wp2
    refine bodyPost_ret (results_tmp4 rfl _ _ _) rfl ?_
    exact ⟨tup4 (by omega) rfl rfl, below_drewN ((Below.refl _ _).alloc (Nat.le_refl _) _) _⟩

set_option maxHeartbeats 400000 in
theorem ins_past (f t d p q : Int) (w : World) (hf : Near f) (ht : Near t) (hd : Near d) (hp : Near p) (hq : Near q) (htp : t ≤ p) :
    Calls Trym.prog 15 #[.int .i64 f, .int .i64 t, .int .i64 d, .bool true, .int .i64 p, .int .i64 q] w fun e w' =>
      e = .returned (.tuple #[.int .i64 (min f p), .int .i64 q, .int .i64 (d + (q - p)), .bool true]) ∧ Below w.heap.size w w' := by
  unfold Near at hf ht hd hp hq
  go_enter Trym.func15, Trym.ntmps15
  go_wp2
  all_goals
    go_end0
    go_wp2
    go_quiet (fail)
    go_wp2
    refine bodyPost_ret (results_tmp4 rfl _ _ _) rfl ?_
    exact ⟨tup4 (by omega) rfl rfl, below_drewN ((Below.refl _ _).alloc (Nat.le_refl _) _) _⟩

/-- the new 'from' of a dirty -/
def insF (s : Bool) (f p : Int) : Int := if s then min f p else p
/-- the new 'to' of a dirty -/
def insT (s : Bool) (t p q : Int) : Int := if s then (if p < t then t + (q - p) else q) else q

theorem ins_any (f t d p q : Int) (s : Bool) (w : World) (hf : Near f) (ht : Near t) (hd : Near d) (hp : Near p) (hq : Near q) :
    Calls Trym.prog 15 #[.int .i64 f, .int .i64 t, .int .i64 d, .bool s, .int .i64 p, .int .i64 q] w fun e w' =>
      e = .returned (.tuple #[.int .i64 (insF s f p), .int .i64 (insT s t p q), .int .i64 (d + (q - p)), .bool true]) ∧ Below w.heap.size w w' := by
  cases s
  · exact ins_none f t d p q w hd hp hq
  · by_cases htp : p < t
    · have := ins_over f t d p q w hf ht hd hp hq htp
      simpa [insF, insT, htp] using this
    · have := ins_past f t d p q w hf ht hd hp hq (by omega)
      simpa [insF, insT, htp] using this

end Go.Proofs.Qxb6619195aMods
