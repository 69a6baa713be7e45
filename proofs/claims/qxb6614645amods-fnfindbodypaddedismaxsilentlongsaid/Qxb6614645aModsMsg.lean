import Derived.Test.Qxb6614645aModsMem
import Derived.Deep.LoopGhost
import Derived.Deep.Light
namespace Go.Proofs.Qxb6614645aMods
open Go.RowKit
set_option linter.unusedVariables false

theorem built34 (ao : Option Addr) (n c : Nat) (p : Bool) : ∃ cs, Trym.prog.built 34 [(9, .slice ao n c), (10, .bool p)] = some cs ∧ cs.size = 114 ∧ cs[109]? = some (.slice ao n c) ∧ cs[110]? = some (.bool p) ∧ cs.all (·.oneCell') = true := by
  have h : (Trym.prog.built 34 [(9, .slice ao n c), (10, .bool p)]).map (fun cs => (cs.size, cs[109]?, cs[110]?, cs.all (·.oneCell'))) = some (114, some (.slice ao n c), some (.bool p), true) := by kernel_rfl
  obtain ⟨cs, h1, h2⟩ := Option.map_eq_some_iff.1 h
  simp only [Prod.mk.injEq] at h2
  exact ⟨cs, h1, h2.1, h2.2.1, h2.2.2.1, h2.2.2.2⟩

theorem zero34 : ∃ Z : Array Value, Z.size = 114 ∧ ∀ w, (zeroValue 34).run Trym.prog w = .ok (.agg Z) w := by
  have h : ((Trym.prog.info? 34).bind (fun i => i.zero)).bind (fun v => match v with | .agg Z => some Z.size | _ => none) = some 114 := by kernel_rfl
  obtain ⟨v, h1, h2⟩ := Option.bind_eq_some_iff.1 h
  obtain ⟨i, h3, h4⟩ := Option.bind_eq_some_iff.1 h1
  match v, h2 with
  | .agg Z, h2 =>
    simp only [Option.some.injEq] at h2
    exact ⟨Z, h2, fun w => by simp [zeroValue, typeInfo, h3, h4]⟩

theorem wpList_built {P : Program} {ops : Array Oper} {rest : List Oper} {o : Oper} {a : Act} {w : World} {Q : Exit → Act → World → Prop} (hg : o.guard = none) (t : TypeId) (parts : Array (Nat × Operand)) (ho : o.op = .build t parts)
    (vs : List (Nat × Value)) (hv : (parts.map fun (i, x) => (i, a.eval x)).toList = vs) (cells : Array Value) (hf : P.built t vs = some cells)
    (h : wpList P ops Q rest (a.put o.dst (.agg cells)) w) : wpList P ops Q (o :: rest) a w := by
  subst hv
  refine wpList_build hg t parts ho (by rw [hf]; rfl) ?_
  rw [hf]
  exact h

set_option maxRecDepth 100000 in
set_option maxHeartbeats 400000 in
theorem msg6_nil (p : Bool) (w : World) :
    Calls Trym.prog 6 #[.slice none 0 0, .bool p] w fun e w' => ∃ cs ao c, e = .returned (.agg cs) ∧ cs.size = 114 ∧ cs[109]? = some (.slice ao 0 c) ∧ cs[110]? = some (.bool p) ∧ Below w.heap.size w w' := by
  have q22 : ∀ (w : World) (a : Option Addr) (n c : Nat), (binOp .neq 22 (.slice a n c) (.slice none 0 0)).run Trym.prog w = .ok (.bool (!a.isNone)) w := fun w a n c => run_neq_slice_nil_any w _ _ a n c 0 0 Trym.underlying22
  obtain ⟨Z, hZs, hZ⟩ := zero34
  have HZ : Hid (Z.size = 114) := hZs
  obtain ⟨cs, hb, hs, h9, h10, h1⟩ := built34 none 0 0 p
  have HB : Hid (Trym.prog.built 34 [(9, .slice none 0 0), (10, .bool p)] = some cs) := hb
  have HS : Hid (cs.size = 114) := hs
  have H1 : Hid (cs.all (·.oneCell') = true) := h1
  clear hZs hb hs h1
  go_enter Trym.func6, Trym.ntmps6
  go_wp2
  refine wp_loop_rounds 1 ?_
  rw [rounds_succ]
  go_wp2_with (first | (refine wpList_built rfl 34 _ rfl [(9, .slice none 0 0), (10, .bool p)] (by simp [Act.eval]) cs HB.out ?_) | (refine wpList_store_row rfl 34 _ _ rfl w.heap.size cs rfl rfl 34 Z (heap_alloc_new w _) (by rw [HS.out]; exact Trym.size34) (by rw [HS.out, HZ.out]) H1.out ?_))
  refine bodyPost_ret (results_cell_row Trym.results6 _ _ w.heap.size 34 cs (0, 0) _ (by simp [Act.put]) (setRow_heap _ _ Z _ 34 _ (heap_alloc_new w _)) Trym.underlying34 rfl (by rw [HS.out]; exact Trym.size34)) rfl ?_
  exact ⟨cs, none, 0, rfl, HS.out, h9, h10, below_setRow ((Below.refl _ _).alloc (Nat.le_refl _) _) (Nat.le_refl _) _⟩
end Go.Proofs.Qxb6614645aMods
