import Derived.Test.Qxb6619195aModsLeaf
namespace Go.Proofs.Qxb6619195aMods
open Go.RowKit
set_option linter.unusedVariables false

theorem Trym.info3 : (Trym.prog.info? 3).map (fun i => (i.zero, i.size, i.bytes)) = some (some (.int .i64 0), 1, 8) := by kernel_rfl

/-- Block g is a row of n ints of the call's own; cell j holds x j. -/
def Arr (w : World) (g n : Nat) (x : Nat → Int) : Prop :=
  ∃ cs : Array Value, w.heap[g]? = some (.cells cs 3 (0, 0)) ∧ cs.size = n ∧ ∀ j, j < n → cs[j]? = some (.int .i64 (x j))

theorem Arr.lt {w : World} {g n : Nat} {x : Nat → Int} (h : Arr w g n x) : g < w.heap.size := by
  obtain ⟨cs, hg, _, _⟩ := h
  by_cases hlt : g < w.heap.size
  · exact hlt
  · simp [Array.getElem?_eq_none (by omega : w.heap.size ≤ g)] at hg

theorem Arr.cell {w : World} {g n : Nat} {x : Nat → Int} (h : Arr w g n x) {j : Nat} (hj : j < n) : w.cell? ⟨g, j, none⟩ = some (.int .i64 (x j)) := by
  obtain ⟨cs, hg, _, hc⟩ := h
  rw [cell_of_row w g j cs 3 (0, 0) hg]
  exact hc j hj

theorem Arr.frozen {w : World} {g n : Nat} {x : Nat → Int} (h : Arr w g n x) (j : Nat) : w.frozen? ⟨g, j, none⟩ = false := by
  obtain ⟨cs, hg, _, hc⟩ := h
  exact frozen_of_row w g j cs 3 hg

theorem Arr.set {w : World} {g n : Nat} {x : Nat → Int} (h : Arr w g n x) (j : Nat) (v : Int) :
    Arr (w.setCell ⟨g, j, none⟩ (.int .i64 v)) g n (fun i => if i = j then v else x i) := by
  obtain ⟨cs, hg, hs, hc⟩ := h
  refine ⟨_, heap_setCell_same w g j cs 3 _ hg, by simpa using hs, fun i hi => ?_⟩
  rw [Array.getElem?_setIfInBounds]
  by_cases e : j = i
  · subst e; simp [hs, hi]
  · have e' : ¬ i = j := fun h => e h.symm
    simp [e, e', hc i hi]

theorem Arr.of_block {w w' : World} {g n : Nat} {x : Nat → Int} (h : Arr w g n x) (hb : w'.heap[g]? = w.heap[g]?) : Arr w' g n x := by
  obtain ⟨cs, hg, r⟩ := h
  exact ⟨cs, hb.trans hg, r⟩

theorem Arr.other {w : World} {g n : Nat} {x : Nat → Int} (h : Arr w g n x) {a : Addr} (ha : a.block ≠ g) (v : Value) : Arr (w.setCell a v) g n x :=
  h.of_block (heap_setCell_other w a g v (fun e => ha e.symm))

theorem Arr.below {w w' : World} {B g n : Nat} {x : Nat → Int} (h : Arr w g n x) (hb : Below B w w') (hg : g < B) : Arr w' g n x :=
  h.of_block (hb.block g hg)

theorem Arr.grown {w w' : World} {g n : Nat} {x : Nat → Int} (h : Arr w g n x) (hb : w.grownBy w' none) : Arr w' g n x :=
  h.of_block (hb.block g h.lt (by simp))

theorem Arr.congr {w : World} {g n : Nat} {x y : Nat → Int} (h : Arr w g n x) (hxy : ∀ j, j < n → x j = y j) : Arr w g n y := by
  obtain ⟨cs, hg, hs, hc⟩ := h
  exact ⟨cs, hg, hs, fun j hj => by rw [hc j hj, hxy j hj]⟩

theorem Arr.made {w : World} {base g n : Nat} (h : w.ownsRow base 3 1 (.slice (some ⟨g, 0, none⟩) n n) n (madeCells #[Value.int .i64 0] n).toList) : Arr w g n (fun _ => 0) := by
  rcases h.2 with ⟨h', _⟩ | ⟨g', cap', cur, h', hb, hg, hnc, hcm, hcs, htake⟩
  · simp at h'
  · simp only [Value.slice.injEq, Option.some.injEq, Addr.mk.injEq, and_true, true_and] at h'
    obtain ⟨rfl, rfl⟩ := h'
    refine ⟨cur, hg, by omega, fun j hj => ?_⟩
    rw [toList_madeCells_one] at htake
    have := congrArg (fun l => l[j]?) htake
    simp only [List.getElem?_take, List.getElem?_replicate, hj, if_true] at this
    rw [if_pos (by omega)] at this
    simpa using this

end Go.Proofs.Qxb6619195aMods
