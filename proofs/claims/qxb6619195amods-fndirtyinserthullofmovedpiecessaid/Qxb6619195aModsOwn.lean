import Derived.Test.Qxb6619195aModsArr
import Derived.Test.Qxb6619195aModsHullPlain
namespace Go.Proofs.Qxb6619195aMods
open Go.RowKit
set_option linter.unusedVariables false

/-- Block g is a row of 'cap' cells of the call's own; of them the first c are the ints x 0, x 1, .. -/
def Own (w : World) (g c cap : Nat) (x : Nat → Int) : Prop :=
  ∃ cur : Array Value, w.heap[g]? = some (.cells cur 3 (0, 0)) ∧ c ≤ cap ∧ cap ≤ maxLen ∧ cur.size = cap * 1 ∧ ∀ j, j < c → cur[j]? = some (.int .i64 (x j))

theorem Own.lt {w : World} {g c cap : Nat} {x : Nat → Int} (h : Own w g c cap x) : g < w.heap.size := by
  obtain ⟨cs, hg, _⟩ := h
  by_cases hlt : g < w.heap.size
  · exact hlt
  · simp [Array.getElem?_eq_none (by omega : w.heap.size ≤ g)] at hg

theorem Own.cell {w : World} {g c cap : Nat} {x : Nat → Int} (h : Own w g c cap x) {j : Nat} (hj : j < c) : w.cell? ⟨g, j, none⟩ = some (.int .i64 (x j)) := by
  obtain ⟨cs, hg, _, _, _, hc⟩ := h
  rw [cell_of_row w g j cs 3 (0, 0) hg]
  exact hc j hj

theorem Own.frozen {w : World} {g c cap : Nat} {x : Nat → Int} (h : Own w g c cap x) (j : Nat) : w.frozen? ⟨g, j, none⟩ = false := by
  obtain ⟨cs, hg, _⟩ := h
  exact frozen_of_row w g j cs 3 hg

theorem Own.set {w : World} {g c cap : Nat} {x : Nat → Int} (h : Own w g c cap x) (j : Nat) (v : Int) :
    Own (w.setCell ⟨g, j, none⟩ (.int .i64 v)) g c cap (fun i => if i = j then v else x i) := by
  obtain ⟨cs, hg, h1, h2, hs, hc⟩ := h
  refine ⟨_, heap_setCell_same w g j cs 3 _ hg, h1, h2, by simpa using hs, fun i hi => ?_⟩
  rw [Array.getElem?_setIfInBounds]
  have hic : i < cs.size := by omega
  by_cases e : j = i
  · subst e; simp [hic]
  · have e' : ¬ i = j := fun h => e h.symm
    simp [e, e', hc i hi]

theorem Own.of_block {w w' : World} {g c cap : Nat} {x : Nat → Int} (h : Own w g c cap x) (hb : w'.heap[g]? = w.heap[g]?) : Own w' g c cap x := by
  obtain ⟨cs, hg, r⟩ := h
  exact ⟨cs, hb.trans hg, r⟩

theorem Own.other {w : World} {g c cap : Nat} {x : Nat → Int} (h : Own w g c cap x) {a : Addr} (ha : a.block ≠ g) (v : Value) : Own (w.setCell a v) g c cap x :=
  h.of_block (heap_setCell_other w a g v (fun e => ha e.symm))

theorem Own.below {w w' : World} {B g c cap : Nat} {x : Nat → Int} (h : Own w g c cap x) (hb : Below B w w') (hg : g < B) : Own w' g c cap x :=
  h.of_block (hb.block g hg)

theorem Own.alloc {w : World} {g c cap : Nat} {x : Nat → Int} (h : Own w g c cap x) (o : Obj) : Own (w.alloc o) g c cap x :=
  h.of_block (Below.heap_alloc w o g h.lt)

theorem Own.grown {w w' : World} {r : Option Nat} {g c cap : Nat} {x : Nat → Int} (h : Own w g c cap x) (hb : w.grownBy w' r) (hr : some g ≠ r) : Own w' g c cap x :=
  h.of_block (hb.block g h.lt hr)

theorem Own.congr {w : World} {g c cap : Nat} {x y : Nat → Int} (h : Own w g c cap x) (hxy : ∀ j, j < c → x j = y j) : Own w g c cap y := by
  obtain ⟨cs, hg, h1, h2, hs, hc⟩ := h
  exact ⟨cs, hg, h1, h2, hs, fun j hj => by rw [hc j hj, hxy j hj]⟩

/-- into the kit's word -/
theorem Own.owns {w : World} {base g c cap : Nat} {x : Nat → Int} (h : Own w g c cap x) (hb : base ≤ g) :
    w.ownsRow base 3 1 (.slice (some ⟨g, 0, none⟩) c cap) c ((List.range c).map fun j => Value.int .i64 (x j)) := by
  obtain ⟨cs, hg, h1, h2, hs, hc⟩ := h
  refine ⟨by simp, .inr ⟨g, cap, cs, rfl, hb, hg, h1, h2, hs, ?_⟩⟩
  apply List.ext_getElem?
  intro i
  rw [List.getElem?_take]
  by_cases hi : i < c
  · simp [hi, hc i hi]
  · simp [hi]

/-- out of it -/
theorem Own.of_owns {w : World} {base g c cap : Nat} {xs : List Value} {x : Nat → Int} (h : w.ownsRow base 3 1 (.slice (some ⟨g, 0, none⟩) c cap) c xs) (hx : ∀ j, j < c → xs[j]? = some (.int .i64 (x j))) : Own w g c cap x := by
  rcases h.2 with ⟨h', _⟩ | ⟨g', cap', cur, h', hb, hg, hnc, hcm, hcs, htake⟩
  · simp at h'
  · simp only [Value.slice.injEq, Option.some.injEq, Addr.mk.injEq, and_true, true_and] at h'
    obtain ⟨rfl, rfl⟩ := h'
    refine ⟨cur, hg, hnc, hcm, hcs, fun j hj => ?_⟩
    have := hx j hj
    rw [← htake, List.getElem?_take, if_pos (by omega)] at this
    simpa using this

/-- behind an append of one int -/
theorem Own.app {w : World} {base g c cap : Nat} {x : Nat → Int} {v : Int} (h : w.ownsRow base 3 1 (.slice (some ⟨g, 0, none⟩) (c + 1) cap) (c + 1) (((List.range c).map fun j => Value.int .i64 (x j)) ++ [.int .i64 v])) :
    Own w g (c + 1) cap (snoc x c v) := by
  refine Own.of_owns h fun j hj => ?_
  by_cases e : j = c
  · subst e; simp [snoc]
  · have hjc : j < c := by omega
    simp [snoc, e, List.getElem?_append, hjc]

end Go.Proofs.Qxb6619195aMods
