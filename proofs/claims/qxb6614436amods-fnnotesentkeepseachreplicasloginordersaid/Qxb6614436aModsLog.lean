import Derived.Test.Qxb6614436aModsPlain
import Derived.WalkKit
import Derived.WalkSpells
import Derived.WalkLawsBesides
import Derived.Maps.OwnSet
import Derived.Deep.AppendLies
namespace Go.Proofs.Qxb6614436aMods
open Go.RowKit
set_option linter.unusedVariables false

theorem zero41 (w : World) : (zeroValue 41).run Trym.prog w = .ok (.slice none 0 0) w := by kernel_rfl

/-- An element of the map, told by the value itself. (The map never leaves the call: how its slices read as data is never asked.) -/
def RV (v : Value) : Option (DataW Value × List MemPlace) := some (.held v, [])

/-- BLOCK bm IS THE MAP BEHIND k CALLS OF noteSent: at each key x the slice value V x, which owns the row of the calls to x, in their order; no two keys' slices lie in one row. -/
structure LogSt (w : World) (bm k : Nat) (to kk : Nat → Int) (ak : Nat → Bool) (D : DataW Value) (V : Int → Value) : Prop where
  map : w.ownsMap Trym.prog 3 RV bm k D
  look : ∀ x, D.atKey (.int .i64 x) (.held (.slice none 0 0)) = .held (V x)
  has : ∀ x, Maps.has D (.int .i64 x) = decide (0 < (ix to x k).length)
  size : Maps.size D = dist to k
  row : ∀ x, w.ownsRow (bm + 1) 46 2 (V x) (ix to x k).length (cel kk ak (ix to x k))
  apart : ∀ x y, x ≠ y → (V x).ownBlock = none ∨ (V x).ownBlock ≠ (V y).ownBlock

variable {w : World} {bm k : Nat} {to kk : Nat → Int} {ak : Nat → Bool} {D : DataW Value} {V : Int → Value}

theorem LogSt.start (w : World) (to kk : Nat → Int) (ak : Nat → Bool) : LogSt (w.alloc (.map #[] 0)) w.heap.size 0 to kk ak (.map []) (fun _ => .slice none 0 0) where
  map := World.ownsMap_made w _ _ _
  look := fun x => rfl
  has := fun x => rfl
  size := rfl
  row := fun x => World.ownsRow_nil _ _ _ _
  apart := fun x y _ => .inl rfl

/-- a row lies behind the map -/
theorem LogSt.row_ne (h : LogSt w bm k to kk ak D V) (x : Int) : (V x).ownBlock ≠ some bm := by
  intro e
  have := ((h.row x).lt bm e).1
  omega
theorem LogSt.row_lt (h : LogSt w bm k to kk ak D V) (x : Int) {g : Nat} (e : (V x).ownBlock = some g) : bm + 1 ≤ g ∧ g < w.heap.size := (h.row x).lt g e

theorem LogSt.kept {w' : World} {r : Option Nat} (h : LogSt w bm k to kk ak D V) (hg : w.grownBy w' r) (hr : ∀ g, r = some g → g < bm) : LogSt w' bm k to kk ak D V where
  map := h.map.kept hg (fun e => by have := hr bm e.symm; omega)
  look := h.look
  has := h.has
  size := h.size
  row := fun x => (h.row x).kept hg (by
    cases e : (V x).ownBlock with
    | none => exact .inl rfl
    | some g =>
      refine .inr fun e2 => ?_
      have := (h.row_lt x e).1
      have := hr g e2.symm
      omega)
  apart := h.apart

theorem LogSt.drew (h : LogSt w bm k to kk ak D V) : LogSt w.drew bm k to kk ak D V := h.kept (w' := w.drew) (r := none) ⟨rfl, rfl, rfl, Nat.le_refl _, fun _ _ _ => rfl⟩ (fun g e => by cases e)
theorem LogSt.alloc (h : LogSt w bm k to kk ak D V) (o : Obj) : LogSt (w.alloc o) bm k to kk ak D V := h.kept (World.grownBy_alloc w o none) (fun g e => by cases e)

theorem LogSt.map_lt (h : LogSt w bm k to kk ak D V) : bm < w.heap.size := h.map.lt

/-- 'm[x]' -/
theorem LogSt.lookup (h : LogSt w bm k to kk ak D V) {x : Int} (hx : (Lit.int .i64 x).wf = true) : (Instr.lookup 38 (.map (some bm)) (.int .i64 x) false).run Trym.prog w = .ok (V x) w := by
  obtain ⟨v, ps, hrun, hv⟩ := h.map.lookup (Maps.int_keyed Trym.underlying3) Trym.underlying38 (zero41 w) (zd := .held (.slice none 0 0)) (zp := []) rfl (Maps.keyOf_int_mk Trym.underlying3 hx)
  rw [h.look x] at hv
  simp only [RV, Option.some.injEq, Prod.mk.injEq, DataW.held.injEq] at hv
  rw [hrun, hv.1]

/-- 'm[x] = append(m[x], ..)': from the look-up's world w to w1, in which the new slice v' owns one element more; then the store. -/
theorem LogSt.step {w1 : World} {g cap : Nat} (h : LogSt w bm k to kk ak D V) (hk : k < maxLen) (hx : (Lit.int .i64 (to k)).wf = true) (hg : w.grownBy w1 (V (to k)).ownBlock)
    (hown : w1.ownsRow (bm + 1) 46 2 (.slice (some ⟨g, 0, none⟩) ((ix to (to k) k).length + 1) cap) ((ix to (to k) k).length + 1) (cel kk ak (ix to (to k) k) ++ [.int .i64 (kk k), .bool (ak k)]))
    (hloc : (V (to k)).ownBlock = some g ∨ w.heap.size ≤ g) :
    ∃ w2 D' V', (Instr.mapUpdate 38 (.map (some bm)) (.int .i64 (to k)) (.slice (some ⟨g, 0, none⟩) ((ix to (to k) k).length + 1) cap)).run Trym.prog w1 = .ok () w2 ∧ w1.grownBy w2 (some bm) ∧ LogSt w2 bm (k + 1) to kk ak D' V' := by
  obtain ⟨w2, hrun, hmap2, hg2⟩ := (h.map.kept hg (fun e => h.row_ne _ e.symm)).update (Maps.int_keyed Trym.underlying3) Trym.underlying38 hk (Maps.keyOf_int_mk Trym.underlying3 hx) (val := .slice (some ⟨g, 0, none⟩) ((ix to (to k) k).length + 1) cap) (d := .held _) (ps := []) rfl
  have hgb : bm + 1 ≤ g := (hown.lt g rfl).1
  have hne : ∀ y, y ≠ to k → (Lit.int .i64 y) ≠ (Lit.int .i64 (to k)) := fun y hy e => hy (by cases e; rfl)
  refine ⟨w2, D.put (.int .i64 (to k)) (.held (.slice (some ⟨g, 0, none⟩) ((ix to (to k) k).length + 1) cap)), (fun y => if y = to k then .slice (some ⟨g, 0, none⟩) ((ix to (to k) k).length + 1) cap else V y), hrun, hg2, ?_⟩
  -- an old row at another key lies apart from the new one
  have far : ∀ y, y ≠ to k → (V y).ownBlock = none ∨ (V y).ownBlock ≠ some g := fun y hy => by
    rcases hloc with e | e
    · rw [← e]; exact h.apart y (to k) hy
    · cases e2 : (V y).ownBlock with
      | none => exact .inl rfl
      | some gy =>
        have := (h.row_lt y e2).2
        refine .inr fun e3 => ?_
        cases e3
        omega
  constructor
  · exact hmap2
  · intro y
    by_cases hy : y = to k
    · subst hy
      simp only [if_true]
      exact Maps.atKey_put_same h.map.isMap (by simp [WideAt.IsKeyLit]) _ _
    · simp only [hy, if_false]
      rw [Maps.atKey_put_other (hne y hy)]
      exact h.look y
  · intro y
    by_cases hy : y = to k
    · subst hy
      rw [Maps.has_put_same h.map.isMap (by simp [WideAt.IsKeyLit]), ix_same]; simp
    · rw [Maps.has_put_other (hne y hy), ix_other to hy]
      exact h.has y
  · rw [Maps.size_put (h.map.tidy (Maps.int_keyed Trym.underlying3)), h.has, h.size]
    simp only [dist]
    by_cases e : (ix to (to k) k).length = 0
    · simp [e]
    · have : 0 < (ix to (to k) k).length := by omega
      simp [e, this]
  · intro y
    by_cases hy : y = to k
    · subst hy
      simp only [if_true]
      rw [ix_same, cel_snoc]
      simp only [List.length_append, List.length_cons, List.length_nil]
      exact hown.kept hg2 (.inr (by simp [Value.ownBlock]; omega))
    · simp only [hy, if_false]
      rw [ix_other to hy]
      refine ((h.row y).kept hg (h.apart y (to k) hy)).kept hg2 ?_
      exact .inr (h.row_ne y)
  · intro y z hyz
    by_cases hy : y = to k
    · have hz : z ≠ to k := fun e => hyz (hy.trans e.symm)
      simp only [hy, hz, if_true, if_false]
      refine .inr fun e => ?_
      rcases far z hz with e2 | e2
      · rw [e2] at e; simp [Value.ownBlock] at e
      · exact e2 (by rw [← e]; rfl)
    · by_cases hz : z = to k
      · simp only [hy, hz, if_true, if_false]
        exact far y hy
      · simp only [hy, hz, if_false]
        exact h.apart y z hyz

end Go.Proofs.Qxb6614436aMods
