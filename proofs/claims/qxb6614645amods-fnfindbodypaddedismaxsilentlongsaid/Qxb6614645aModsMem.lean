import Derived.Test.Qxb6614645aModsSize
import Derived.Laws.CopyOwn
namespace Go.Proofs.Qxb6614645aMods
open Go.RowKit
set_option linter.unusedVariables false

theorem Trym.size28 : (Trym.prog.info? 28).map (·.size) = some 32 := by kernel_rfl
theorem Trym.size50 : (Trym.prog.info? 50).map (·.size) = some 36 := by kernel_rfl

theorem heap_setCells_other (b : Nat) : ∀ (vs : List Value) (o : Nat) (w : World) (k : Nat), k ≠ b → (w.setCells b o vs).heap[k]? = w.heap[k]?
  | [], _, _, _, _ => rfl
  | v :: r, o, w, k, h => by
    rw [World.setCells, heap_setCells_other b r (o + 1) _ k h]
    exact heap_setCell_other w ⟨b, o, none⟩ k v h
theorem size_setCells (b : Nat) : ∀ (vs : List Value) (o : Nat) (w : World), (w.setCells b o vs).heap.size = w.heap.size
  | [], _, _ => rfl
  | v :: r, o, w => by
    rw [World.setCells, size_setCells b r (o + 1)]
    simp [World.setCell]
theorem os_setCells (b : Nat) : ∀ (vs : List Value) (o : Nat) (w : World), (w.setCells b o vs).os = w.os ∧ (w.setCells b o vs).tape = w.tape ∧ (w.setCells b o vs).output = w.output
  | [], _, _ => ⟨rfl, rfl, rfl⟩
  | v :: r, o, w => by
    rw [World.setCells]
    exact os_setCells b r (o + 1) _

theorem below_setCells {B b : Nat} {w0 w : World} (h : Below B w0 w) (hb : B ≤ b) (o : Nat) (vs : List Value) : Below B w0 (w.setCells b o vs) :=
  h.trans ⟨(os_setCells b vs o w).1, (os_setCells b vs o w).2.1, (os_setCells b vs o w).2.2, by rw [size_setCells]; exact Nat.le_refl _, fun k hk => heap_setCells_other b vs o w k (by omega)⟩

/-- Block g is a row of m bytes of the call's own. -/
def RowB (w : World) (g m : Nat) (x : Nat → Int) : Prop :=
  ∃ cur : Array Value, w.heap[g]? = some (.cells cur 28 (0, 0)) ∧ cur.size = m ∧ ∀ j, j < m → cur[j]? = some (.int .u8 (x j))

theorem RowB.lt {w : World} {g m : Nat} {x : Nat → Int} (h : RowB w g m x) : g < w.heap.size := by
  obtain ⟨cs, hg, _⟩ := h
  exact (Array.getElem?_eq_some_iff.1 hg).1
theorem RowB.below {w w' : World} {B g m : Nat} {x : Nat → Int} (h : RowB w g m x) (hb : Below B w w') (hg : g < B) : RowB w' g m x := by
  obtain ⟨cs, hgg, r⟩ := h
  exact ⟨cs, (hb.block g hg).trans hgg, r⟩

/-- 32 bytes of it -/
def bytesAt (y : Nat → Int) : List Value := (List.range 32).map fun j => Value.int .u8 (y j)
theorem length_bytesAt (y : Nat → Int) : (bytesAt y).length = 32 := by simp [bytesAt]

theorem RowB.range {w : World} {g m : Nat} {x : Nat → Int} (h : RowB w g m x) {o : Nat} (ho : o + 32 ≤ m) : w.rangeAt g o (bytesAt fun j => x (o + j)) := by
  obtain ⟨cs, hg, hs, hc⟩ := h
  intro j v hv
  have hj : j < 32 := by
    have := (List.getElem?_eq_some_iff.1 hv).1
    rwa [length_bytesAt] at this
  rw [cell_of_row w g (o + j) cs 28 (0, 0) hg, hc (o + j) (by omega)]
  simpa [bytesAt, hj] using hv

theorem built50 (y : Nat → Int) : ∃ cs, Trym.prog.built 50 [(0, .agg (bytesAt y).toArray)] = some cs ∧ cs.size = 36 ∧ cs.all (·.oneCell') = true := by
  have h : (Trym.prog.built 50 [(0, .agg ((List.range 32).map fun j => Value.int .u8 (y j)).toArray)]).map (fun cs => (cs.size, cs.all (·.oneCell'))) = some (36, true) := by kernel_rfl
  obtain ⟨cs, h1, h2⟩ := Option.map_eq_some_iff.1 h
  simp only [Prod.mk.injEq] at h2
  exact ⟨cs, h1, h2.1, h2.2⟩

/-- 'copy(dst, src)', dst a row of the call's own from its head, elements of 's' cells -/
theorem wpList_copy_rows {P : Program} {w : World} {ops : Array Oper} {rest : List Oper} {o : Oper} {a : Act} {Q : Exit → Act → World → Prop} (hgd : o.guard = none) (d s : Operand) (dT sT : TypeId)
    (ho : o.op = .call { callee := .builtin .copy, args := #[d, s], argTypes := #[dT, sT] }) (elem : TypeId) (hu : P.underlying dT = some (.slice elem)) (sz : Nat) (hsz : (P.info? elem).map (·.size) = some sz)
    (g n dCap : Nat) (ad : Addr) (sCap : Nat) (hd : a.eval d = .slice (some ⟨g, 0, none⟩) n dCap) (hs : a.eval s = .slice (some ad) n sCap)
    (cur : Array Value) (t : TypeId) (hg : w.heap[g]? = some (.cells cur t (0, 0))) (cs : List Value) (hn : cs.length = n * sz)
    (hsrc : ∀ j v, cs[j]? = some v → w.cell? (ad.add j) = some v) (hfit : cs.length = cur.size) (h1 : ∀ v ∈ cs, v.oneCell' = true)
    (h : ∀ w', w'.heap[g]? = some (.cells cs.toArray t (0, 0)) → (∀ k, k ≠ g → w'.heap[k]? = w.heap[k]?) → w'.heap.size = w.heap.size → w'.os = w.os → w'.tape = w.tape → w'.output = w.output → wpList P ops Q rest (a.put o.dst (goInt n)) w') : wpList P ops Q (o :: rest) a w := by
  refine wpList_plain hgd fun K hK => ?_
  have hl := run_loadCells_list (P := P) w ad cs hsrc
  have hst := run_storeCells_from (P := P) g t cs 0 cur w hg (by omega) h1
  have hrun : (Builtin.copy_ #[dT, sT] o.type #[.slice (some ⟨g, 0, none⟩) n dCap, .slice (some ad) n sCap]).run P w = .ok (goInt n) (w.setRow g cs.toArray) := by
    cases hq : P.info? elem with
    | none => simp [hq] at hsz
    | some i =>
      have hi : i.size = sz := by simpa [hq] using hsz
      have hm : Nat.min n n = n := Nat.min_self n
      simp [Builtin.copy_, run_underlying hu, Builtin.lenOf, Builtin.firstCells, sizeOf, typeInfo, hq, hi, ← hn, hl, hst, hm]
  unfold Oper.wp
  simp [execOp, ho, resolve, invoke, builtin, hd, hs, hrun, Result.andThen]
  exact hK _ _ (h _ (setRow_heap w g cur _ t _ hg) (fun k hk => setRow_other w g k _ hk) (setRow_size _ _ _) rfl rfl rfl)

end Go.Proofs.Qxb6614645aMods
