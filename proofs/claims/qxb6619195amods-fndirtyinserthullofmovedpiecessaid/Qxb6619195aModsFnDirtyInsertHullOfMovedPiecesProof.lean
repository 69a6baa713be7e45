/-
  'Rows.FnDirtyInsertHullOfMovedPiecesSaid', proved. The frame is the shell that came with the seat; the walk is in Qxb6619195aModsHullT.lean, HullF.lean (some0 true, false: the whole law), HullEarly.lean (the first tests), Ins.lean (insert); the plain law in HullPlain.lean.
-/
import Derived.Test.Qxb6619195aModsRows
import Derived.WalkKit
import Derived.ProofKit
import Derived.OpenShut
import Derived.ShutString
import Derived.ChangeOld
import Derived.Below
import Derived.Test.Qxb6619195aModsHullT
import Derived.Test.Qxb6619195aModsHullF
import Derived.Test.Qxb6619195aModsHullEarly
namespace Go.Proofs.Qxb6619195aMods.fnDirtyInsertHullOfMovedPieces
open Go.ChangeShapes Go.WideShapes Go.ChangeAt Go.RowKit
open Go.ChangeMaps (open_string shut_string)
set_option linter.unusedVariables false

theorem own : ownKnob Trym.prog.godebug = none := by kernel_rfl
theorem laidOut : laidOutB Trym.prog = true := by kernel_rfl

/-- WHAT THE WALK IS TOLD OF A SLICE OF INTEGERS THAT CAME IN: it is nil; or it leads to a row of 'cap' cells, the numbers 'zs' (the first 'len' are its elements, the rest its spare room), each fitting its kind. -/
def IsRow (k : IntKind) (w : World) (a : Option Addr) (len cap : Nat) (zs : List Int) : Prop :=
  (a = none ∧ len = 0 ∧ cap = 0 ∧ zs = []) ∨
  ∃ x, a = some x ∧ len ≤ cap ∧ cap ≤ maxLen ∧ zs.length = cap ∧ (∀ i, i < zs.length → w.cell? (x.add i) = some (.int k (zs.getD i 0))) ∧ ∀ n ∈ zs, (Lit.int k n).wf = true

/-- An address that holds something is a plain one, below the heap's end. -/
theorem spot_of {w : World} {x : Addr} {v : Value} (h : w.cell? (x.add 0) = some v) : ∃ b o, x = ⟨b, o, none⟩ ∧ b < w.heap.size := by
  obtain ⟨b, o, s⟩ := x
  have hs : s = none := by simpa [Addr.add] using World.cell?_spot h
  subst hs
  exact ⟨b, o, rfl, by simpa [Addr.add] using World.block_lt_of_cell? _ _ h⟩

/-- What the walk wants to know of a slice: where its first n cells lie. -/
theorem row_view {w : World} {a : Option Addr} {n cap : Nat} {zs : List Int} (h : IsRow .i64 w a n cap zs) :
    ∃ b o, (0 < n → a = some ⟨b, o, none⟩) ∧ (0 < n → b < w.heap.size) ∧ (∀ t, t < n → w.cell? ⟨b, o + t, none⟩ = some (.int .i64 (zs.getD t 0))) ∧
      (∀ t, t < n → -9223372036854775808 ≤ zs.getD t 0 ∧ zs.getD t 0 ≤ 9223372036854775807) := by
  rcases h with ⟨rfl, rfl, rfl, rfl⟩ | ⟨x, rfl, hl, hm, hz, hc, hw⟩
  · exact ⟨0, 0, fun h => absurd h (by omega), fun h => absurd h (by omega), fun t ht => absurd ht (by omega), fun t ht => absurd ht (by omega)⟩
  · have hb : ∀ t, t < n → -9223372036854775808 ≤ zs.getD t 0 ∧ zs.getD t 0 ≤ 9223372036854775807 := fun t ht => by
      have hmem : zs.getD t 0 ∈ zs := by
        have hlt : t < zs.length := by omega
        simp [List.getD, hlt]
      have := bounds_i64 (hw _ hmem)
      omega
    by_cases h0 : 0 < n
    · obtain ⟨b, o, rfl, hlt⟩ := spot_of (hc 0 (by omega))
      refine ⟨b, o, fun _ => rfl, fun _ => hlt, fun t ht => ?_, hb⟩
      rw [← add_plain]
      exact hc t (by omega)
    · exact ⟨0, 0, fun h => absurd h h0, fun h => absurd h h0, fun t ht => absurd ht (by omega), hb⟩

theorem row_len {w : World} {a : Option Addr} {n cap : Nat} {zs : List Int} (h : IsRow .i64 w a n cap zs) : n ≤ maxLen := by
  rcases h with ⟨_, rfl, _, _⟩ | ⟨x, _, hl, hm, _⟩
  · exact Nat.zero_le _
  · exact Nat.le_trans hl hm

theorem walk (a0 : Int) (a1 : Int) (a2 : Int) (a3 : Bool) (a4 : Option Addr) (len4 cap4 : Nat) (z4 : List Int) (a5 : Option Addr) (len5 cap5 : Nat) (z5 : List Int) (w : World) (w0 : (Lit.int .i64 a0).wf = true) (w1 : (Lit.int .i64 a1).wf = true) (w2 : (Lit.int .i64 a2).wf = true) (w4 : IsRow .i64 w a4 len4 cap4 z4) (w5 : IsRow .i64 w a5 len5 cap5 z5) :
    Calls Trym.prog 5 #[.int .i64 a0, .int .i64 a1, .int .i64 a2, .bool a3, .slice a4 len4 cap4, .slice a5 len5 cap5] w fun e w' => e = .returned (.bool true) ∧ Below w.heap.size w w' := by
  by_cases h : len4 ≤ 4096 ∧ len5 ≤ 4096 ∧ len4 = len5 ∧ outB a0 = false ∧ outB a1 = false ∧ outB a2 = false ∧ (a3 = true → a0 ≤ a1)
  · obtain ⟨h1, h2, rfl, h3, h4, h5, h6⟩ := h
    obtain ⟨b1, o1, v1, v2, v3, v4⟩ := row_view w4
    obtain ⟨b2, o2, u1, u2, u3, u4⟩ := row_view w5
    cases a3
    · exact hull_mainF a0 a1 a2 a4 a5 len4 cap4 cap5 w h1 b1 o1 b2 o2 _ _ v1 u1 v2 u2 v3 u3 h3 h4 h5 h6
    · exact hull_mainT a0 a1 a2 a4 a5 len4 cap4 cap5 w h1 b1 o1 b2 o2 _ _ v1 u1 v2 u2 v3 u3 h3 h4 h5 h6
  · exact hull_early a0 a1 a2 a3 a4 len4 cap4 a5 len5 cap5 w (row_len w4) (row_len w5) h

/-! ### THE ROW's STEP: WRITTEN OUT: LEAVE IT -/
set_option maxRecDepth 100000 in
theorem lifted (os : Os) (started : os.Started) (H : Type) (enc : TypeId × Value → H) :
    ReturnsInHanded {} Trym.checked os 5 .any (Rows.fnDirtyInsertHullOfMovedPiecesSpec.pre6 enc Trym.prog Trym.f5 Rows.fnDirtyInsertHullOfMovedPiecesRow.domain false) (Rows.fnDirtyInsertHullOfMovedPiecesSpec.post enc Trym.prog Trym.f5 false true false false) := by
  refine returnsInHanded_of_change (C := Trym.checked) own started (by kernel_rfl) Trym.func5
    (ChangeSpec.witness6 (enc := enc) (C := Trym.checked) false ⟨#[], #[.int .i64 0, .int .i64 0, .int .i64 0, .bool false, .slice none 0 0, .slice none 0 0], []⟩ 8 (by kernel_rfl) (by kernel_rfl) (by kernel_rfl) (by kernel_rfl)) ?_
  intro W base args ds gs before hval0 hW hcnd _
  have hval : ∀ (j : Nat) t v, Trym.f5.params[j]? = some t → args[j]? = some v → Value.okWide Trym.prog W .any base t v := hval0
  have hW' := hW
  obtain ⟨p, q, hA0, hV, rfl, hfz, hnd⟩ := hW
  have hA : DataW.TrodAll enc Trym.prog W 0 (fun _ => true) true Trym.f5.params.toList args.toList ds p := hA0
  rw [Trym.params5] at hA hval
  obtain ⟨v0, vs0, d0, ds0, p0, q0, hargs, rfl, rfl, h0, r0⟩ := trodAll_cons hA
  obtain ⟨v1, vs1, d1, ds1, p1, q1, rfl, rfl, rfl, h1, r1⟩ := trodAll_cons r0
  obtain ⟨v2, vs2, d2, ds2, p2, q2, rfl, rfl, rfl, h2, r2⟩ := trodAll_cons r1
  obtain ⟨v3, vs3, d3, ds3, p3, q3, rfl, rfl, rfl, h3, r3⟩ := trodAll_cons r2
  obtain ⟨v4, vs4, d4, ds4, p4, q4, rfl, rfl, rfl, h4, r4⟩ := trodAll_cons r3
  obtain ⟨v5, vs5, d5, ds5, p5, q5, rfl, rfl, rfl, h5, r5⟩ := trodAll_cons r4
  obtain ⟨rfl, rfl, rfl⟩ := trodAll_nil r5
  obtain rfl : args = #[v0, v1, v2, v3, v4, v5] := by cases args; simp_all
  obtain ⟨rfl, rfl⟩ := trodVars_none hV
  obtain ⟨a0, rfl, rfl, rfl, w0⟩ := open_int Trym.underlying3 (hval 0 3 v0 rfl rfl) h0
  obtain ⟨a1, rfl, rfl, rfl, w1⟩ := open_int Trym.underlying3 (hval 1 3 v1 rfl rfl) h1
  obtain ⟨a2, rfl, rfl, rfl, w2⟩ := open_int Trym.underlying3 (hval 2 3 v2 rfl rfl) h2
  obtain ⟨a3, rfl, rfl, rfl⟩ := open_bool Trym.underlying4 (hval 3 4 v3 rfl rfl) h3
  obtain ⟨a4, len4, cap4, rfl⟩ := okWide_slice Trym.underlying30 (hval 4 30 v4 rfl rfl)
  have k4 := h4
  have lt4 : ∀ x ∈ p4, x.block < W.heap.size := by obtain ⟨m, hm⟩ := k4; exact DataW.trod_lt m _ _ _ hm
  obtain ⟨z4, w4⟩ : ∃ zs, IsRow .i64 W a4 len4 cap4 zs := by
    obtain ⟨fuel, hf⟩ := h4
    rcases open_ints Trym.underlying30 Trym.underlying3 (by kernel_rfl) hf with ⟨hcs, _⟩ | ⟨x, l, c, zs, hcs, _, hl, hm, hz, _, hcell, hwz⟩
    · simp [Value.cells] at hcs
      obtain ⟨rfl, rfl, rfl⟩ := hcs
      exact ⟨[], .inl ⟨rfl, rfl, rfl, rfl⟩⟩
    · simp [Value.cells] at hcs
      obtain ⟨rfl, rfl, rfl⟩ := hcs
      exact ⟨zs, .inr ⟨_, rfl, hl, hm, by simpa using hz, hcell, hwz⟩⟩
  obtain ⟨a5, len5, cap5, rfl⟩ := okWide_slice Trym.underlying30 (hval 5 30 v5 rfl rfl)
  have k5 := h5
  have lt5 : ∀ x ∈ p5, x.block < W.heap.size := by obtain ⟨m, hm⟩ := k5; exact DataW.trod_lt m _ _ _ hm
  obtain ⟨z5, w5⟩ : ∃ zs, IsRow .i64 W a5 len5 cap5 zs := by
    obtain ⟨fuel, hf⟩ := h5
    rcases open_ints Trym.underlying30 Trym.underlying3 (by kernel_rfl) hf with ⟨hcs, _⟩ | ⟨x, l, c, zs, hcs, _, hl, hm, hz, _, hcell, hwz⟩
    · simp [Value.cells] at hcs
      obtain ⟨rfl, rfl, rfl⟩ := hcs
      exact ⟨[], .inl ⟨rfl, rfl, rfl, rfl⟩⟩
    · simp [Value.cells] at hcs
      obtain ⟨rfl, rfl, rfl⟩ := hcs
      exact ⟨zs, .inr ⟨_, rfl, hl, hm, by simpa using hz, hcell, hwz⟩⟩
  clear hA0 hval0
  refine (walk a0 a1 a2 a3 a4 len4 cap4 z4 a5 len5 cap5 z5 W w0 w1 w2 w4 w5).mono fun e W' ⟨he, bel⟩ => ?_
  subst he
  exact ⟨_, rfl, _, _, _, [], _, [], hW', trodAll_mk1 (shut_bool Trym.underlying4 _), (trodAll_cons_mk (shut_int Trym.underlying3 w0) (trodAll_cons_mk (shut_int Trym.underlying3 w1) (trodAll_cons_mk (shut_int Trym.underlying3 w2) (trodAll_cons_mk (shut_bool Trym.underlying4 _) (trodAll_cons_mk (Below.trod laidOut (by kernel_rfl) (of_decide_eq_true (by kernel_rfl)) k4 bel lt4) (trodAll_cons_mk (Below.trod laidOut (by kernel_rfl) (of_decide_eq_true (by kernel_rfl)) k5 bel lt5) trodAll_mk0)))))), rfl, bel.frame _, fun h => by cases h⟩

theorem over : Rows.fnDirtyInsertHullOfMovedPiecesRow.holds Trym.pinned (OpenSpec.ofChange Rows.fnDirtyInsertHullOfMovedPiecesSpec) :=
  OpenClaim.holds_of_wide 5 Trym.f5 rfl rfl rfl rfl rfl rfl rfl ⟨rfl, rfl, rfl, rfl, rfl⟩ rfl rfl rfl rfl rfl (by kernel_rfl) Trym.func5 (by kernel_rfl)
    (of_decide_eq_true (by kernel_rfl)) (by unfold Func.isWrapper; first | (rw [if_pos (by decide +kernel)]; kernel_rfl) | (rw [if_neg (by decide +kernel)]; exact ⟨rfl, rfl⟩))
    (fun os started H enc _ => lifted os started H enc)

/-- ████ THE STATEMENT ████ -/
theorem proved : Rows.FnDirtyInsertHullOfMovedPiecesSaid := over
#print axioms proved
end Go.Proofs.Qxb6619195aMods.fnDirtyInsertHullOfMovedPieces
