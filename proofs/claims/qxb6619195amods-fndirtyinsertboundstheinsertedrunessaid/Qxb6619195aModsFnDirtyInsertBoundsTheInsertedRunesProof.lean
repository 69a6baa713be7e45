/-
  'Rows.FnDirtyInsertBoundsTheInsertedRunesSaid', proved. The frame is the shell that came with the seat; the walk is in Qxb6619195aModsBnd.lean (the whole law), Qxb6619195aModsEarly.lean (the first tests), Qxb6619195aModsIns.lean (insert); the plain law in Qxb6619195aModsPlain.lean.
-/
import Derived.Test.Qxb6619195aModsRows
import Derived.WalkKit
import Derived.ProofKit
import Derived.OpenShut
import Derived.ShutString
import Derived.ChangeOld
import Derived.Below
import Derived.Test.Qxb6619195aModsBnd
import Derived.Test.Qxb6619195aModsEarly
namespace Go.Proofs.Qxb6619195aMods.fnDirtyInsertBoundsTheInsertedRunes
open Go.ChangeShapes Go.WideShapes Go.ChangeAt Go.RowKit
open Go.ChangeMaps (open_string shut_string)
set_option linter.unusedVariables false

theorem own : ownKnob Trym.prog.godebug = none := by kernel_rfl
theorem laidOut : laidOutB Trym.prog = true := by kernel_rfl

/-- WHAT THE WALK IS TOLD OF A SLICE OF INTEGERS THAT CAME IN: it is nil; or it leads to a row of 'cap' cells, the numbers 'zs' (the first 'len' are its elements, the rest its spare room), each fitting its kind. -/
def IsRow (k : IntKind) (w : World) (a : Option Addr) (len cap : Nat) (zs : List Int) : Prop :=
  (a = none ∧ len = 0 ∧ cap = 0 ∧ zs = []) ∨
  ∃ x, a = some x ∧ len ≤ cap ∧ cap ≤ maxLen ∧ zs.length = cap ∧ (∀ i, i < zs.length → w.cell? (x.add i) = some (.int k (zs.getD i 0))) ∧ ∀ n ∈ zs, (Lit.int k n).wf = true

/-- An address that holds something is a plain one, below the heap's end. -/
theorem spot_of {w : World} {x : Addr} {v : Value} (h : w.cell? (x.add 0) = some v) : ∃ b o, x = ⟨b, o, none⟩ ∧ b < w.heap.size := by
  obtain ⟨b, o, s⟩ := x
  have hs : s = none := by simpa [Addr.add] using World.cell?_spot h
  subst hs
  exact ⟨b, o, rfl, by simpa [Addr.add] using World.block_lt_of_cell? _ _ h⟩

/-- What the walk wants to know of a slice: where its first n cells lie. -/
theorem row_view {w : World} {a : Option Addr} {n cap : Nat} {zs : List Int} (h : IsRow .i64 w a n cap zs) :
    ∃ b o, (0 < n → a = some ⟨b, o, none⟩) ∧ (0 < n → b < w.heap.size) ∧ (∀ t, t < n → w.cell? ⟨b, o + t, none⟩ = some (.int .i64 (zs.getD t 0))) ∧
      (∀ t, t < n → -9223372036854775808 ≤ zs.getD t 0 ∧ zs.getD t 0 ≤ 9223372036854775807) := by
  rcases h with ⟨rfl, rfl, rfl, rfl⟩ | ⟨x, rfl, hl, hm, hz, hc, hw⟩
  · exact ⟨0, 0, fun h => absurd h (by omega), fun h => absurd h (by omega), fun t ht => absurd ht (by omega), fun t ht => absurd ht (by omega)⟩
  · have hb : ∀ t, t < n → -9223372036854775808 ≤ zs.getD t 0 ∧ zs.getD t 0 ≤ 9223372036854775807 := fun t ht => by
      have hmem : zs.getD t 0 ∈ zs := by
        have hlt : t < zs.length := by omega
        simp [List.getD, hlt]
      have := bounds_i64 (hw _ hmem)
      omega
    by_cases h0 : 0 < n
    · obtain ⟨b, o, rfl, hlt⟩ := spot_of (hc 0 (by omega))
      refine ⟨b, o, fun _ => rfl, fun _ => hlt, fun t ht => ?_, hb⟩
      rw [← add_plain]
      exact hc t (by omega)
    · exact ⟨0, 0, fun h => absurd h h0, fun h => absurd h h0, fun t ht => absurd ht (by omega), hb⟩

theorem row_len {w : World} {a : Option Addr} {n cap : Nat} {zs : List Int} (h : IsRow .i64 w a n cap zs) : n ≤ maxLen := by
  rcases h with ⟨_, rfl, _, _⟩ | ⟨x, _, hl, hm, _⟩
  · exact Nat.zero_le _
  · exact Nat.le_trans hl hm

theorem walk (a0 : Int) (a1 : Option Addr) (len1 cap1 : Nat) (z1 : List Int) (a2 : Option Addr) (len2 cap2 : Nat) (z2 : List Int) (w : World) (w0 : (Lit.int .i64 a0).wf = true) (w1 : IsRow .i64 w a1 len1 cap1 z1) (w2 : IsRow .i64 w a2 len2 cap2 z2) :
    Calls Trym.prog 6 #[.int .i64 a0, .slice a1 len1 cap1, .slice a2 len2 cap2] w fun e w' => e = .returned (.bool true) ∧ Below w.heap.size w w' := by
  by_cases h : len1 ≤ 4096 ∧ len2 ≤ 4096 ∧ len1 = len2 ∧ 0 ≤ a0 ∧ a0 ≤ 65536
  · obtain ⟨h1, h2, rfl, h3, h4⟩ := h
    obtain ⟨b1, o1, v1, v2, v3, v4⟩ := row_view w1
    obtain ⟨b2, o2, u1, u2, u3, u4⟩ := row_view w2
    obtain ⟨L, rfl⟩ : ∃ L : Nat, a0 = (L : Int) := ⟨a0.toNat, by omega⟩
    exact bnd_main L a1 a2 len1 cap1 cap2 w (by omega) h1 b1 o1 b2 o2 _ _ v1 u1 v2 u2 v3 u3 v4 u4
  · exact bnd_early a0 a1 len1 cap1 a2 len2 cap2 w (row_len w1) (row_len w2) h

/-! ### THE ROW's STEP: WRITTEN OUT: LEAVE IT -/
set_option maxRecDepth 100000 in
theorem lifted (os : Os) (started : os.Started) (H : Type) (enc : TypeId × Value → H) :
    ReturnsInHanded {} Trym.checked os 6 .any (Rows.fnDirtyInsertBoundsTheInsertedRunesSpec.pre6 enc Trym.prog Trym.f6 Rows.fnDirtyInsertBoundsTheInsertedRunesRow.domain false) (Rows.fnDirtyInsertBoundsTheInsertedRunesSpec.post enc Trym.prog Trym.f6 false true false false) := by
  refine returnsInHanded_of_change (C := Trym.checked) own started (by kernel_rfl) Trym.func6
    (ChangeSpec.witness6 (enc := enc) (C := Trym.checked) false ⟨#[], #[.int .i64 0, .slice none 0 0, .slice none 0 0], []⟩ 8 (by kernel_rfl) (by kernel_rfl) (by kernel_rfl) (by kernel_rfl)) ?_
  intro W base args ds gs before hval0 hW hcnd _
  have hval : ∀ (j : Nat) t v, Trym.f6.params[j]? = some t → args[j]? = some v → Value.okWide Trym.prog W .any base t v := hval0
  have hW' := hW
  obtain ⟨p, q, hA0, hV, rfl, hfz, hnd⟩ := hW
  have hA : DataW.TrodAll enc Trym.prog W 0 (fun _ => true) true Trym.f6.params.toList args.toList ds p := hA0
  rw [Trym.params6] at hA hval
  obtain ⟨v0, vs0, d0, ds0, p0, q0, hargs, rfl, rfl, h0, r0⟩ := trodAll_cons hA
  obtain ⟨v1, vs1, d1, ds1, p1, q1, rfl, rfl, rfl, h1, r1⟩ := trodAll_cons r0
  obtain ⟨v2, vs2, d2, ds2, p2, q2, rfl, rfl, rfl, h2, r2⟩ := trodAll_cons r1
  obtain ⟨rfl, rfl, rfl⟩ := trodAll_nil r2
  obtain rfl : args = #[v0, v1, v2] := by cases args; simp_all
  obtain ⟨rfl, rfl⟩ := trodVars_none hV
  obtain ⟨a0, rfl, rfl, rfl, w0⟩ := open_int Trym.underlying3 (hval 0 3 v0 rfl rfl) h0
  obtain ⟨a1, len1, cap1, rfl⟩ := okWide_slice Trym.underlying30 (hval 1 30 v1 rfl rfl)
  have k1 := h1
  have lt1 : ∀ x ∈ p1, x.block < W.heap.size := by obtain ⟨m, hm⟩ := k1; exact DataW.trod_lt m _ _ _ hm
  obtain ⟨z1, w1⟩ : ∃ zs, IsRow .i64 W a1 len1 cap1 zs := by
    obtain ⟨fuel, hf⟩ := h1
    rcases open_ints Trym.underlying30 Trym.underlying3 (by kernel_rfl) hf with ⟨hcs, _⟩ | ⟨x, l, c, zs, hcs, _, hl, hm, hz, _, hcell, hwz⟩
    · simp [Value.cells] at hcs
      obtain ⟨rfl, rfl, rfl⟩ := hcs
      exact ⟨[], .inl ⟨rfl, rfl, rfl, rfl⟩⟩
    · simp [Value.cells] at hcs
      obtain ⟨rfl, rfl, rfl⟩ := hcs
      exact ⟨zs, .inr ⟨_, rfl, hl, hm, by simpa using hz, hcell, hwz⟩⟩
  obtain ⟨a2, len2, cap2, rfl⟩ := okWide_slice Trym.underlying30 (hval 2 30 v2 rfl rfl)
  have k2 := h2
  have lt2 : ∀ x ∈ p2, x.block < W.heap.size := by obtain ⟨m, hm⟩ := k2; exact DataW.trod_lt m _ _ _ hm
  obtain ⟨z2, w2⟩ : ∃ zs, IsRow .i64 W a2 len2 cap2 zs := by
    obtain ⟨fuel, hf⟩ := h2
    rcases open_ints Trym.underlying30 Trym.underlying3 (by kernel_rfl) hf with ⟨hcs, _⟩ | ⟨x, l, c, zs, hcs, _, hl, hm, hz, _, hcell, hwz⟩
    · simp [Value.cells] at hcs
      obtain ⟨rfl, rfl, rfl⟩ := hcs
      exact ⟨[], .inl ⟨rfl, rfl, rfl, rfl⟩⟩
    · simp [Value.cells] at hcs
      obtain ⟨rfl, rfl, rfl⟩ := hcs
      exact ⟨zs, .inr ⟨_, rfl, hl, hm, by simpa using hz, hcell, hwz⟩⟩
  clear hA0 hval0
  refine (walk a0 a1 len1 cap1 z1 a2 len2 cap2 z2 W w0 w1 w2).mono fun e W' ⟨he, bel⟩ => ?_
  subst he
  exact ⟨_, rfl, _, _, _, [], _, [], hW', trodAll_mk1 (shut_bool Trym.underlying4 _), (trodAll_cons_mk (shut_int Trym.underlying3 w0) (trodAll_cons_mk (Below.trod laidOut (by kernel_rfl) (of_decide_eq_true (by kernel_rfl)) k1 bel lt1) (trodAll_cons_mk (Below.trod laidOut (by kernel_rfl) (of_decide_eq_true (by kernel_rfl)) k2 bel lt2) trodAll_mk0))), rfl, bel.frame _, fun h => by cases h⟩

theorem over : Rows.fnDirtyInsertBoundsTheInsertedRunesRow.holds Trym.pinned (OpenSpec.ofChange Rows.fnDirtyInsertBoundsTheInsertedRunesSpec) :=
  OpenClaim.holds_of_wide 6 Trym.f6 rfl rfl rfl rfl rfl rfl rfl ⟨rfl, rfl, rfl, rfl, rfl⟩ rfl rfl rfl rfl rfl (by kernel_rfl) Trym.func6 (by kernel_rfl)
    (of_decide_eq_true (by kernel_rfl)) (by unfold Func.isWrapper; first | (rw [if_pos (by decide +kernel)]; kernel_rfl) | (rw [if_neg (by decide +kernel)]; exact ⟨rfl, rfl⟩))
    (fun os started H enc _ => lifted os started H enc)

/-- ████ THE STATEMENT ████ -/
theorem proved : Rows.FnDirtyInsertBoundsTheInsertedRunesSaid := over
#print axioms proved
end Go.Proofs.Qxb6619195aMods.fnDirtyInsertBoundsTheInsertedRunes
