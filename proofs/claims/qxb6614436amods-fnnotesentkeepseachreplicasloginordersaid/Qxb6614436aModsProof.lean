/-
  'Rows.FnNoteSentKeepsEachReplicasLogInOrderSaid', proved. The frame is that of the skeleton tool's shells (one slice argument), the argument opened as a slice of structs; the walk: Qxb6614436aModsMain.lean (the law), Law.lean (its ends), Reads.lean, Replay.lean, NoteFirst.lean, Note.lean (its callees), Log.lean (what the map holds), Plain.lean (without Go).
-/
import Derived.Test.Qxb6614436aModsRows
import Derived.WalkKit
import Derived.ProofKit
import Derived.OpenShut
import Derived.ShutString
import Derived.ChangeOld
import Derived.Below
import Derived.Deep.Slices
import Derived.Deep.Strs
import Derived.Test.Qxb6614436aModsMain
namespace Go.Proofs.Qxb6614436aMods.fnNoteSentKeepsEachReplicasLogInOrder
open Go.ChangeShapes Go.WideShapes Go.ChangeAt Go.RowKit
set_option linter.unusedVariables false

theorem own : ownKnob Trym.prog.godebug = none := by kernel_rfl
theorem laidOut : laidOutB Trym.prog = true := by kernel_rfl
theorem cells28 : Trym.prog.cellsOf 28 = 3 := by kernel_rfl
theorem cells3 : Trym.prog.cellsOf 3 = 1 := by kernel_rfl
theorem cells4 : Trym.prog.cellsOf 4 = 1 := by kernel_rfl

/-- WHAT THE WALK IS TOLD OF THE SLICE OF STEPS THAT CAME IN. -/
def IsSteps (w : World) (a : Option Addr) (len cap : Nat) : Prop :=
  len ≤ maxLen ∧ (0 < len → ∃ (b o : Nat) (to kk : Nat → Int) (ak : Nat → Bool), a = some ⟨b, o, none⟩ ∧ b < w.heap.size ∧ (∀ t, t < len → w.cell? ⟨b, o + t * 3, none⟩ = some (.int .i64 (to t))) ∧ (∀ t, t < len → w.cell? ⟨b, o + t * 3 + 1, none⟩ = some (.int .i64 (kk t))) ∧
    (∀ t, t < len → w.cell? ⟨b, o + t * 3 + 2, none⟩ = some (.bool (ak t))) ∧ ∀ t, t < len → (Lit.int .i64 (to t)).wf = true)

theorem walk (a : Option Addr) (len cap : Nat) (w : World) (h : IsSteps w a len cap) : Calls Trym.prog 3 #[.slice a len cap] w fun e w' => e = .returned (.bool true) ∧ Below w.heap.size w w' := by
  obtain ⟨hm, h⟩ := h
  by_cases h0 : len = 0
  · subst h0
    exact law_none a cap w
  · obtain ⟨b, o, to, kk, ak, rfl, hb, h1, h2, h3, h4⟩ := h (by omega)
    by_cases hl : len ≤ 4096
    · exact law_main len cap w hl (by omega) b o to kk ak hb h1 h2 h3 h4
    · exact law_long _ len cap w (by omega) hm

theorem opened {H : Type} {enc : TypeId × Value → H} {w : World} {a : Option Addr} {len cap fuel : Nat} {x : DataW H × List MemPlace}
    (h : DataW.trod enc Trym.prog w 0 (fun _ => true) true fuel 22 [.slice a len cap] = some x) : IsSteps w a len cap := by
  rcases Deep.open_slice Trym.underlying22 h with ⟨hcs, _⟩ | ⟨x0, l, c, m, n, D, Pl, hcs, _, hl, hm, hmm, _, hx⟩
  · simp at hcs
    obtain ⟨rfl, rfl, rfl⟩ := hcs
    exact ⟨Nat.zero_le _, fun h => absurd h (by omega)⟩
  · simp at hcs
    obtain ⟨rfl, rfl, rfl⟩ := hcs
    simp only [if_true] at hmm
    subst hmm
    refine ⟨Nat.le_trans hl hm, fun h0 => ?_⟩
    rw [cells28] at hx
    -- each element: its three cells
    have each : ∀ t, t < len → ∃ q : Int × Int × Bool, w.cell? (x0.add (t * 3)) = some (.int .i64 q.1) ∧ w.cell? (x0.add (t * 3 + 1)) = some (.int .i64 q.2.1) ∧ w.cell? (x0.add (t * 3 + 2)) = some (.bool q.2.2) ∧ (Lit.int .i64 q.1).wf = true := by
      intro t ht
      obtain ⟨cs, h1, h2⟩ := hx t (by omega)
      obtain ⟨_, hlen, hc⟩ := World.cells?_some h1
      obtain ⟨y0, y1, y2, n', _, _, g0, g1, g2⟩ := Deep.trod_struct3 Trym.underlying28 h2
      match cs, hlen with
      | [v0, v1, v2], _ =>
        simp only [cells3, cells4, List.drop_zero, List.drop_succ_cons, List.take_succ_cons, List.take_zero] at g0 g1 g2
        obtain ⟨n0, e0, _, w0⟩ := DataW.trod_int Trym.underlying3 g0
        obtain ⟨n1, e1, _, _⟩ := DataW.trod_int Trym.underlying3 g1
        obtain ⟨b2, e2, _⟩ := DataW.trod_bool Trym.underlying4 g2
        simp at e0 e1 e2
        subst e0 e1 e2
        have k0 := hc 0 (by omega)
        have k1 := hc 1 (by omega)
        have k2 := hc 2 (by omega)
        rw [Deep.add_add] at k0 k1 k2
        exact ⟨(n0, n1, b2), by simpa using k0, by simpa using k1, by simpa using k2, w0⟩
    obtain ⟨f, hf⟩ := Deep.choose_lt each
    obtain ⟨k0, _⟩ := hf 0 h0
    obtain ⟨b, o, s⟩ := x0
    have hs : s = none := by simpa [Addr.add] using World.cell?_spot k0
    subst hs
    have hb : b < w.heap.size := by simpa [Addr.add] using World.block_lt_of_cell? _ _ k0
    refine ⟨b, o, fun t => (f t).1, fun t => (f t).2.1, fun t => (f t).2.2, rfl, hb, fun t ht => ?_, fun t ht => ?_, fun t ht => ?_, fun t ht => (hf t ht).2.2.2⟩
    · have := (hf t ht).1; rwa [add_plain] at this
    · have := (hf t ht).2.1; rwa [add_plain, ← Nat.add_assoc] at this
    · have := (hf t ht).2.2.1; rwa [add_plain, ← Nat.add_assoc] at this

/-! ### THE ROW's STEP -/
set_option maxRecDepth 100000 in
theorem lifted (os : Os) (started : os.Started) (H : Type) (enc : TypeId × Value → H) :
    ReturnsInHanded {} Trym.checked os 3 .any (Rows.fnNoteSentKeepsEachReplicasLogInOrderSpec.pre6 enc Trym.prog Trym.f3 Rows.fnNoteSentKeepsEachReplicasLogInOrderRow.domain false) (Rows.fnNoteSentKeepsEachReplicasLogInOrderSpec.post enc Trym.prog Trym.f3 false true false false) := by
  refine returnsInHanded_of_change (C := Trym.checked) own started (by kernel_rfl) Trym.func3
    (ChangeSpec.witness6 (enc := enc) (C := Trym.checked) false ⟨#[], #[.slice none 0 0], []⟩ 8 (by kernel_rfl) (by kernel_rfl) (by kernel_rfl) (by kernel_rfl)) ?_
  intro W base args ds gs before hval0 hW hcnd _
  have hval : ∀ (j : Nat) t v, Trym.f3.params[j]? = some t → args[j]? = some v → Value.okWide Trym.prog W .any base t v := hval0
  have hW' := hW
  obtain ⟨p, q, hA0, hV, rfl, hfz, hnd⟩ := hW
  have hA : DataW.TrodAll enc Trym.prog W 0 (fun _ => true) true Trym.f3.params.toList args.toList ds p := hA0
  rw [Trym.params3] at hA hval
  obtain ⟨v0, vs0, d0, ds0, p0, q0, hargs, rfl, rfl, h0, r0⟩ := trodAll_cons hA
  obtain ⟨rfl, rfl, rfl⟩ := trodAll_nil r0
  obtain rfl : args = #[v0] := by cases args; simp_all
  obtain ⟨rfl, rfl⟩ := trodVars_none hV
  obtain ⟨a0, len0, cap0, rfl⟩ := okWide_slice Trym.underlying22 (hval 0 22 v0 rfl rfl)
  have k0 := h0
  have lt0 : ∀ x ∈ p0, x.block < W.heap.size := by obtain ⟨m, hm⟩ := k0; exact DataW.trod_lt m _ _ _ hm
  have w0 : IsSteps W a0 len0 cap0 := by
    obtain ⟨fuel, hf⟩ := h0
    exact opened (by simpa [Value.cells] using hf)
  clear hA0 hval0
  refine (walk a0 len0 cap0 W w0).mono fun e W' ⟨he, bel⟩ => ?_
  subst he
  exact ⟨_, rfl, _, _, _, [], _, [], hW', trodAll_mk1 (shut_bool Trym.underlying4 _), (trodAll_cons_mk (Below.trod laidOut (by kernel_rfl) (of_decide_eq_true (by kernel_rfl)) k0 bel lt0) trodAll_mk0), rfl, bel.frame _, fun h => by cases h⟩

theorem over : Rows.fnNoteSentKeepsEachReplicasLogInOrderRow.holds Trym.pinned (OpenSpec.ofChange Rows.fnNoteSentKeepsEachReplicasLogInOrderSpec) :=
  OpenClaim.holds_of_wide 3 Trym.f3 rfl rfl rfl rfl rfl rfl rfl ⟨rfl, rfl, rfl, rfl, rfl⟩ rfl rfl rfl rfl rfl (by kernel_rfl) Trym.func3 (by kernel_rfl)
    (of_decide_eq_true (by kernel_rfl)) (by unfold Func.isWrapper; first | (rw [if_pos (by decide +kernel)]; kernel_rfl) | (rw [if_neg (by decide +kernel)]; exact ⟨rfl, rfl⟩))
    (fun os started H enc _ => lifted os started H enc)

theorem proved : Rows.FnNoteSentKeepsEachReplicasLogInOrderSaid := over
#print axioms proved
end Go.Proofs.Qxb6614436aMods.fnNoteSentKeepsEachReplicasLogInOrder
