/-
  'Rows.FnFindBodyPaddedIsMaxSilentLongSaid', proved. The frame is that of the skeleton tool's shells (one slice argument), the argument opened as a slice of arrays of 32 bytes; the walk: Qxb6614645aModsMain.lean (the law), Law.lean (its ends), Msg.lean, MsgOn.lean (ZZfindMessage), Size.lean (bodySize), Mem.lean (rows of bytes, copy).
-/
import Derived.Test.Qxb6614645aModsRows
import Derived.WalkKit
import Derived.ProofKit
import Derived.OpenShut
import Derived.ShutString
import Derived.ChangeOld
import Derived.Below
import Derived.Deep.Slices
import Derived.Test.Qxb6614645aModsMain
namespace Go.Proofs.Qxb6614645aMods.fnFindBodyPaddedIsMaxSilentLong
open Go.ChangeShapes Go.WideShapes Go.ChangeAt Go.RowKit
set_option linter.unusedVariables false

theorem own : ownKnob Trym.prog.godebug = none := by kernel_rfl
theorem laidOut : laidOutB Trym.prog = true := by kernel_rfl
theorem cells28 : Trym.prog.cellsOf 28 = 32 := by kernel_rfl
theorem cells5 : Trym.prog.cellsOf 5 = 1 := by kernel_rfl

/-- WHAT THE WALK IS TOLD OF THE SLICE THAT CAME IN. -/
def IsIDs (w : World) (a : Option Addr) (len cap : Nat) : Prop :=
  (a = none ∧ len = 0 ∧ cap = 0) ∨ (len ≤ maxLen ∧ ∃ ad, a = some ad ∧ ∃ x : Nat → Int, ∀ j, j < len * 32 → w.cell? (ad.add j) = some (.int .u8 (x j)))

theorem walk (a : Option Addr) (len cap : Nat) (w : World) (h : IsIDs w a len cap) : Calls Trym.prog 3 #[.slice a len cap] w fun e w' => e = .returned (.bool true) ∧ Below w.heap.size w w' := by
  rcases h with ⟨rfl, rfl, rfl⟩ | ⟨hm, ad, rfl, x, hx⟩
  · exact law_nil w
  · by_cases hl : len ≤ 32768
    · exact law_on ad len cap x w hl hx
    · exact law_long _ len cap w (by omega) hm

theorem opened {H : Type} {enc : TypeId × Value → H} {w : World} {a : Option Addr} {len cap fuel : Nat} {x : DataW H × List MemPlace}
    (h : DataW.trod enc Trym.prog w 0 (fun _ => true) true fuel 22 [.slice a len cap] = some x) : IsIDs w a len cap := by
  rcases Deep.open_slice Trym.underlying22 h with ⟨hcs, _⟩ | ⟨x0, l, c, m, n, D, Pl, hcs, _, hl, hm, hmm, _, hx⟩
  · simp at hcs
    obtain ⟨rfl, rfl, rfl⟩ := hcs
    exact .inl ⟨rfl, rfl, rfl⟩
  · simp at hcs
    obtain ⟨rfl, rfl, rfl⟩ := hcs
    simp only [if_true] at hmm
    subst hmm
    refine .inr ⟨Nat.le_trans hl hm, x0, rfl, ?_⟩
    rw [cells28] at hx
    -- each cell is a byte
    have each : ∀ j, j < len * 32 → ∃ q : Int, w.cell? (x0.add j) = some (.int .u8 q) := by
      intro j hj
      have ht : j / 32 < len := by omega
      have hr : j % 32 < 32 := Nat.mod_lt _ (by omega)
      obtain ⟨cs, h1, h2⟩ := hx (j / 32) (by omega)
      obtain ⟨_, hlen, hc⟩ := World.cells?_some h1
      obtain ⟨xs, k, _, _, _, hxl, hel⟩ := DataW.trod_array Trym.underlying28 h2
      have g := hel (j % 32) hr
      rw [cells5, Nat.mul_one, List.getElem?_eq_getElem (by omega)] at g
      obtain ⟨q, e, _, _⟩ := DataW.trod_int Trym.underlying5 g
      have hcj := hc (j % 32) hr
      rw [Deep.add_add, show j / 32 * 32 + j % 32 = j from by omega] at hcj
      have hlt : j % 32 < cs.length := by omega
      have e2 : cs[j % 32]? = some (.int .u8 q) := by
        have := congrArg (fun l => l[0]?) e
        simpa [List.getElem?_take, List.getElem?_drop] using this
      exact ⟨q, hcj.trans e2⟩
    exact Deep.choose_lt each

/-! ### THE ROW's STEP -/
set_option maxRecDepth 100000 in
theorem lifted (os : Os) (started : os.Started) (H : Type) (enc : TypeId × Value → H) :
    ReturnsInHanded {} Trym.checked os 3 .any (Rows.fnFindBodyPaddedIsMaxSilentLongSpec.pre6 enc Trym.prog Trym.f3 Rows.fnFindBodyPaddedIsMaxSilentLongRow.domain false) (Rows.fnFindBodyPaddedIsMaxSilentLongSpec.post enc Trym.prog Trym.f3 false true false false) := by
  refine returnsInHanded_of_change (C := Trym.checked) own started (by kernel_rfl) Trym.func3
    (ChangeSpec.witness6 (enc := enc) (C := Trym.checked) false ⟨#[], #[.slice none 0 0], []⟩ 8 (by kernel_rfl) (by kernel_rfl) (by kernel_rfl) (by kernel_rfl)) ?_
  intro W base args ds gs before hval0 hW hcnd _
  have hval : ∀ (j : Nat) t v, Trym.f3.params[j]? = some t → args[j]? = some v → Value.okWide Trym.prog W .any base t v := hval0
  have hW' := hW
  obtain ⟨p, q, hA0, hV, rfl, hfz, hnd⟩ := hW
  have hA : DataW.TrodAll enc Trym.prog W 0 (fun _ => true) true Trym.f3.params.toList args.toList ds p := hA0
  rw [Trym.params3] at hA hval
  obtain ⟨v0, vs0, d0, ds0, p0, q0, hargs, rfl, rfl, h0, r0⟩ := trodAll_cons hA
  obtain ⟨rfl, rfl, rfl⟩ := trodAll_nil r0
  obtain rfl : args = #[v0] := by cases args; simp_all
  obtain ⟨rfl, rfl⟩ := trodVars_none hV
  obtain ⟨a0, len0, cap0, rfl⟩ := okWide_slice Trym.underlying22 (hval 0 22 v0 rfl rfl)
  have k0 := h0
  have lt0 : ∀ x ∈ p0, x.block < W.heap.size := by obtain ⟨m, hm⟩ := k0; exact DataW.trod_lt m _ _ _ hm
  have w0 : IsIDs W a0 len0 cap0 := by
    obtain ⟨fuel, hf⟩ := h0
    exact opened (by simpa [Value.cells] using hf)
  clear hA0 hval0
  refine (walk a0 len0 cap0 W w0).mono fun e W' ⟨he, bel⟩ => ?_
  subst he
  exact ⟨_, rfl, _, _, _, [], _, [], hW', trodAll_mk1 (shut_bool Trym.underlying4 _), (trodAll_cons_mk (Below.trod laidOut (by kernel_rfl) (of_decide_eq_true (by kernel_rfl)) k0 bel lt0) trodAll_mk0), rfl, bel.frame _, fun h => by cases h⟩

theorem over : Rows.fnFindBodyPaddedIsMaxSilentLongRow.holds Trym.pinned (OpenSpec.ofChange Rows.fnFindBodyPaddedIsMaxSilentLongSpec) :=
  OpenClaim.holds_of_wide 3 Trym.f3 rfl rfl rfl rfl rfl rfl rfl ⟨rfl, rfl, rfl, rfl, rfl⟩ rfl rfl rfl rfl rfl (by kernel_rfl) Trym.func3 (by kernel_rfl)
    (of_decide_eq_true (by kernel_rfl)) (by unfold Func.isWrapper; first | (rw [if_pos (by decide +kernel)]; kernel_rfl) | (rw [if_neg (by decide +kernel)]; exact ⟨rfl, rfl⟩))
    (fun os started H enc _ => lifted os started H enc)

theorem proved : Rows.FnFindBodyPaddedIsMaxSilentLongSaid := over
#print axioms proved
end Go.Proofs.Qxb6614645aMods.fnFindBodyPaddedIsMaxSilentLong
