import Derived.Test.Qxb6614436aModsNoteFirst
import Derived.Deep.LoopGhost
namespace Go.Proofs.Qxb6614436aMods
open Go.RowKit
set_option linter.unusedVariables false

/-- The slot in block sb behind k calls. -/
def Phase (w : World) (sb k : Nat) (to kk : Nat → Int) (ak : Nat → Bool) : Prop :=
  (k = 0 ∧ w.cell? ⟨sb, 5, none⟩ = some (.map none) ∧ w.frozen? ⟨sb, 5, none⟩ = false ∧ sb < w.heap.size) ∨
  (0 < k ∧ ∃ bm D V, sb < bm ∧ w.cell? ⟨sb, 5, none⟩ = some (.map (some bm)) ∧ LogSt w bm k to kk ak D V)

theorem Phase.lt {w : World} {sb k : Nat} {to kk : Nat → Int} {ak : Nat → Bool} (h : Phase w sb k to kk ak) : sb < w.heap.size := by
  rcases h with ⟨_, _, _, h⟩ | ⟨_, bm, D, V, h1, _, h2⟩
  · exact h
  · have := h2.map_lt; omega

theorem Phase.drew {w : World} {sb k : Nat} {to kk : Nat → Int} {ak : Nat → Bool} (h : Phase w sb k to kk ak) : Phase w.drew sb k to kk ak := by
  rcases h with ⟨h0, h1, h2, h3⟩ | ⟨h0, bm, D, V, h1, h2, h3⟩
  · exact .inl ⟨h0, h1, h2, h3⟩
  · exact .inr ⟨h0, bm, D, V, h1, h2, h3.drew⟩

theorem note13 (sb k : Nat) (to kk : Nat → Int) (ak : Nat → Bool) (w : World) (h : Phase w sb k to kk ak) (hk : k ≤ 4096) (hx : (Lit.int .i64 (to k)).wf = true) :
    Calls Trym.prog 13 #[.pointer (some ⟨sb, 0, none⟩), .int .i64 (to k), .int .i64 (kk k), .bool (ak k)] w fun e w' => e = .returned (.tuple #[]) ∧ Below sb w w' ∧ Phase w' sb (k + 1) to kk ak := by
  rcases h with ⟨rfl, h1, h2, h3⟩ | ⟨h0, bm, D, V, h1, h2, h3⟩
  · exact (note_first sb to kk ak w h3 h1 h2 hx).mono fun e w' ⟨he, hb, hc, D', V', hl⟩ => ⟨he, hb, .inr ⟨by omega, w.heap.size, D', V', h3, hc, hl⟩⟩
  · exact (note_on sb bm k to kk ak D V w h1 h2 h3 hk hx).mono fun e w' ⟨he, hb, D', V', hl⟩ => ⟨he, hb.mono (by omega), .inr ⟨by omega, bm, D', V', h1, (hb.cell (by exact h1)).trans h2, hl⟩⟩

set_option maxHeartbeats 400000 in
theorem note11 (sb k : Nat) (to kk : Nat → Int) (ak : Nat → Bool) (w : World) (h : Phase w sb k to kk ak) (hk : k ≤ 4096) (hx : (Lit.int .i64 (to k)).wf = true) :
    Calls Trym.prog 11 #[.pointer (some ⟨sb, 0, none⟩), .int .i64 (to k), .int .i64 (kk k), .bool (ak k)] w fun e w' => e = .returned (.tuple #[]) ∧ Below sb w w' ∧ Phase w' sb (k + 1) to kk ak := by
  have H : Hid (Phase w sb k to kk ak) := h
  clear h
  go_enter Trym.func11, Trym.ntmps11
  go_wp2_with (go_at_call 13; refine (note13 sb k to kk ak w H.out hk hx).mono ?_; rintro e w' ⟨rfl, hb, hp⟩)
  go_end0
  exact ⟨rfl, hb, hp⟩

set_option maxHeartbeats 400000 in
theorem new10 (w : World) : Calls Trym.prog 10 #[] w fun e w' => e = .returned (.pointer (some ⟨w.heap.size, 0, none⟩)) ∧ Below w.heap.size w w' ∧ w'.cell? ⟨w.heap.size, 5, none⟩ = some (.map none) ∧ w'.frozen? ⟨w.heap.size, 5, none⟩ = false ∧ w.heap.size < w'.heap.size := by
  go_enter Trym.func10, Trym.ntmps10
  go_wp2
  go_ret
  exact ⟨rfl, (Below.refl _ _).alloc (Nat.le_refl _) _, by go_simp, by go_simp, by simp⟩

set_option maxRecDepth 100000 in
set_option maxHeartbeats 1000000 in
theorem replay (a : Option Addr) (n cap : Nat) (w : World) (hn : n ≤ 4096) (b o : Nat) (to kk : Nat → Int) (ak : Nat → Bool) (ha : 0 < n → a = some ⟨b, o, none⟩) (hb : 0 < n → b < w.heap.size)
    (hct : ∀ t, t < n → w.cell? ⟨b, o + t * 3, none⟩ = some (.int .i64 (to t))) (hck : ∀ t, t < n → w.cell? ⟨b, o + t * 3 + 1, none⟩ = some (.int .i64 (kk t))) (hca : ∀ t, t < n → w.cell? ⟨b, o + t * 3 + 2, none⟩ = some (.bool (ak t)))
    (hx : ∀ t, t < n → (Lit.int .i64 (to t)).wf = true) :
    Calls Trym.prog 5 #[.slice a n cap] w fun e w' => e = .returned (.pointer (some ⟨w.heap.size, 0, none⟩)) ∧ Below w.heap.size w w' ∧ Phase w' w.heap.size n to kk ak := by
  have HT : Hid (∀ t, t < n → w.cell? ⟨b, o + t * 3, none⟩ = some (.int .i64 (to t))) := hct
  have HK : Hid (∀ t, t < n → w.cell? ⟨b, o + t * 3 + 1, none⟩ = some (.int .i64 (kk t))) := hck
  have HA : Hid (∀ t, t < n → w.cell? ⟨b, o + t * 3 + 2, none⟩ = some (.bool (ak t))) := hca
  have HX : Hid (∀ t, t < n → (Lit.int .i64 (to t)).wf = true) := hx
  have H1 : Hid (0 < n → a = some ⟨b, o, none⟩ ∧ b < w.heap.size) := fun h => ⟨ha h, hb h⟩
  clear hct hck hca hx ha hb
  go_enter Trym.func5, Trym.ntmps5
  go_wp2_with (go_at_call 10; refine (new10 _).mono ?_; rintro e w1 ⟨rfl, hbel1, hc1, hf1, hs1⟩)
  go_loopg [4] n (fun gk i wr => ∃ k : Nat, k ≤ n ∧ gk = n - k ∧ i = .int .i64 k ∧ Phase wr w.heap.size k to kk ak ∧ Below w.heap.size w wr)
  case atStart => exact ⟨0, Nat.zero_le _, rfl, rfl, .inl ⟨rfl, hc1, hf1, hs1⟩, hbel1⟩
  case round =>
    clear hbel1 hc1 hf1 hs1
    obtain ⟨k, hk, rfl, rfl, hph, hbel⟩ := hrel
    have HP : Hid (Phase wr w.heap.size k to kk ak) := hph
    clear hph
    by_cases hlt : k < n
    · obtain ⟨rfl, hb⟩ := H1.out (by omega)
      have c0 : wr.cell? ⟨b, o + k * 3, none⟩ = some (.int .i64 (to k)) := (hbel.cell (by exact hb)).trans (HT.out k hlt)
      have c1 : wr.cell? ⟨b, o + k * 3 + 1, none⟩ = some (.int .i64 (kk k)) := (hbel.cell (by exact hb)).trans (HK.out k hlt)
      have c2 : wr.cell? ⟨b, o + k * 3 + 2, none⟩ = some (.bool (ak k)) := (hbel.cell (by exact hb)).trans (HA.out k hlt)
      have hlt' : (k : Int) < (n : Int) := by omega
      have hx := HX.out k hlt
      go_wp2
      go_region_held3 (fun w' => w'.cell? ⟨b, o + k * 3, none⟩ = some (.int .i64 (to k)) ∧ w'.cell? ⟨b, o + k * 3 + 1, none⟩ = some (.int .i64 (kk k)) ∧ w'.cell? ⟨b, o + k * 3 + 2, none⟩ = some (.bool (ak k)))
        (first | go_keep | (exact ⟨(hb2.cell (by exact hb)).trans c0, (hb2.cell (by exact hb)).trans c1, (hb2.cell (by exact hb)).trans c2⟩))
        ((go_at_call 11; refine (note11 w.heap.size k to kk ak _ ?_ (by omega) hx).mono ?_; exact HP.out.drew; rintro e w' ⟨rfl, hb2, hp2⟩))
      go_wp2
      go_roundg (n - (k + 1))
      case measure => omega
      case rel => exact ⟨k + 1, by omega, rfl, by go_num, hp2, hbel.drew.trans hb2⟩
    · have hkn : n = k := by omega
      subst hkn
      go_wp2
      go_ret
      exact ⟨rfl, hbel, HP.out⟩
end Go.Proofs.Qxb6614436aMods
