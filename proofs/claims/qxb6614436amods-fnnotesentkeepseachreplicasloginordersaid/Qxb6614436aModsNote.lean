import Derived.Test.Qxb6614436aModsLog
import Derived.Deep.RegionHeld3
import Derived.Deep.Light
namespace Go.Proofs.Qxb6614436aMods
open Go.RowKit
set_option linter.unusedVariables false

theorem Trym.info46 : (Trym.prog.info? 46).map (fun i => (i.zero, i.size, i.bytes)) = some (some (.agg #[.int .i64 0, .bool false]), 2, 16) := by kernel_rfl

theorem grown_laid {w w1 : World} {o : Obj} {r : Option Nat} (hg : (w.alloc o).drew.grownBy w1 r) : w.grownBy w1 r :=
  (World.grownBy_alloc w o r).trans ⟨hg.os, hg.tape, hg.output, hg.size, hg.block⟩

/-- the old row, or a block that is new -/
theorem loc_of {r : Option Nat} {g h : Nat} (h1 : r = some g ∨ g = h + 1) : r = some g ∨ h ≤ g := by
  rcases h1 with e | e
  · exact .inl e
  · exact .inr (by omega)

set_option maxRecDepth 100000 in
set_option maxHeartbeats 1000000 in
theorem note_on (sb bm k : Nat) (to kk : Nat → Int) (ak : Nat → Bool) (D : DataW Value) (V : Int → Value) (w : World) (hsb : sb < bm) (hcell : w.cell? ⟨sb, 5, none⟩ = some (.map (some bm))) (h : LogSt w bm k to kk ak D V)
    (hk : k ≤ 4096) (hx : (Lit.int .i64 (to k)).wf = true) :
    Calls Trym.prog 13 #[.pointer (some ⟨sb, 0, none⟩), .int .i64 (to k), .int .i64 (kk k), .bool (ak k)] w fun e w' => e = .returned (.tuple #[]) ∧ Below bm w w' ∧ ∃ D' V', LogSt w' bm (k + 1) to kk ak D' V' := by
  have q38 : ∀ (w : World) (r : Option Nat), (binOp .eql 38 (.map r) (.map none)).run Trym.prog w = .ok (.bool r.isNone) w := fun w r => run_eql_map_nil w _ _ _ r Trym.underlying38
  have hl0 : (Instr.lookup 38 (.map (some bm)) (.int .i64 (to k)) false).run Trym.prog w.drew = .ok (V (to k)) w.drew := h.drew.lookup hx
  have hl1 : ∀ o, (Instr.lookup 38 (.map (some bm)) (.int .i64 (to k)) false).run Trym.prog (w.alloc o).drew = .ok (V (to k)) (w.alloc o).drew := fun o => (h.alloc o).drew.lookup hx
  obtain ⟨i0, hi0, hz0, hz1, hz2⟩ := info_parts Trym.info46
  have hlen := ix_le to (to k) k
  have hbs : bm < w.heap.size := h.map_lt
  have hrow := h.row (to k)
  have hne := h.row_ne (to k)
  have hsz : sb < w.heap.size := by omega
  have hsr : (V (to k)).ownBlock ≠ some sb := fun e => by have := (h.row_lt _ e).1; omega
  have HL : Hid (LogSt w bm k to kk ak D V) := h
  clear h
  go_enter Trym.func13, Trym.ntmps13
  go_wp2
  go_region_held3 (fun w' => w'.cell? ⟨sb, 5, none⟩ = some (.map (some bm)))
    (first | go_keep | (exact hS1) | (exact hS2))
    ((refine step_append_lies _ (by rfl) _ _ _ (by rfl) (bm + 1) 46 i0 _ 2 16 Trym.underlying41 hi0 hz0 hz1 hz2 rfl (by omega) (V (to k)) (ix to (to k) k).length (cel kk ak (ix to (to k) k)) (by rfl) ((hrow.alloc _).drew) ⟨w.heap.size, 0, none⟩ 1 1 [.int .i64 (kk k), .bool (ak k)] (by rfl) (by rfl) (World.news_of_block (cs := #[.int .i64 (kk k), .bool (ak k)]) (t := 46) (fr := (0, 0)) (heap_alloc_new w _)) (by simp [Value.oneCell']) (by omega) (by unfold maxLen; omega) (by omega) (by simp; omega) (w.heap.size + 1) (by simp) ?_; intro g cap w1 hown1 hgrow hat hlt; have hS1 : w1.cell? ⟨sb, 5, none⟩ = some (.map (some bm)) := ((grown_laid hgrow).cell_far _ (by exact hsz) (Ne.symm hsr)).trans hcell; obtain ⟨w2, D', V', hupd, hg2, hlog⟩ := HL.out.step (by unfold maxLen; omega) hx (grown_laid hgrow) hown1 (loc_of hat); have hS2 : w2.cell? ⟨sb, 5, none⟩ = some (.map (some bm)) := (hg2.cell_far _ (Nat.lt_of_lt_of_le hsz (grown_laid hgrow).size) (by simp; omega)).trans hS1))
  all_goals
    go_wp2
    go_end0
    refine ⟨rfl, ?_, D', V', hlog⟩
    exact ((Below.refl bm w).grown (grown_laid hgrow) (by omega) (fun g e => by have := (HL.out.row_lt _ e).1; omega)).grown hg2 (Nat.le_trans (by omega) (grown_laid hgrow).size) (fun g e => by cases e; exact Nat.le_refl _)
end Go.Proofs.Qxb6614436aMods
