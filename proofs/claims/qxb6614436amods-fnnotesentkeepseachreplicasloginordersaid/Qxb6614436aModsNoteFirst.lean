import Derived.Test.Qxb6614436aModsNote
namespace Go.Proofs.Qxb6614436aMods
open Go.RowKit
set_option linter.unusedVariables false

set_option maxRecDepth 100000 in
set_option maxHeartbeats 1000000 in
theorem note_first (sb : Nat) (to kk : Nat → Int) (ak : Nat → Bool) (w0 : World) (hsb : sb < w0.heap.size) (hcell0 : w0.cell? ⟨sb, 5, none⟩ = some (.map none)) (hfr0 : w0.frozen? ⟨sb, 5, none⟩ = false) (hx : (Lit.int .i64 (to 0)).wf = true) :
    Calls Trym.prog 13 #[.pointer (some ⟨sb, 0, none⟩), .int .i64 (to 0), .int .i64 (kk 0), .bool (ak 0)] w0 fun e w' => e = .returned (.tuple #[]) ∧ Below sb w0 w' ∧ w'.cell? ⟨sb, 5, none⟩ = some (.map (some w0.heap.size)) ∧ ∃ D' V', LogSt w' w0.heap.size 1 to kk ak D' V' := by
  have q38 : ∀ (w : World) (r : Option Nat), (binOp .eql 38 (.map r) (.map none)).run Trym.prog w = .ok (.bool r.isNone) w := fun w r => run_eql_map_nil w _ _ _ r Trym.underlying38
  have hmm := @run_makeMap Trym.prog
  go_enter Trym.func13, Trym.ntmps13
  go_wp2
  have hlog0 : ∃ D V, LogSt ((w0.setCell ⟨sb, 5, none⟩ (.map (some w0.heap.size))).alloc (.map #[] 0)) w0.heap.size 0 to kk ak D V := by
    have := LogSt.start (w0.setCell ⟨sb, 5, none⟩ (.map (some w0.heap.size))) to kk ak
    exact ⟨.map [], fun _ => .slice none 0 0, by simpa using this⟩
  have hcell : ((w0.setCell ⟨sb, 5, none⟩ (.map (some w0.heap.size))).alloc (.map #[] 0)).cell? ⟨sb, 5, none⟩ = some (.map (some w0.heap.size)) := by go_simp
  have hbl0 : Below sb w0 ((w0.setCell ⟨sb, 5, none⟩ (.map (some w0.heap.size))).alloc (.map #[] 0)) := ((Below.refl sb w0).setCell (by exact Nat.le_refl _) _).alloc (by simp; omega) _
  generalize (w0.setCell ⟨sb, 5, none⟩ (.map (some w0.heap.size))).alloc (.map #[] 0) = w at *
  obtain ⟨D, V, h⟩ := hlog0
  have hl0 : (Instr.lookup 38 (.map (some w0.heap.size)) (.int .i64 (to 0)) false).run Trym.prog w.drew = .ok (V (to 0)) w.drew := h.drew.lookup hx
  have hl1 : ∀ o, (Instr.lookup 38 (.map (some w0.heap.size)) (.int .i64 (to 0)) false).run Trym.prog (w.alloc o).drew = .ok (V (to 0)) (w.alloc o).drew := fun o => (h.alloc o).drew.lookup hx
  obtain ⟨i0, hi0, hz0, hz1, hz2⟩ := info_parts Trym.info46
  have hlen := ix_le to (to 0) 0
  have hbs : w0.heap.size < w.heap.size := h.map_lt
  have hrow := h.row (to 0)
  have hne := h.row_ne (to 0)
  have hsz : sb < w.heap.size := by omega
  have hsr : (V (to 0)).ownBlock ≠ some sb := fun e => by have := (h.row_lt _ e).1; omega
  have HL : Hid (LogSt w w0.heap.size 0 to kk ak D V) := h
  clear h hcell0 hfr0
  go_region_held3 (fun w' => w'.cell? ⟨sb, 5, none⟩ = some (.map (some w0.heap.size)))
    (first | go_keep | (exact hS1) | (exact hS2))
    ((refine step_append_lies _ (by rfl) _ _ _ (by rfl) (w0.heap.size + 1) 46 i0 _ 2 16 Trym.underlying41 hi0 hz0 hz1 hz2 rfl (by omega) (V (to 0)) (ix to (to 0) 0).length (cel kk ak (ix to (to 0) 0)) (by rfl) ((hrow.alloc _).drew) ⟨w.heap.size, 0, none⟩ 1 1 [.int .i64 (kk 0), .bool (ak 0)] (by rfl) (by rfl) (World.news_of_block (cs := #[.int .i64 (kk 0), .bool (ak 0)]) (t := 46) (fr := (0, 0)) (heap_alloc_new w _)) (by simp [Value.oneCell']) (by omega) (by unfold maxLen; omega) (by omega) (by simp; omega) (w.heap.size + 1) (by simp) ?_; intro g cap w1 hown1 hgrow hat hlt; have hS1 : w1.cell? ⟨sb, 5, none⟩ = some (.map (some w0.heap.size)) := ((grown_laid hgrow).cell_far _ (by exact hsz) (Ne.symm hsr)).trans hcell; obtain ⟨w2, D', V', hupd, hg2, hlog⟩ := HL.out.step (by unfold maxLen; omega) hx (grown_laid hgrow) hown1 (loc_of hat); have hS2 : w2.cell? ⟨sb, 5, none⟩ = some (.map (some w0.heap.size)) := (hg2.cell_far _ (Nat.lt_of_lt_of_le hsz (grown_laid hgrow).size) (by simp; omega)).trans hS1))
  all_goals
    go_wp2
    go_end0
    refine ⟨rfl, ?_, hS2, D', V', hlog⟩
    exact (hbl0.grown (grown_laid hgrow) (by omega) (fun g e => by have := (HL.out.row_lt _ e).1; omega)).grown hg2 (Nat.le_trans (by omega) (grown_laid hgrow).size) (fun g e => by cases e; omega)
end Go.Proofs.Qxb6614436aMods
