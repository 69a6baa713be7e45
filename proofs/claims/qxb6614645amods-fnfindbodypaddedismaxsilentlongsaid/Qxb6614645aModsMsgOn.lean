import Derived.Test.Qxb6614645aModsMsg
namespace Go.Proofs.Qxb6614645aMods
open Go.RowKit
set_option linter.unusedVariables false

theorem info50 : ∃ i Y, Trym.prog.info? 50 = some i ∧ i.zero = some (.agg Y) ∧ i.size = 36 ∧ i.bytes ≤ 4096 := by
  have h : (Trym.prog.info? 50).bind (fun i => i.zero.bind (fun z => match z with | .agg _ => some (i.size, decide (i.bytes ≤ 4096)) | _ => none)) = some (36, true) := by kernel_rfl
  obtain ⟨i, h1, h2⟩ := Option.bind_eq_some_iff.1 h
  obtain ⟨z, h3, h4⟩ := Option.bind_eq_some_iff.1 h2
  match z, h3, h4 with
  | .agg Y, h3, h4 =>
    simp only [Option.some.injEq, Prod.mk.injEq] at h4
    exact ⟨i, Y, h1, h3, h4.1, of_decide_eq_true h4.2⟩

theorem there_of_owns {w : World} {base e size g n cap : Nat} {xs : List Value} (h : w.ownsRow base e size (.slice (some ⟨g, 0, none⟩) n cap) n xs) : w.there g 0 (n * size) := by
  intro j hj
  have hc := h.cellAt j hj
  have hl : j < xs.length := by rw [h.1]; exact hj
  refine ⟨?_, ?_⟩
  · rw [Nat.zero_add, hc, List.getElem?_eq_getElem hl]; rfl
  · rw [Nat.zero_add]; exact h.frozenAt j

theorem there_part {w : World} {g o m n : Nat} (h : w.there g 0 n) (hm : o + m ≤ n) : w.there g o m := fun j hj => by
  have := h (o + j) (by omega)
  simpa using this

set_option maxRecDepth 100000 in
set_option maxHeartbeats 1000000 in
theorem msg6_on (g n cap : Nat) (p : Bool) (x : Nat → Int) (w : World) (hn : n ≤ 32768) (hrow : RowB w g (n * 32) x) :
    Calls Trym.prog 6 #[.slice (some ⟨g, 0, none⟩) n cap, .bool p] w fun e w' => ∃ cs ao c, e = .returned (.agg cs) ∧ cs.size = 114 ∧ cs[109]? = some (.slice ao n c) ∧ cs[110]? = some (.bool p) ∧ Below w.heap.size w w' := by
  have q22 : ∀ (w : World) (a : Option Addr) (n c : Nat), (binOp .neq 22 (.slice a n c) (.slice none 0 0)).run Trym.prog w = .ok (.bool (!a.isNone)) w := fun w a n c => run_neq_slice_nil_any w _ _ a n c 0 0 Trym.underlying22
  obtain ⟨Z, hZs, hZ⟩ := zero34
  have HZ : Hid (Z.size = 114) := hZs
  obtain ⟨cs, hb, hs, h9, h10, h1⟩ := built34 (some ⟨w.heap.size + 1, 0, none⟩) n n p
  have HB : Hid (Trym.prog.built 34 [(9, .slice (some ⟨w.heap.size + 1, 0, none⟩) n n), (10, .bool p)] = some cs) := hb
  have HS : Hid (cs.size = 114) := hs
  have H1 : Hid (cs.all (·.oneCell') = true) := h1
  have H9 : Hid (cs[109]? = some (.slice (some ⟨w.heap.size + 1, 0, none⟩) n n) ∧ cs[110]? = some (.bool p)) := ⟨h9, h10⟩
  have HR : Hid (RowB w g (n * 32) x) := hrow
  have hgl := hrow.lt
  clear hZs hb hs h1 h9 h10 hrow
  obtain ⟨i0, Y, hi, hz0, hz1, hz2⟩ := info50
  go_enter Trym.func6, Trym.ntmps6
  go_wp2_with (at_make; refine wpList_make_full _ rfl _ _ 30 rfl w.heap.size 50 i0 (.agg Y) 36 Trym.underlying30 hi hz0 hz1 _ _ _ _ n rfl rfl rfl rfl ?_ ?_ ?_ ?_)
  case refine_1 => have := Nat.mul_le_mul hz2 hn; omega
  case refine_2 => unfold maxLen; omega
  case refine_3 => simp
  intro w1 hown hgrow
  have hth : w1.there (w.heap.size + 1) 0 (n * 36) := there_of_owns hown
  have hbel1 : Below w.heap.size w w1 := ((Below.refl _ _).alloc (Nat.le_refl _) _).grown hgrow (by simp) (by simp)
  have hsb1 : w1.heap[w.heap.size]? = some (.cells Z 34 (0, 0)) := (hgrow.block w.heap.size (by simp) (by simp)).trans (heap_alloc_new w _)
  clear hown hgrow hi hz0 hz1 hz2 i0 Y
  go_wp2
  go_loopg [14] n (fun gk i wr => ∃ k : Nat, k ≤ n ∧ gk = n - k ∧ i = .int .i64 k ∧ wr.there (w.heap.size + 1) 0 (n * 36) ∧ wr.heap[w.heap.size]? = some (.cells Z 34 (0, 0)) ∧ Below w.heap.size w wr)
  case atStart => exact ⟨0, Nat.zero_le _, rfl, rfl, hth, hsb1, hbel1⟩
  case round =>
    clear hth hsb1 hbel1
    obtain ⟨k, hk, rfl, rfl, hth, hsb, hbel⟩ := hrel
    by_cases hlt : k < n
    · have HG : Hid (wr.rangeAt g (k * 32) (bytesAt fun j => x (k * 32 + j))) := (HR.out.below hbel hgl).range (by omega)
      obtain ⟨ds, hds, hdz, hd1⟩ := built50 (fun j => x (k * 32 + j))
      have HD : Hid (Trym.prog.built 50 [(0, .agg (bytesAt fun j => x (k * 32 + j)).toArray)] = some ds) := hds
      have HDZ : Hid (ds.size = 36) := hdz
      have HD1 : Hid (ds.all (·.oneCell') = true) := hd1
      have HT : Hid (wr.there (w.heap.size + 1) 0 (n * 36)) := hth
      have HSB : Hid (wr.heap[w.heap.size]? = some (.cells Z 34 (0, 0))) := hsb
      clear hds hdz hd1 hth hsb
      have hlt' : (k : Int) < (n : Int) := by omega
      go_wp2_with (first | (refine wpList_load_mid rfl 28 _ rfl g (k * 32) rfl (bytesAt fun j => x (k * 32 + j)) _ HG.out Trym.underlying28 rfl (by rw [length_bytesAt]; exact Trym.size28) ?_) | (refine wpList_built rfl 50 _ rfl [(0, .agg (bytesAt fun j => x (k * 32 + j)).toArray)] (by simp [Act.eval, Act.put]) ds HD.out ?_) | (refine wpList_store_mid rfl 50 _ _ rfl (w.heap.size + 1) (k * 36) ds rfl rfl (by rw [HDZ.out]; exact there_part HT.out (by omega)) (by rw [HDZ.out]; exact Trym.size50) HD1.out ?_))
      go_roundg (n - (k + 1))
      case measure => omega
      case rel => exact ⟨k + 1, by omega, rfl, by go_num, World.there_setCells HT.out _ _ _, (heap_setCells_other _ _ _ _ _ (by omega)).trans HSB.out, below_setCells hbel (by omega) _ _⟩
    · have hkn : n = k := by omega
      subst hkn
      go_wp2_with (first | (refine wpList_built rfl 34 _ rfl [(9, .slice (some ⟨w.heap.size + 1, 0, none⟩) n n), (10, .bool p)] (by simp [Act.eval, Act.put]) cs HB.out ?_) | (refine wpList_store_row rfl 34 _ _ rfl w.heap.size cs rfl rfl 34 Z hsb (by rw [HS.out]; exact Trym.size34) (by rw [HS.out, HZ.out]) H1.out ?_))
      refine bodyPost_ret (results_cell_row Trym.results6 _ _ w.heap.size 34 cs (0, 0) _ (by simp [Act.put]) (setRow_heap _ _ Z _ 34 _ hsb) Trym.underlying34 rfl (by rw [HS.out]; exact Trym.size34)) rfl ?_
      exact ⟨cs, _, n, rfl, HS.out, H9.out.1, H9.out.2, below_setRow hbel (Nat.le_refl _) _⟩
end Go.Proofs.Qxb6614645aMods
