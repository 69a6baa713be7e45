import Derived.Test.Qxb6619195aModsOwn
import Derived.Test.Qxb6619195aModsHullLeaf
import Derived.Deep.LoopGhost
import Derived.Deep.DeepCutAuto
import Derived.Deep.RegionHeld3
import Derived.Deep.Light
namespace Go.Proofs.Qxb6619195aMods
open Go.RowKit
set_option linter.unusedVariables false

set_option maxHeartbeats 1000000 in
set_option maxRecDepth 1000000 in
theorem hull_mainT (f0 t0 d0 : Int) (a1 a2 : Option Addr) (n cap1 cap2 : Nat) (w : World) (hn : n ≤ 4096) (b1 o1 b2 o2 : Nat) (a b : Nat → Int)
    (ha1 : 0 < n → a1 = some ⟨b1, o1, none⟩) (ha2 : 0 < n → a2 = some ⟨b2, o2, none⟩) (hb1 : 0 < n → b1 < w.heap.size) (hb2 : 0 < n → b2 < w.heap.size)
    (hca : ∀ t, t < n → w.cell? ⟨b1, o1 + t, none⟩ = some (.int .i64 (a t))) (hcb : ∀ t, t < n → w.cell? ⟨b2, o2 + t, none⟩ = some (.int .i64 (b t)))
    (hf0 : outB f0 = false) (ht0 : outB t0 = false) (hd0 : outB d0 = false) (hs0 : true = true → f0 ≤ t0) :
    Calls Trym.prog 5 #[.int .i64 f0, .int .i64 t0, .int .i64 d0, .bool true, .slice a1 n cap1, .slice a2 n cap2] w fun e w' => e = .returned (.bool true) ∧ Below w.heap.size w w' := by
  have HA : Hid (∀ t, t < n → w.cell? ⟨b1, o1 + t, none⟩ = some (.int .i64 (a t))) := hca
  have HB : Hid (∀ t, t < n → w.cell? ⟨b2, o2 + t, none⟩ = some (.int .i64 (b t))) := hcb
  have H1 : Hid (0 < n → a1 = some ⟨b1, o1, none⟩ ∧ a2 = some ⟨b2, o2, none⟩ ∧ b1 < w.heap.size ∧ b2 < w.heap.size) := fun h => ⟨ha1 h, ha2 h, hb1 h, hb2 h⟩
  have bf0 := outB_no hf0
  have bt0 := outB_no ht0
  have bd0 := outB_no hd0
  have hs1 : (decide (t0 < f0)) = false := by have := hs0 rfl; simp; omega
  clear hca hcb ha1 ha2 hb1 hb2 hs0
  go_enter Trym.func5, Trym.ntmps5
  go_wp2_with (first | (go_at_call 13; refine (hbytes_any _ _ _ _ _ _ _ _ _ _ _ (by unfold maxLen; omega) (by unfold maxLen; omega)).mono ?_; rintro e w' ⟨rb, rfl, rfl⟩) | (go_at_call 14; refine (out_any' _ _).mono ?_; rintro e w' ⟨rfl, rfl⟩))
  · go_ret
    exact ⟨rfl, Below.refl _ _⟩
  go_loopg [13] n (fun gk i wr => ∃ k : Nat, k ≤ n ∧ gk = n - k ∧ i = .int .i64 k ∧ (∀ j, j < k → outB (a j) = false ∧ outB (b j) = false ∧ a j ≤ b j) ∧ Below w.heap.size w wr)
  case atStart => exact ⟨0, Nat.zero_le _, rfl, rfl, fun j hj => absurd hj (by omega), Below.refl _ _⟩
  case round =>
    obtain ⟨k, hk, rfl, rfl, hok, hbel⟩ := hrel
    have HO : Hid (∀ j, j < k → outB (a j) = false ∧ outB (b j) = false ∧ a j ≤ b j) := hok
    clear hok
    by_cases hlt : k < n
    · obtain ⟨rfl, rfl, hb1, hb2⟩ := H1.out (by omega)
      have ca : wr.cell? ⟨b1, o1 + k, none⟩ = some (.int .i64 (a k)) := (hbel.cell (by exact hb1)).trans (HA.out k hlt)
      have cb : wr.cell? ⟨b2, o2 + k, none⟩ = some (.int .i64 (b k)) := (hbel.cell (by exact hb2)).trans (HB.out k hlt)
      have hlt' : (k : Int) < (n : Int) := by omega
      by_cases t1 : outB (a k) = true
      · go_wp2
        go_quiet ((go_at_call 14; first | exact Calls.quiet_of_same (out_yes _ _ (by assumption)) | exact Calls.quiet_of_same (out_not _ _ (by assumption))))
        go_wp2
        go_ret
        exact ⟨rfl, below_drewN hbel _⟩
      · have d1 : outB (a k) = false := by simpa using t1
        clear t1
        by_cases t2 : outB (b k) = true
        · go_wp2
          go_quiet ((go_at_call 14; first | exact Calls.quiet_of_same (out_yes _ _ (by assumption)) | exact Calls.quiet_of_same (out_not _ _ (by assumption))))
          go_wp2
          go_ret
          exact ⟨rfl, below_drewN hbel _⟩
        · have d2 : outB (b k) = false := by simpa using t2
          clear t2
          by_cases t3 : b k < a k
          · go_wp2
            go_quiet ((go_at_call 14; first | exact Calls.quiet_of_same (out_yes _ _ (by assumption)) | exact Calls.quiet_of_same (out_not _ _ (by assumption))))
            go_wp2
            go_ret
            exact ⟨rfl, below_drewN hbel _⟩
          · have d3 : decide (b k < a k) = false := by simpa using t3
            go_wp2
            go_quiet ((go_at_call 14; first | exact Calls.quiet_of_same (out_yes _ _ (by assumption)) | exact Calls.quiet_of_same (out_not _ _ (by assumption))))
            go_wp2
            go_roundg (n - (k + 1))
            case measure => omega
            case rel =>
              exact ⟨k + 1, by omega, rfl, by go_num, fun j hj => by
                by_cases e : j = k
                · subst e; exact ⟨d1, d2, by omega⟩
                · exact HO.out j (by omega), below_drewN hbel _⟩
    · have hkn : n = k := by omega
      subst hkn
      clear hlt hk
      obtain ⟨i0, hi, hz0, hz1, hz2⟩ := info_parts Trym.info3
      go_wp2_with (at_make; refine wpList_make_own _ rfl _ _ 30 rfl w.heap.size 3 i0 (.int .i64 0) 1 Trym.underlying30 hi hz0 hz1 _ _ _ (n + 1) rfl rfl (by omega) (by rw [hz2]; omega) (by unfold maxLen; omega) hbel.size ?_)
      intro w1 hown1 hgrow1
      have hbel1 : Below w.heap.size w w1 := hbel.grown hgrow1 hbel.size (by simp)
      have own1 : Own w1 wr.heap.size 0 (n + 1) (fun _ => 0) := Own.of_owns hown1 (fun j hj => absurd hj (by omega))
      have hga : w.heap.size ≤ wr.heap.size := hbel.size
      clear hown1 hgrow1 hbel
      generalize wr.heap.size = ga at *
      go_wp2_with (at_make; refine wpList_make_own _ rfl _ _ 30 rfl w.heap.size 3 i0 (.int .i64 0) 1 Trym.underlying30 hi hz0 hz1 _ _ _ (n + 1) rfl rfl (by omega) (by rw [hz2]; omega) (by unfold maxLen; omega) hbel1.size ?_)
      intro w2 hown2 hgrow2
      have hbel2 : Below w.heap.size w w2 := hbel1.grown hgrow2 hbel1.size (by simp)
      have own2 : Own w2 w1.heap.size 0 (n + 1) (fun _ => 0) := Own.of_owns hown2 (fun j hj => absurd hj (by omega))
      have hgb : w.heap.size ≤ w1.heap.size := hbel1.size
      have hab : ga < w1.heap.size := own1.lt
      have own1' := own1.grown hgrow2 (by simp)
      clear hown2 hgrow2 hbel1 own1
      generalize w1.heap.size = gb at *
      have hs2 : w.heap.size ≤ w2.heap.size := hbel2.size
      go_wp2_with (at_builtin; refine wpList_append_fits _ rfl _ _ 30 rfl w.heap.size 3 i0 1 Trym.underlying30 hi hz1 ga 0 (n + 1) _ rfl ((own1'.owns hga).alloc _) ⟨w2.heap.size, 0, none⟩ 1 1 [.int .i64 f0] rfl rfl (cell_one_new _ _ _) (ints_oneCell .i64 [f0]) (by omega) ?_)
      intro w3 hown3 hgrow3
      have own3 : Own w3 ga 1 (n + 1) (fun _ => f0) := Own.of_owns hown3 (fun j hj => by
        have e : j = 0 := by omega
        subst e; simp)
      have own3b : Own w3 gb 0 (n + 1) (fun _ => 0) := (own2.alloc _).grown hgrow3 (by simp; omega)
      have hbel3 : Below w.heap.size w w3 := (hbel2.alloc hbel2.size _).grown hgrow3 (by simp; omega) (fun k hk => by cases hk; exact hga)
      clear hown3 hgrow3 own2 own1' hbel2 hs2
      have hs3 : w.heap.size ≤ w3.heap.size := hbel3.size
      go_wp2_with (at_builtin; refine wpList_append_fits _ rfl _ _ 30 rfl w.heap.size 3 i0 1 Trym.underlying30 hi hz1 gb 0 (n + 1) _ rfl ((own3b.owns hgb).alloc _) ⟨w3.heap.size, 0, none⟩ 1 1 [.int .i64 t0] rfl rfl (cell_one_new _ _ _) (ints_oneCell .i64 [t0]) (by omega) ?_)
      intro w4 hown4 hgrow4
      have own4 : Own w4 gb 1 (n + 1) (fun _ => t0) := Own.of_owns hown4 (fun j hj => by
        have e : j = 0 := by omega
        subst e; simp)
      have own4a : Own w4 ga 1 (n + 1) (fun _ => f0) := (own3.alloc _).grown hgrow4 (by simp; omega)
      have hbel4 : Below w.heap.size w w4 := (hbel3.alloc hbel3.size _).grown hgrow4 (by simp; omega) (fun k hk => by cases hk; exact hgb)
      clear hown4 hgrow4 own3 own3b hbel3 hs3
      have st0 := St.start1 bf0 bt0
      go_wp2
      go_loopg [15, 16, 17, 18, 19, 20, 21, 22] n (fun gk pa pb sf st sd ss su i wr => ∃ (k c : Nat) (x y : Nat → Int) (f t S : Int) (s : Bool), k ≤ n ∧ c = k + 1 ∧ gk = n - k ∧ i = .int .i64 k ∧ pa = .slice (some ⟨ga, 0, none⟩) c (n + 1) ∧ pb = .slice (some ⟨gb, 0, none⟩) c (n + 1) ∧
        sf = .int .i64 f ∧ st = .int .i64 t ∧ sd = .int .i64 (d0 + S) ∧ ss = .bool s ∧ su = .int .i64 S ∧ Own wr ga c (n + 1) x ∧ Own wr gb c (n + 1) y ∧ St f0 t0 k c x y f t S s ∧ Below w.heap.size w wr)
      case atStart => exact ⟨0, 1, _, _, f0, t0, 0, true, Nat.zero_le _, rfl, rfl, rfl, rfl, rfl, rfl, rfl, by go_num, rfl, rfl, own4a, own4, st0, hbel4⟩
      case round =>
        clear own4a own4 st0 hbel4
        obtain ⟨k, c, x, y, f, t, S, s, hk, hc, rfl, rfl, rfl, rfl, rfl, rfl, rfl, rfl, rfl, ownx, owny, hst, hbel⟩ := hrel
        have bff := hst.2.1
        have btt := hst.2.2.1
        have bSS := hst.2.2.2.1
        unfold InB at bff btt bSS
        have hck : c ≤ n + 1 := by omega
        have hck' : k < n → c < n + 1 := by omega
        have HC : Hid (c = k + 1) := hc
        have HS : Hid (St f0 t0 k c x y f t S s) := hst
        clear hc hst
        by_cases hlt : k < n
        · obtain ⟨rfl, rfl, hb1, hb2⟩ := H1.out (by omega)
          have hc1 := hck' hlt
          have ca : wr.cell? ⟨b1, o1 + k, none⟩ = some (.int .i64 (a k)) := (hbel.cell (by exact hb1)).trans (HA.out k hlt)
          have cb : wr.cell? ⟨b2, o2 + k, none⟩ = some (.int .i64 (b k)) := (hbel.cell (by exact hb2)).trans (HB.out k hlt)
          have hlt' : (k : Int) < (n : Int) := by omega
          have hq := outB_no (HO.out k hlt).1
          have hp := outB_no (HO.out k hlt).2.1
          have hqp := (HO.out k hlt).2.2
          clear hck'
          go_wp2
          go_quiet (fail)
          go_wp2
          clear ca cb
          go_loopg [25] c (fun gk i wr => ∃ (j : Nat) (x' y' : Nat → Int), j ≤ c ∧ gk = c - j ∧ i = .int .i64 j ∧ Own wr ga c (n + 1) x' ∧ Own wr gb c (n + 1) y' ∧ (∀ i, i < j → x' i = mvA (a k) (b k - a k) (x i) (y i)) ∧ (∀ i, i < j → y' i = mvB (a k) (b k - a k) (y i)) ∧ (∀ i, j ≤ i → x' i = x i ∧ y' i = y i) ∧ Below w.heap.size w wr)
          case atStart => exact ⟨0, x, y, Nat.zero_le _, rfl, rfl, ownx.below (B := wr.heap.size) (below_drewN (Below.refl _ _) _) ownx.lt, owny.below (B := wr.heap.size) (below_drewN (Below.refl _ _) _) owny.lt, fun i hi => absurd hi (by omega), fun i hi => absurd hi (by omega), fun i _ => ⟨rfl, rfl⟩, below_drewN hbel _⟩
          case round =>
            clear ownx owny hbel
            obtain ⟨j, x', y', hj, rfl, rfl, ownx, owny, hx, hy, hr, hbel⟩ := hrel
            have HX : Hid (∀ i, i < j → x' i = mvA (a k) (b k - a k) (x i) (y i)) := hx
            have HY : Hid (∀ i, i < j → y' i = mvB (a k) (b k - a k) (y i)) := hy
            have HR : Hid (∀ i, j ≤ i → x' i = x i ∧ y' i = y i) := hr
            clear hx hy hr
            by_cases hjc : j < c
            · have cx : wr.cell? ⟨ga, j, none⟩ = some (.int .i64 (x j)) := by rw [← (HR.out j (Nat.le_refl _)).1]; exact ownx.cell hjc
              have cy : wr.cell? ⟨gb, j, none⟩ = some (.int .i64 (y j)) := by rw [← (HR.out j (Nat.le_refl _)).2]; exact owny.cell hjc
              have fx := ownx.frozen j
              have fy := owny.frozen j
              have bx := (HS.out.2.2.2.2 j hjc).1
              have by' := (HS.out.2.2.2.2 j hjc).2
              unfold InB at bx by'
              have hjn : (j : Int) < (c : Int) := by omega
              by_cases t1 : y j ≤ a k
              · go_wp2
                go_roundg (c - (j + 1))
                case measure => omega
                case rel =>
                  go_light
                  exact ⟨j + 1, x', y', by omega, rfl, by go_num, ownx, owny, fun i hi => by
                    by_cases e : i = j
                    · subst e; rw [(HR.out i (Nat.le_refl _)).1]; exact mvA_stay t1
                    · exact HX.out i (by omega), fun i hi => by
                    by_cases e : i = j
                    · subst e; rw [(HR.out i (Nat.le_refl _)).2]; exact mvB_stay t1
                    · exact HY.out i (by omega), fun i hi => HR.out i (by omega), hbel⟩
              · by_cases t2 : a k ≤ x j
                · go_wp2
                  go_roundg (c - (j + 1))
                  case measure => omega
                  case rel =>
                    go_light
                    exact ⟨j + 1, _, _, by omega, rfl, by go_num, (ownx.set j (x j + (b k - a k))).other (by simp; omega) _, (owny.other (by simp; omega) _).set j (y j + (b k - a k)), fun i hi => by
                      by_cases e : i = j
                      · subst e; simp only [if_true]; exact mvA_on (by omega) t2
                      · simp only [e, if_false]; exact HX.out i (by omega), fun i hi => by
                      by_cases e : i = j
                      · subst e; simp only [if_true]; exact mvB_on (by omega)
                      · simp only [e, if_false]; exact HY.out i (by omega), fun i hi => by
                      have e : ¬ i = j := by omega
                      simp only [e, if_false]; exact HR.out i (by omega), (hbel.setCell (by exact hga) _).setCell (by exact hgb) _⟩
                · go_wp2
                  go_roundg (c - (j + 1))
                  case measure => omega
                  case rel =>
                    go_light
                    exact ⟨j + 1, _, _, by omega, rfl, by go_num, ownx.other (by simp; omega) _, owny.set j (y j + (b k - a k)), fun i hi => by
                      by_cases e : i = j
                      · subst e; rw [(HR.out i (Nat.le_refl _)).1]; exact mvA_around (by omega) (by omega)
                      · exact HX.out i (by omega), fun i hi => by
                      by_cases e : i = j
                      · subst e; simp only [if_true]; exact mvB_on (by omega)
                      · simp only [e, if_false]; exact HY.out i (by omega), fun i hi => by
                      have e : ¬ i = j := by omega
                      simp only [e, if_false]; exact HR.out i (by omega), hbel.setCell (by exact hgb) _⟩
            · have hjc' : c = j := by omega
              subst hjc'
              clear hjc hj HR
              have hsw : w.heap.size ≤ wr.heap.size := hbel.size
              go_wp2_with (at_builtin; refine wpList_append_fits _ rfl _ _ 30 rfl w.heap.size 3 i0 1 Trym.underlying30 hi hz1 ga c (n + 1) _ rfl ((ownx.owns hga).alloc _) ⟨wr.heap.size, 0, none⟩ 1 1 [.int .i64 (a k)] rfl rfl (cell_one_new _ _ _) (ints_oneCell .i64 [a k]) (by omega) ?_)
              intro w3 hown3 hgrow3
              have own3 : Own w3 ga (c + 1) (n + 1) (snoc x' c (a k)) := Own.app hown3
              have own3b : Own w3 gb c (n + 1) y' := (owny.alloc _).grown hgrow3 (by simp; omega)
              have hbel3 : Below w.heap.size w w3 := (hbel.alloc hbel.size _).grown hgrow3 (by simp; omega) (fun k hk => by cases hk; exact hga)
              clear hown3 hgrow3 owny ownx hbel hsw
              have hs3 : w.heap.size ≤ w3.heap.size := hbel3.size
              go_wp2_with (at_builtin; refine wpList_append_fits _ rfl _ _ 30 rfl w.heap.size 3 i0 1 Trym.underlying30 hi hz1 gb c (n + 1) _ rfl ((own3b.owns hgb).alloc _) ⟨w3.heap.size, 0, none⟩ 1 1 [.int .i64 (a k + (b k - a k))] rfl rfl (cell_one_new _ _ _) (ints_oneCell .i64 [a k + (b k - a k)]) (by omega) ?_)
              intro w4 hown4 hgrow4
              have own4 : Own w4 gb (c + 1) (n + 1) (snoc y' c (a k + (b k - a k))) := Own.app hown4
              have own4a : Own w4 ga (c + 1) (n + 1) (snoc x' c (a k)) := (own3.alloc _).grown hgrow4 (by simp; omega)
              have hbel4 : Below w.heap.size w w4 := (hbel3.alloc hbel3.size _).grown hgrow4 (by simp; omega) (fun k hk => by cases hk; exact hgb)
              clear hown4 hgrow4 own3 own3b hbel3 hs3
              have ca : w4.cell? ⟨b1, o1 + k, none⟩ = some (.int .i64 (a k)) := (hbel4.cell (by exact hb1)).trans (HA.out k hlt)
              have cb : w4.cell? ⟨b2, o2 + k, none⟩ = some (.int .i64 (b k)) := (hbel4.cell (by exact hb2)).trans (HB.out k hlt)
              have hbw1 : b1 < w4.heap.size := Nat.lt_of_lt_of_le hb1 hbel4.size
              have hbw2 : b2 < w4.heap.size := Nat.lt_of_lt_of_le hb2 hbel4.size
              go_wp2
              go_region_held3 (fun w' => w'.cell? ⟨b1, o1 + k, none⟩ = some (.int .i64 (a k)) ∧ w'.cell? ⟨b2, o2 + k, none⟩ = some (.int .i64 (b k)))
                (first | go_keep | (exact ⟨(hb.cell (by exact hbw1)).trans ca, (hb.cell (by exact hbw2)).trans cb⟩))
                ((go_at_call 15; refine (ins_any _ _ _ _ _ _ _ (by unfold Near; omega) (by unfold Near; omega) (by unfold Near; omega) (by unfold Near; omega) (by unfold Near; omega)).mono ?_; rintro e w' ⟨rfl, hb⟩))
              go_wp2
              go_roundg (n - (k + 1))
              case measure => omega
              case rel =>
                go_light
                have hbel' : Below w.heap.size w w' := hbel4.drew.trans (hb.mono (show w.heap.size ≤ w4.heap.size from hbel4.size))
                have hcc := HC.out
                exact ⟨k + 1, c + 1, _, _, _, _, S + (b k - a k), true, by omega, by omega, rfl, by go_num, rfl, rfl, rfl, rfl, by go_num, rfl, rfl,
                  own4a.of_block (hb.block ga (show ga < w4.heap.size from own4a.lt)), own4.of_block (hb.block gb (show gb < w4.heap.size from own4.lt)), HS.out.step hqp hq hp HX.out HY.out, hbel'⟩
        · have hkn : n = k := by omega
          subst hkn
          clear hlt hk H1 HA HB HO hck'
          have hc0 : 0 < c := by have := HC.out; omega
          obtain ⟨rfl, hmin, hmax⟩ := HS.out.1.2 hc0
          have HMIN : Hid (IsMin x c f) := hmin
          have HMAX : Hid (IsMax y c t) := hmax
          have cx0 := ownx.cell hc0
          have cy0 := owny.cell hc0
          clear hmin hmax HS
          go_wp2
          clear cx0 cy0
          go_loopg [27, 28, 29] (c - 1) (fun gk lo hi i wr => ∃ (j : Nat) (l h : Int), 1 ≤ j ∧ j ≤ c ∧ gk = c - j ∧ i = .int .i64 j ∧ lo = .int .i64 l ∧ hi = .int .i64 h ∧ IsMin x j l ∧ IsMax y j h ∧ Own wr ga c (n + 1) x ∧ Own wr gb c (n + 1) y ∧ Below w.heap.size w wr)
          case atStart => exact ⟨1, x 0, y 0, by omega, hc0, rfl, rfl, rfl, rfl, IsMin.one x, IsMax.one y, ownx, owny, hbel⟩
          case round =>
            clear ownx owny hbel
            obtain ⟨j, l, h, hj1, hj, rfl, rfl, rfl, rfl, hmin, hmax, ownx, owny, hbel⟩ := hrel
            have HMn : Hid (IsMin x j l) := hmin
            have HMx : Hid (IsMax y j h) := hmax
            clear hmin hmax
            by_cases hjc : j < c
            · have cx := ownx.cell hjc
              have cy := owny.cell hjc
              by_cases t1 : x j < l
              · by_cases t2 : h < y j
                · go_wp2
                  go_roundg (c - (j + 1))
                  case measure => omega
                  case rel => exact ⟨j + 1, x j, y j, by omega, by omega, rfl, by go_num, rfl, rfl, HMn.out.less t1, HMx.out.more t2, ownx, owny, hbel⟩
                · go_wp2
                  go_roundg (c - (j + 1))
                  case measure => omega
                  case rel => exact ⟨j + 1, x j, h, by omega, by omega, rfl, by go_num, rfl, rfl, HMn.out.less t1, HMx.out.keep (by omega), ownx, owny, hbel⟩
              · by_cases t2 : h < y j
                · go_wp2
                  go_roundg (c - (j + 1))
                  case measure => omega
                  case rel => exact ⟨j + 1, l, y j, by omega, by omega, rfl, by go_num, rfl, rfl, HMn.out.keep (by omega), HMx.out.more t2, ownx, owny, hbel⟩
                · go_wp2
                  go_roundg (c - (j + 1))
                  case measure => omega
                  case rel => exact ⟨j + 1, l, h, by omega, by omega, rfl, by go_num, rfl, rfl, HMn.out.keep (by omega), HMx.out.keep (by omega), ownx, owny, hbel⟩
            · have hjc' : c = j := by omega
              subst hjc'
              have el := HMn.out.unique HMIN.out
              have eh := HMx.out.unique HMAX.out
              subst el
              subst eh
              clear HMn HMx HMIN HMAX
              go_wp2
              go_ret
              exact ⟨rfl, hbel⟩
end Go.Proofs.Qxb6619195aMods
