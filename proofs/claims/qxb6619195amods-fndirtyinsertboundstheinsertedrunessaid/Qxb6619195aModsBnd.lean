import Derived.Test.Qxb6619195aModsPlain
import Derived.Test.Qxb6619195aModsArr
import Derived.Deep.LoopGhost
import Derived.Deep.DeepCutAuto
import Derived.Deep.RegionHeld3
import Derived.Deep.Light
namespace Go.Proofs.Qxb6619195aMods
open Go.RowKit
set_option linter.unusedVariables false

set_option maxHeartbeats 1000000 in
set_option maxRecDepth 1000000 in
theorem bnd_main (L : Nat) (a1 a2 : Option Addr) (n cap1 cap2 : Nat) (w : World) (hL : L ≤ 65536) (hn : n ≤ 4096) (b1 o1 b2 o2 : Nat) (a b : Nat → Int)
    (ha1 : 0 < n → a1 = some ⟨b1, o1, none⟩) (ha2 : 0 < n → a2 = some ⟨b2, o2, none⟩) (hb1 : 0 < n → b1 < w.heap.size) (hb2 : 0 < n → b2 < w.heap.size)
    (hca : ∀ t, t < n → w.cell? ⟨b1, o1 + t, none⟩ = some (.int .i64 (a t))) (hcb : ∀ t, t < n → w.cell? ⟨b2, o2 + t, none⟩ = some (.int .i64 (b t)))
    (hwa : ∀ t, t < n → -9223372036854775808 ≤ a t ∧ a t ≤ 9223372036854775807) (hwb : ∀ t, t < n → -9223372036854775808 ≤ b t ∧ b t ≤ 9223372036854775807) :
    Calls Trym.prog 6 #[.int .i64 L, .slice a1 n cap1, .slice a2 n cap2] w fun e w' => e = .returned (.bool true) ∧ Below w.heap.size w w' := by
  have HA : Hid (∀ t, t < n → w.cell? ⟨b1, o1 + t, none⟩ = some (.int .i64 (a t))) := hca
  have HB : Hid (∀ t, t < n → w.cell? ⟨b2, o2 + t, none⟩ = some (.int .i64 (b t))) := hcb
  have HWA : Hid (∀ t, t < n → -9223372036854775808 ≤ a t ∧ a t ≤ 9223372036854775807) := hwa
  have HWB : Hid (∀ t, t < n → -9223372036854775808 ≤ b t ∧ b t ≤ 9223372036854775807) := hwb
  have H1 : Hid (0 < n → a1 = some ⟨b1, o1, none⟩ ∧ a2 = some ⟨b2, o2, none⟩ ∧ b1 < w.heap.size ∧ b2 < w.heap.size) := fun h => ⟨ha1 h, ha2 h, hb1 h, hb2 h⟩
  clear hca hcb hwa hwb ha1 ha2 hb1 hb2
  go_enter Trym.func6, Trym.ntmps6
  go_wp2_with (go_at_call 16; refine (bytes_any _ _ _ _ _ _ _ _ (by unfold maxLen; omega) (by unfold maxLen; omega)).mono ?_; rintro e w' ⟨rb, rfl, rfl⟩)
  · go_ret
    exact ⟨rfl, Below.refl _ _⟩
  go_loopg [7, 8, 9] n (fun gk cur tt i wr => ∃ k : Nat, k ≤ n ∧ gk = n - k ∧ i = .int .i64 k ∧ cur = .int .i64 ((L : Int) + tot a b k) ∧ tt = .int .i64 (tot a b k) ∧ OkTo L a b k ∧ Below w.heap.size w wr)
  case atStart => exact ⟨0, Nat.zero_le _, by omega, rfl, by simp [tot], rfl, OkTo.zero L a b hL, Below.refl _ _⟩
  case round =>
    obtain ⟨k, hk, rfl, rfl, rfl, rfl, hok, hbel⟩ := hrel
    have hokb : 0 ≤ tot a b k ∧ (L : Int) + tot a b k ≤ 65536 := ⟨hok.2.2, hok.2.1⟩
    obtain ⟨hok0, hok1⟩ := hokb
    by_cases hlt : k < n
    · obtain ⟨rfl, rfl, hb1, hb2⟩ := H1.out (by omega)
      have ca : wr.cell? ⟨b1, o1 + k, none⟩ = some (.int .i64 (a k)) := (hbel.cell (by exact hb1)).trans (HA.out k hlt)
      have cb : wr.cell? ⟨b2, o2 + k, none⟩ = some (.int .i64 (b k)) := (hbel.cell (by exact hb2)).trans (HB.out k hlt)
      have wa := HWA.out k hlt
      have wb := HWB.out k hlt
      have hlt' : (k : Int) < (n : Int) := by omega
      by_cases t1 : a k < 0
      · go_wp2
        go_quiet (fail)
        go_wp2
        go_ret
        exact ⟨rfl, below_drewN hbel _⟩
      · have d1 : decide (a k < 0) = false := by simpa using t1
        by_cases t2 : (L : Int) + tot a b k < a k
        · go_wp2
          go_quiet (fail)
          go_wp2
          go_ret
          exact ⟨rfl, below_drewN hbel _⟩
        · have d2 : decide ((L : Int) + tot a b k < a k) = false := by simpa using t2
          by_cases t3 : b k ≤ a k
          · go_wp2
            go_quiet (fail)
            go_wp2
            go_ret
            exact ⟨rfl, below_drewN hbel _⟩
          · have d3 : decide (b k ≤ a k) = false := by simpa using t3
            go_wp2
            go_quiet (fail)
            go_wp2
            go_quiet (fail)
            go_wp2
            · go_ret
              exact ⟨rfl, below_drewN hbel _⟩
            · have h3 : b k - a k ≤ 65536 - (L : Int) - tot a b k := by assumption
              go_roundg (n - (k + 1))
              case measure => omega
              case rel => exact ⟨k + 1, by omega, rfl, by go_num, by simp only [tot]; go_num, by simp only [tot], hok.step (by omega) (by omega) (by omega) h3, below_drewN hbel _⟩
    · have hkn : n = k := by omega
      subst hkn
      clear hlt hk
      obtain ⟨i0, hi, hz0, hz1, hz2⟩ := info_parts Trym.info3
      go_wp2_with (at_make; refine wpList_make_full _ rfl _ _ 30 rfl w.heap.size 3 i0 (.int .i64 0) 1 Trym.underlying30 hi hz0 hz1 _ _ _ _ L rfl rfl rfl rfl (by rw [hz2]; omega) (by unfold maxLen; omega) hbel.size ?_)
      intro w1 hown hgrow
      have harr0 := Arr.made hown
      have hbel1 : Below w.heap.size w w1 := hbel.grown hgrow hbel.size (by simp)
      have hgs : w.heap.size ≤ wr.heap.size := hbel.size
      generalize wr.heap.size = g0 at *
      clear hown hgrow hbel hi hz0 hz1 hz2 i0
      go_wp2
      go_loopg [12] L (fun gk i w2 => ∃ k : Nat, k ≤ L ∧ gk = L - k ∧ i = .int .i64 k ∧ (∃ x, Arr w2 g0 L x ∧ ∀ j, j < k → x j = (j : Int)) ∧ Below w.heap.size w w2)
      case atStart => exact ⟨0, Nat.zero_le _, rfl, rfl, ⟨_, harr0, fun j hj => absurd hj (by omega)⟩, hbel1⟩
      case round =>
        obtain ⟨k2, hk2, rfl, rfl, ⟨x, harr, hx⟩, hbel2⟩ := hrel
        by_cases hlt : k2 < L
        · have hc := harr.cell hlt
          have hf := harr.frozen k2
          go_wp2
          go_roundg (L - (k2 + 1))
          case measure => omega
          case rel => exact ⟨k2 + 1, by omega, rfl, by go_num, ⟨_, harr.set k2 (k2 : Int), upd (F := fun j => (j : Int)) rfl rfl rfl hx⟩, hbel2.setCell (by exact hgs) _⟩
        · have hkL : L = k2 := by omega
          subst hkL
          have hinv0 := Inv.start L a b x hx
          clear hx hlt hk2 hbel1 harr0
          go_wp2
          go_loopg [11, 13, 14, 15, 16, 17] n (fun gk tx f t dl sm i w3 => ∃ (k m g fN tN : Nat) (s : Bool) (x : Nat → Int), k ≤ n ∧ gk = n - k ∧ i = .int .i64 k ∧ tx = .slice (some ⟨g, 0, none⟩) m m ∧ f = .int .i64 fN ∧ t = .int .i64 tN ∧
            dl = .int .i64 (tot a b k) ∧ sm = .bool s ∧ Arr w3 g m x ∧ w.heap.size ≤ g ∧ Inv L a b k m fN tN s x ∧ fN ≤ m ∧ tN ≤ m ∧ Below w.heap.size w w3)
          case atStart => exact ⟨0, L, g0, 0, 0, false, x, Nat.zero_le _, rfl, rfl, rfl, rfl, rfl, rfl, rfl, harr, hgs, hinv0, Nat.zero_le _, Nat.zero_le _, hbel2⟩
          case round =>
            clear harr hbel2 hinv0 hgs x
            obtain ⟨k, m, g, fN, tN, s, x, hk, rfl, rfl, rfl, rfl, rfl, rfl, rfl, harr, hgs, hinv, hfm, htm, hbel3⟩ := hrel
            by_cases hlt : k < n
            · obtain ⟨rfl, rfl, hb1, hb2⟩ := H1.out (by omega)
              have HM : Hid ((m : Int) = (L : Int) + tot a b k) := hinv.1
              have o1k := hok.1 k hlt
              have o2k := (hok.down (k := k + 1) (by omega)).2.1
              have o3k := (hok.down (k := k) (by omega)).2.2
              simp only [tot] at o2k
              obtain ⟨q, hq⟩ : ∃ q : Nat, a k = (q : Int) := ⟨(a k).toNat, by omega⟩
              obtain ⟨p, hp⟩ : ∃ p : Nat, b k = (p : Int) := ⟨(b k).toNat, by omega⟩
              have hqm : q ≤ m := by have := HM.out; omega
              have hqp : q < p := by omega
              have hm' : m + (p - q) ≤ 65536 := by have := HM.out; omega
              have htk : 0 ≤ tot a b k ∧ tot a b k ≤ 65536 := ⟨by omega, by omega⟩
              have ca : wr.cell? ⟨b1, o1 + k, none⟩ = some (.int .i64 (q : Int)) := by rw [← hq]; exact (hbel3.cell (by exact hb1)).trans (HA.out k hlt)
              have cb : wr.cell? ⟨b2, o2 + k, none⟩ = some (.int .i64 (p : Int)) := by rw [← hp]; exact (hbel3.cell (by exact hb2)).trans (HB.out k hlt)
              have HQ : Hid (a k = (q : Int)) := hq
              have HP : Hid (b k = (p : Int)) := hp
              have HI : Hid (Inv L a b k m fN tN s x) := hinv
              have hk' : (k : Int) < (n : Int) := by omega
              clear hq hp hinv o1k o2k o3k
              obtain ⟨i0, hi, hz0, hz1, hz2⟩ := info_parts Trym.info3
              go_wp2_with (at_make; refine wpList_make_full _ rfl _ _ 30 rfl w.heap.size 3 i0 (.int .i64 0) 1 Trym.underlying30 hi hz0 hz1 _ _ _ _ (m + (p - q)) rfl rfl (by omega) (by omega) (by rw [hz2]; omega) (by unfold maxLen; omega) hbel3.size ?_)
              intro w1 hown hgrow
              have harr1 := Arr.made hown
              have harr0 := harr.grown hgrow
              have hbel1 : Below w.heap.size w w1 := hbel3.grown hgrow hbel3.size (by simp)
              have hgl := harr.lt
              have hgs1 : w.heap.size ≤ wr.heap.size := hbel3.size
              have hb1w : b1 < w.heap.size := hb1
              clear ca cb
              generalize wr.heap.size = g1 at *
              clear hown hgrow hbel3 hi hz0 hz1 hz2 i0 harr
              go_wp2
              go_loopg [21] q (fun gk i w2 => ∃ j : Nat, j ≤ q ∧ gk = q - j ∧ i = .int .i64 j ∧ (∃ y, Arr w2 g1 (m + (p - q)) y ∧ ∀ t, t < j → y t = insx q (p - q) (-1 - (k : Int)) x t) ∧ Arr w2 g m x ∧ Below w.heap.size w w2)
              case atStart => exact ⟨0, Nat.zero_le _, rfl, rfl, ⟨_, harr1, fun j hj => absurd hj (by omega)⟩, harr0, hbel1⟩
              case round =>
                clear harr1 harr0 hbel1
                obtain ⟨j, hj, rfl, rfl, ⟨y, harr1, hy⟩, harr0, hbel1⟩ := hrel
                by_cases hjq : j < q
                · have hc0 := harr0.cell (j := j) (by omega)
                  have hc1 := harr1.cell (j := j) (by omega)
                  have hf1 := harr1.frozen j
                  go_wp2
                  go_roundg (q - (j + 1))
                  case measure => omega
                  case rel =>
                    exact ⟨j + 1, by omega, rfl, by go_num, ⟨_, harr1.set j (x j), upd rfl rfl (insx_lo hjq) hy⟩, harr0.other (by simp; omega) _, hbel1.setCell (by exact hgs1) _⟩
                · have hjq' : q = j := by omega
                  subst hjq'
                  clear hjq hj
                  go_wp2
                  go_loopg [22] (p - q) (fun gk i w2 => ∃ j : Nat, j ≤ p - q ∧ gk = p - q - j ∧ i = .int .i64 j ∧ (∃ y, Arr w2 g1 (m + (p - q)) y ∧ ∀ t, t < q + j → y t = insx q (p - q) (-1 - (k : Int)) x t) ∧ Arr w2 g m x ∧ Below w.heap.size w w2)
                  case atStart => exact ⟨0, Nat.zero_le _, rfl, rfl, ⟨y, harr1, hy⟩, harr0, hbel1⟩
                  case round =>
                    clear harr1 harr0 hbel1 hy y
                    obtain ⟨j, hj, rfl, rfl, ⟨y, harr1, hy⟩, harr0, hbel1⟩ := hrel
                    by_cases hjq : j < p - q
                    · have hc1 := harr1.cell (j := q + j) (by omega)
                      have hf1 := harr1.frozen (q + j)
                      have hjq' : (j : Int) < (p : Int) - (q : Int) := by omega
                      go_wp2
                      go_roundg (p - q - (j + 1))
                      case measure => omega
                      case rel =>
                        exact ⟨j + 1, by omega, rfl, by go_num, ⟨_, harr1.set (q + j) (-1 - (k : Int)), upd rfl (by omega) (insx_mid hjq) hy⟩, harr0.other (by simp; omega) _, hbel1.setCell (by exact hgs1) _⟩
                    · have hjq2 : j = p - q := by omega
                      have hjq' : ¬ (j : Int) < (p : Int) - (q : Int) := by omega
                      have hy2 : ∀ t, t < p → y t = insx q (p - q) (-1 - (k : Int)) x t := fun t ht => hy t (by omega)
                      have HY : Hid (∀ t, t < p → y t = insx q (p - q) (-1 - (k : Int)) x t) := hy2
                      clear hjq2 hy hy2
                      go_wp2
                      go_loopg [23] (m - q) (fun gk i w2 => ∃ j : Nat, q ≤ j ∧ j ≤ m ∧ gk = m - j ∧ i = .int .i64 j ∧ (∃ y, Arr w2 g1 (m + (p - q)) y ∧ ∀ t, t < p - q + j → y t = insx q (p - q) (-1 - (k : Int)) x t) ∧ Arr w2 g m x ∧ Below w.heap.size w w2)
                      case atStart => exact ⟨q, Nat.le_refl _, hqm, rfl, rfl, ⟨y, harr1, fun t ht => HY.out t (by omega)⟩, harr0, hbel1⟩
                      case round =>
                        clear harr1 harr0 hbel1 HY y hjq hj hjq'
                        obtain ⟨j, hqj, hj, rfl, rfl, ⟨y, harr1, hy⟩, harr0, hbel1⟩ := hrel
                        by_cases hjm : j < m
                        · have hc0 := harr0.cell (j := j) (by omega)
                          have hc1 := harr1.cell (j := j + (p - q)) (by omega)
                          have hf1 := harr1.frozen (j + (p - q))
                          go_wp2
                          go_roundg (m - (j + 1))
                          case measure => omega
                          case rel =>
                            exact ⟨j + 1, by omega, by omega, rfl, by go_num, ⟨_, harr1.set (j + (p - q)) (x j), upd (by omega) (by omega) (insx_hi hqj) hy⟩, harr0.other (by simp; omega) _, hbel1.setCell (by exact hgs1) _⟩
                        · have hjm' : m = j := by omega
                          subst hjm'
                          have harr2 : Arr wr g1 (m + (p - q)) (insx q (p - q) (-1 - (k : Int)) x) := harr1.congr (fun t ht => hy t (by omega))
                          have ca : wr.cell? ⟨b1, o1 + k, none⟩ = some (.int .i64 (q : Int)) := by rw [← HQ.out]; exact (hbel1.cell (by exact hb1)).trans (HA.out k hlt)
                          have cb : wr.cell? ⟨b2, o2 + k, none⟩ = some (.int .i64 (p : Int)) := by rw [← HP.out]; exact (hbel1.cell (by exact hb2)).trans (HB.out k hlt)
                          clear harr1 hy harr0 y hjm hqj hj
                          go_wp2
                          have hbw1 : b1 < wr.heap.size := Nat.lt_of_lt_of_le hb1 hbel1.size
                          have hbw2 : b2 < wr.heap.size := Nat.lt_of_lt_of_le hb2 hbel1.size
                          go_region_held3 (fun w' => w'.cell? ⟨b1, o1 + k, none⟩ = some (.int .i64 (q : Int)) ∧ w'.cell? ⟨b2, o2 + k, none⟩ = some (.int .i64 (p : Int)))
                            (first | go_keep | (exact ⟨(hb.cell (by exact hbw1)).trans ca, (hb.cell (by exact hbw2)).trans cb⟩))
                            ((go_at_call 15; refine (ins_any _ _ _ _ _ _ _ (by unfold Near; omega) (by unfold Near; omega) (by unfold Near; omega) (by unfold Near; omega) (by unfold Near; omega)).mono ?_; rintro e w' ⟨rfl, hb⟩))
                          go_wp2
                          obtain ⟨f', t', hF, hT, hf', ht', hinv'⟩ := HI.out.step HQ.out HP.out hqm hqp
                          have eT : tot a b k + ((p : Int) - (q : Int)) = tot a b (k + 1) := by simp only [tot, HQ.out, HP.out]
                          go_roundg (n - (k + 1))
                          case measure => omega
                          case rel =>
                            go_light
                            have hbel' : Below w.heap.size w w' := hbel1.drew.trans (hb.mono (show w.heap.size ≤ wr.heap.size from hbel1.size))
                            exact ⟨k + 1, m + (p - q), g1, f', t', true, _, by omega, rfl, by go_num, rfl, by rw [hF], by rw [hT], by rw [eT], rfl, harr2.of_block (hb.block g1 (show g1 < wr.heap.size from harr2.lt)), hgs1, hinv', hf', ht', hbel'⟩
            · have hkn : n = k := by omega
              subst hkn
              clear hlt hk H1 HA HB HWA HWB
              obtain ⟨hm, hi0, hi1⟩ := hinv
              have hm1 : (m : Int) ≤ (L : Int) + tot a b n := by omega
              have hm2 : (L : Int) + tot a b n ≤ (m : Int) := by omega
              clear hm
              by_cases hn0 : n = 0
              · obtain ⟨rfl, rfl, rfl, _⟩ := hi0 hn0
                subst hn0
                have et : tot a b 0 = 0 := rfl
                clear hi0 hi1 hm1 hm2
                go_wp2
                go_ret
                exact ⟨rfl, hbel3⟩
              · obtain ⟨rfl, hft, htm', hxf, hxt, hlo, hhi⟩ := hi1 (by omega)
                have HLO : Hid (∀ j : Nat, j < fN → x j = (j : Int)) := hlo
                have HHI : Hid (∀ j : Nat, tN ≤ j → j < m → x j = (j : Int) - tot a b n) := hhi
                clear hi0 hi1 hlo hhi
                have hn0' : ((n : Int) == 0) = false := by simpa using hn0
                have hc1 := harr.cell (j := fN) (by omega)
                have hc2 := harr.cell (j := tN - 1) (by omega)
                clear hn0
                go_wp2
                go_loopg [24] fN (fun gk i w2 => ∃ j : Nat, j ≤ fN ∧ gk = fN - j ∧ i = .int .i64 j ∧ Arr w2 g m x ∧ Below w.heap.size w w2)
                case atStart => exact ⟨0, Nat.zero_le _, rfl, rfl, harr, hbel3⟩
                case round =>
                  clear harr hbel3 hc1 hc2
                  obtain ⟨j, hj, rfl, rfl, harr, hbel3⟩ := hrel
                  by_cases hjf : j < fN
                  · have hc : wr.cell? ⟨g, j, none⟩ = some (.int .i64 (j : Int)) := by rw [← HLO.out j hjf]; exact harr.cell (by omega)
                    go_wp2
                    go_roundg (fN - (j + 1))
                    case measure => omega
                    case rel => exact ⟨j + 1, by omega, rfl, by go_num, harr, hbel3⟩
                  · go_wp2
                    go_loopg [25] (m - tN) (fun gk i w2 => ∃ j : Nat, tN ≤ j ∧ j ≤ m ∧ gk = m - j ∧ i = .int .i64 j ∧ Arr w2 g m x ∧ Below w.heap.size w w2)
                    case atStart => exact ⟨tN, Nat.le_refl _, htm', rfl, rfl, harr, hbel3⟩
                    case round =>
                      clear harr hbel3
                      obtain ⟨i, hti, him, rfl, rfl, harr, hbel3⟩ := hrel
                      by_cases hil : i < m
                      · have hc : wr.cell? ⟨g, i, none⟩ = some (.int .i64 ((i : Int) - tot a b n)) := by rw [← HHI.out i hti hil]; exact harr.cell (by omega)
                        go_wp2
                        go_roundg (m - (i + 1))
                        case measure => omega
                        case rel => exact ⟨i + 1, by omega, by omega, rfl, by go_num, harr, hbel3⟩
                      · go_wp2
                        go_ret
                        exact ⟨rfl, hbel3⟩
end Go.Proofs.Qxb6619195aMods
