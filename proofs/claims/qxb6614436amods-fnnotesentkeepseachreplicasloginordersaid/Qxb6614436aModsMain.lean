import Derived.Test.Qxb6614436aModsLaw
namespace Go.Proofs.Qxb6614436aMods
open Go.RowKit
set_option linter.unusedVariables false

theorem rk_hit (to : Nat → Int) {x : Int} {j k : Nat} (h : to j = x) (hjk : j < k) : (ix to x (min (j + 1) k)).length = (ix to x (min j k)).length + 1 := by
  rw [show min (j + 1) k = j + 1 from by omega, show min j k = j from by omega, ix_step_len, if_pos h]
theorem rk_past (to : Nat → Int) {x : Int} {j k : Nat} (hjk : ¬ j < k) : (ix to x (min (j + 1) k)).length = (ix to x (min j k)).length := by
  rw [show min (j + 1) k = k from by omega, show min j k = k from by omega]
theorem rk_miss (to : Nat → Int) {x : Int} {j k : Nat} (h : ¬ to j = x) : (ix to x (min (j + 1) k)).length = (ix to x (min j k)).length := by
  by_cases hjk : j < k
  · rw [show min (j + 1) k = j + 1 from by omega, show min j k = j from by omega, ix_step_len, if_neg h]; rfl
  · exact rk_past to hjk
theorem tt_hit (to : Nat → Int) {x : Int} {j : Nat} (h : to j = x) : (ix to x (j + 1)).length = (ix to x j).length + 1 := by rw [ix_step_len, if_pos h]
theorem tt_miss (to : Nat → Int) {x : Int} {j : Nat} (h : ¬ to j = x) : (ix to x (j + 1)).length = (ix to x j).length := by rw [ix_step_len, if_neg h]; rfl

set_option maxRecDepth 100000 in
set_option maxHeartbeats 1000000 in
theorem law_main (n cap : Nat) (w : World) (hn : n ≤ 4096) (hn0 : 0 < n) (b o : Nat) (to kk : Nat → Int) (ak : Nat → Bool) (hb : b < w.heap.size)
    (hct : ∀ t, t < n → w.cell? ⟨b, o + t * 3, none⟩ = some (.int .i64 (to t))) (hck : ∀ t, t < n → w.cell? ⟨b, o + t * 3 + 1, none⟩ = some (.int .i64 (kk t))) (hca : ∀ t, t < n → w.cell? ⟨b, o + t * 3 + 2, none⟩ = some (.bool (ak t)))
    (hx : ∀ t, t < n → (Lit.int .i64 (to t)).wf = true) :
    Calls Trym.prog 3 #[.slice (some ⟨b, o, none⟩) n cap] w fun e w' => e = .returned (.bool true) ∧ Below w.heap.size w w' := by
  have HR : Hid (Calls Trym.prog 5 #[.slice (some ⟨b, o, none⟩) n cap] w fun e w' => e = .returned (.pointer (some ⟨w.heap.size, 0, none⟩)) ∧ Below w.heap.size w w' ∧ Phase w' w.heap.size n to kk ak) :=
    replay (some ⟨b, o, none⟩) n cap w hn b o to kk ak (fun _ => rfl) (fun _ => hb) hct hck hca hx
  have HT : Hid (∀ t, t < n → w.cell? ⟨b, o + t * 3, none⟩ = some (.int .i64 (to t))) := hct
  have HK : Hid (∀ t, t < n → w.cell? ⟨b, o + t * 3 + 1, none⟩ = some (.int .i64 (kk t))) := hck
  have HA : Hid (∀ t, t < n → w.cell? ⟨b, o + t * 3 + 2, none⟩ = some (.bool (ak t))) := hca
  have HX : Hid (∀ t, t < n → (Lit.int .i64 (to t)).wf = true) := hx
  clear hct hck hca hx
  have hn0' : ((n : Int) == 0) = false := beq_eq_false_iff_ne.2 (by omega)
  go_enter Trym.func3, Trym.ntmps3
  go_wp2_with (first | (go_at_call 4; refine (bytes4 _ _ _ _ (by unfold maxLen; omega)).mono ?_; rintro e w' ⟨rb, rfl, rfl⟩) | (go_at_call 5; refine HR.out.mono ?_; rintro e w1 ⟨rfl, hb1, hp⟩))
  · go_ret; exact ⟨rfl, Below.refl _ _⟩
  have hp' : ∃ bm D V, w.heap.size < bm ∧ w1.cell? ⟨w.heap.size, 5, none⟩ = some (.map (some bm)) ∧ LogSt w1 bm n to kk ak D V := by
    rcases hp with ⟨h, _⟩ | ⟨_, h⟩
    · omega
    · exact h
  obtain ⟨bm, D, V, hsb, hc1, hlog1⟩ := hp'
  clear hp HR
  go_loopg [4, 5] n (fun gk d i wr => ∃ k : Nat, k ≤ n ∧ gk = n - k ∧ i = .int .i64 k ∧ d = .int .i64 (dist to k) ∧ wr.cell? ⟨w.heap.size, 5, none⟩ = some (.map (some bm)) ∧ LogSt wr bm n to kk ak D V ∧ Below w.heap.size w wr)
  case atStart => exact ⟨0, Nat.zero_le _, rfl, rfl, rfl, hc1, hlog1, hb1⟩
  case round =>
    clear hc1 hlog1 hb1
    obtain ⟨k, hk, rfl, rfl, rfl, hc, hlog, hbel⟩ := hrel
    have HL : Hid (LogSt wr bm n to kk ak D V) := hlog
    have hdk := dist_le to k
    clear hlog
    by_cases hlt : k < n
    · have c0 : wr.cell? ⟨b, o + k * 3, none⟩ = some (.int .i64 (to k)) := (hbel.cell (by exact hb)).trans (HT.out k hlt)
      have c1 : wr.cell? ⟨b, o + k * 3 + 1, none⟩ = some (.int .i64 (kk k)) := (hbel.cell (by exact hb)).trans (HK.out k hlt)
      have c2 : wr.cell? ⟨b, o + k * 3 + 2, none⟩ = some (.bool (ak k)) := (hbel.cell (by exact hb)).trans (HA.out k hlt)
      have hlt' : (k : Int) < (n : Int) := by omega
      have hxk := HX.out k hlt
      go_wp2
      go_loopg [6, 7, 8] n (fun gk rk tt j w2 => ∃ j' : Nat, j' ≤ n ∧ gk = n - j' ∧ j = .int .i64 j' ∧ rk = .int .i64 (ix to (to k) (min j' k)).length ∧ tt = .int .i64 (ix to (to k) j').length ∧ ∃ nq, w2 = wr.drewN nq)
      case atStart => exact ⟨0, Nat.zero_le _, rfl, rfl, by simp [ix], by simp [ix], 0, rfl⟩
      case round =>
        obtain ⟨j, hj, rfl, rfl, rfl, rfl, nq, rfl⟩ := hrel
        have hr := ix_le to (to k) (min j k)
        have ht := ix_le to (to k) j
        by_cases hjn : j < n
        · have cj : wr.cell? ⟨b, o + j * 3, none⟩ = some (.int .i64 (to j)) := (hbel.cell (by exact hb)).trans (HT.out j hjn)
          have hjn' : (j : Int) < (n : Int) := by omega
          by_cases e : to j = to k
          · have E : Hid (to j = to k) := e
            have he : (to j == to k) = true := by simpa using e
            clear e
            by_cases hjk : j < k
            · go_wp2
              go_quiet (fail)
              go_wp2
              go_roundg (n - (j + 1))
              case measure => omega
              case rel => exact ⟨j + 1, by omega, rfl, by go_num, by rw [rk_hit to E.out hjk]; go_num, by rw [tt_hit to E.out]; go_num, _, rfl⟩
            · go_wp2
              go_quiet (fail)
              go_wp2
              go_roundg (n - (j + 1))
              case measure => omega
              case rel => exact ⟨j + 1, by omega, rfl, by go_num, by rw [rk_past to hjk], by rw [tt_hit to E.out]; go_num, _, rfl⟩
          · have E : Hid (¬ to j = to k) := e
            have he : (to j == to k) = false := by simpa using e
            clear e
            go_wp2
            go_quiet (fail)
            go_wp2
            go_roundg (n - (j + 1))
            case measure => omega
            case rel => exact ⟨j + 1, by omega, rfl, by go_num, by rw [rk_miss to E.out], by rw [tt_miss to E.out], _, rfl⟩
        · have hjn2 : n = j := by omega
          subst hjn2
          rw [show min n k = k from by omega]
          have hcW : (wr.drewN nq).cell? ⟨w.heap.size, 5, none⟩ = some (.map (some bm)) := hc
          have HW : Hid (LogSt (wr.drewN nq) bm n to kk ak D V) := HL.out.drewN nq
          have hbW : Below w.heap.size w (wr.drewN nq) := below_drewN hbel nq
          have d0 : (wr.drewN nq).cell? ⟨b, o + k * 3, none⟩ = some (.int .i64 (to k)) := c0
          have d1 : (wr.drewN nq).cell? ⟨b, o + k * 3 + 1, none⟩ = some (.int .i64 (kk k)) := c1
          have d2 : (wr.drewN nq).cell? ⟨b, o + k * 3 + 2, none⟩ = some (.bool (ak k)) := c2
          clear hc HL hbel c0 c1 c2 hr hj hjn
          generalize wr.drewN nq = W at *
          have hsz : w.heap.size < W.heap.size := by have := HW.out.map_lt; omega
          by_cases hr0 : (ix to (to k) k).length = 0
          · have hd : dist to (k + 1) = dist to k + 1 := by simp [dist, hr0]
            have HD : Hid (dist to (k + 1) = dist to k + 1) := hd
            have hr0' : (((ix to (to k) k).length : Int) == 0) = true := by simp [hr0]
            have HR0 : Hid ((ix to (to k) k).length = 0) := hr0
            clear hd hr0
            go_wp2_with (go_at_call 7; refine (len7 w.heap.size bm n to kk ak D V (to k) _ hcW HW.out hxk).mono ?_; rintro e w' ⟨rfl, rfl⟩)
            go_region_held3 (fun w' => w'.cell? ⟨b, o + k * 3, none⟩ = some (.int .i64 (to k)) ∧ w'.cell? ⟨b, o + k * 3 + 1, none⟩ = some (.int .i64 (kk k)) ∧ w'.cell? ⟨b, o + k * 3 + 2, none⟩ = some (.bool (ak k)))
              (first | go_keep | (exact ⟨(hb2.cell (by exact Nat.lt_trans hb hsz)).trans d0, (hb2.cell (by exact Nat.lt_trans hb hsz)).trans d1, (hb2.cell (by exact Nat.lt_trans hb hsz)).trans d2⟩))
              ((go_at_call 8; refine (entry8 w.heap.size bm n k to kk ak D V _ ?_ ?_ hxk hlt hn).mono ?_; exact hcW; exact HW.out.drew; rintro e w' ⟨rfl, hb2⟩))
            go_wp2
            go_roundg (n - (k + 1))
            case measure => omega
            case rel => exact ⟨k + 1, by omega, rfl, by go_num, by rw [HD.out]; go_num, (hb2.cell (by exact hsz)).trans hcW, HW.out.drew.below hb2, hbW.drew.trans (hb2.mono (show w.heap.size ≤ W.heap.size from hbW.size))⟩
          · have hd : dist to (k + 1) = dist to k := by simp [dist, hr0]
            have HD : Hid (dist to (k + 1) = dist to k) := hd
            have hr0' : (((ix to (to k) k).length : Int) == 0) = false := beq_eq_false_iff_ne.2 (by omega)
            clear hd hr0
            go_wp2_with (go_at_call 7; refine (len7 w.heap.size bm n to kk ak D V (to k) _ hcW HW.out hxk).mono ?_; rintro e w' ⟨rfl, rfl⟩)
            go_region_held3 (fun w' => w'.cell? ⟨b, o + k * 3, none⟩ = some (.int .i64 (to k)) ∧ w'.cell? ⟨b, o + k * 3 + 1, none⟩ = some (.int .i64 (kk k)) ∧ w'.cell? ⟨b, o + k * 3 + 2, none⟩ = some (.bool (ak k)))
              (first | go_keep | (exact ⟨(hb2.cell (by exact Nat.lt_trans hb hsz)).trans d0, (hb2.cell (by exact Nat.lt_trans hb hsz)).trans d1, (hb2.cell (by exact Nat.lt_trans hb hsz)).trans d2⟩))
              ((go_at_call 8; refine (entry8 w.heap.size bm n k to kk ak D V _ ?_ ?_ hxk hlt hn).mono ?_; exact hcW; exact HW.out.drew; rintro e w' ⟨rfl, hb2⟩))
            go_wp2
            go_roundg (n - (k + 1))
            case measure => omega
            case rel => exact ⟨k + 1, by omega, rfl, by go_num, by rw [HD.out], (hb2.cell (by exact hsz)).trans hcW, HW.out.drew.below hb2, hbW.drew.trans (hb2.mono (show w.heap.size ≤ W.heap.size from hbW.size))⟩
    · have hkn : n = k := by omega
      subst hkn
      clear hlt hk
      go_wp2_with (go_at_call 9; refine (count9 w.heap.size bm n to kk ak D V _ hc HL.out).mono ?_; rintro e w' ⟨rfl, rfl⟩)
      go_ret
      exact ⟨rfl, hbel⟩
end Go.Proofs.Qxb6614436aMods
