import Derived.Test.Qxb6619195aModsIns
namespace Go.Proofs.Qxb6619195aMods
set_option linter.unusedVariables false

/-- the runes that the first k insertions bring -/
def tot (a b : Nat → Int) : Nat → Int
  | 0 => 0
  | k + 1 => tot a b k + (b k - a k)

/-- the first k insertions are as the law wants them -/
def OkTo (L : Nat) (a b : Nat → Int) (k : Nat) : Prop :=
  (∀ j, j < k → 0 ≤ a j ∧ a j ≤ (L : Int) + tot a b j ∧ a j < b j) ∧ (L : Int) + tot a b k ≤ 65536 ∧ 0 ≤ tot a b k

theorem OkTo.zero (L : Nat) (a b : Nat → Int) (h : L ≤ 65536) : OkTo L a b 0 :=
  ⟨fun j hj => absurd hj (by omega), by simp [tot]; omega, by simp [tot]⟩

theorem OkTo.step {L : Nat} {a b : Nat → Int} {k : Nat} (h : OkTo L a b k) (h0 : 0 ≤ a k) (h1 : a k ≤ (L : Int) + tot a b k) (h2 : a k < b k) (h3 : b k - a k ≤ 65536 - (L : Int) - tot a b k) : OkTo L a b (k + 1) := by
  obtain ⟨g, e, p⟩ := h
  refine ⟨fun j hj => ?_, by simp only [tot]; omega, by simp only [tot]; omega⟩
  by_cases hjk : j = k
  · subst hjk; exact ⟨h0, h1, h2⟩
  · exact g j (by omega)

theorem OkTo.pred {L : Nat} {a b : Nat → Int} {k : Nat} (h : OkTo L a b (k + 1)) : OkTo L a b k := by
  obtain ⟨g, e, p⟩ := h
  have := g k (by omega)
  simp only [tot] at e p
  have hp : 0 ≤ tot a b k := by
    clear e p this
    induction k with
    | zero => simp [tot]
    | succ k ih =>
      have g1 := g k (by omega)
      have := ih (fun j hj => g j (by omega))
      simp only [tot]; omega
  exact ⟨fun j hj => g j (by omega), by omega, hp⟩

theorem OkTo.down {L : Nat} {a b : Nat → Int} {n : Nat} (h : OkTo L a b n) {k : Nat} (hk : k ≤ n) : OkTo L a b k := by
  induction n with
  | zero => have : k = 0 := by omega
            subst this; exact h
  | succ n ih =>
    by_cases e : k = n + 1
    · subst e; exact h
    · exact ih h.pred (by omega)

/-- the text behind an insertion of n runes v at q -/
def insx (q n : Nat) (v : Int) (x : Nat → Int) (j : Nat) : Int := if j < q then x j else if j < q + n then v else x (j - n)

theorem insx_lo {q n j : Nat} {v : Int} {x : Nat → Int} (h : j < q) : x j = insx q n v x j := by unfold insx; rw [if_pos h]
theorem insx_mid {q n j : Nat} {v : Int} {x : Nat → Int} (h : j < n) : v = insx q n v x (q + j) := by unfold insx; rw [if_neg (by omega), if_pos (by omega)]
theorem insx_hi {q n j : Nat} {v : Int} {x : Nat → Int} (h : q ≤ j) : x j = insx q n v x (j + n) := by
  unfold insx; rw [if_neg (by omega), if_neg (by omega)]; congr 1; omega

/-- one cell more is as F says -/
theorem upd {F y : Nat → Int} {j c d : Nat} {v : Int} (hc : c = j) (hd : d = j + 1) (hv : v = F j) (hy : ∀ t, t < c → y t = F t) : ∀ t, t < d → (fun i => if i = j then v else y i) t = F t := by
  intro t ht
  by_cases e : t = j
  · subst e; simp [hv]
  · simp only [e, if_false]; exact hy t (by omega)

/-- what the dirty tells of the text behind k insertions -/
def Inv (L : Nat) (a b : Nat → Int) (k m f t : Nat) (sm : Bool) (x : Nat → Int) : Prop :=
  (m : Int) = (L : Int) + tot a b k ∧ (k = 0 → f = 0 ∧ t = 0 ∧ sm = false ∧ ∀ j, j < m → x j = (j : Int)) ∧
  (0 < k → sm = true ∧ f < t ∧ t ≤ m ∧ x f < 0 ∧ x (t - 1) < 0 ∧ (∀ j : Nat, j < f → x j = (j : Int)) ∧ (∀ j : Nat, t ≤ j → j < m → x j = (j : Int) - tot a b k))

theorem Inv.start (L : Nat) (a b : Nat → Int) (x : Nat → Int) (hx : ∀ j, j < L → x j = (j : Int)) : Inv L a b 0 L 0 0 false x :=
  ⟨by simp [tot], fun _ => ⟨rfl, rfl, rfl, hx⟩, fun h => absurd h (by omega)⟩

theorem Inv.step {L : Nat} {a b : Nat → Int} {k m f t : Nat} {sm : Bool} {x : Nat → Int} (h : Inv L a b k m f t sm x) {q p : Nat} (hq : a k = q) (hp : b k = p) (hqm : q ≤ m) (hqp : q < p) :
    ∃ f' t' : Nat, insF sm f q = (f' : Int) ∧ insT sm t q p = (t' : Int) ∧ f' ≤ m + (p - q) ∧ t' ≤ m + (p - q) ∧ Inv L a b (k + 1) (m + (p - q)) f' t' true (insx q (p - q) (-1 - (k : Int)) x) := by
  obtain ⟨hm, h0, h1⟩ := h
  have hm' : ((m + (p - q) : Nat) : Int) = (L : Int) + tot a b (k + 1) := by
    simp only [tot, hq, hp]; omega
  have htot : tot a b (k + 1) = tot a b k + ((p : Int) - (q : Int)) := by simp only [tot, hq, hp]
  by_cases hk : k = 0
  · subst hk
    obtain ⟨rfl, rfl, rfl, hx⟩ := h0 rfl
    refine ⟨q, p, by simp [insF], by simp [insT], by omega, by omega, hm', fun h => absurd h (by omega), fun _ => ⟨rfl, hqp, by omega, ?_, ?_, fun j hj => ?_, fun j hj hjm => ?_⟩⟩
    · simp only [insx]; rw [if_neg (by omega), if_pos (by omega)]; omega
    · simp only [insx]; rw [if_neg (by omega), if_pos (by omega)]; omega
    · simp only [insx]; rw [if_pos hj]; exact hx j (by omega)
    · simp only [insx]; rw [if_neg (by omega), if_neg (by omega), hx (j - (p - q)) (by omega), htot]
      have : tot a b 0 = 0 := rfl
      omega
  · obtain ⟨rfl, hft, htm, hxf, hxt, hlo, hhi⟩ := h1 (by omega)
    have hF : ∃ f' : Nat, insF true f q = (f' : Int) ∧ f' = min f q := ⟨min f q, by simp only [insF, if_true]; omega, rfl⟩
    obtain ⟨f', hF, hf'⟩ := hF
    by_cases htq : q < t
    · refine ⟨f', t + (p - q), hF, by simp only [insT, if_true]; rw [if_pos (by omega)]; omega, by omega, by omega, hm', fun h => absurd h (by omega), fun _ => ⟨rfl, by omega, by omega, ?_, ?_, fun j hj => ?_, fun j hj hjm => ?_⟩⟩
      · simp only [insx]
        by_cases hfq : f < q
        · have e : f' = f := by omega
          rw [e, if_pos hfq]; exact hxf
        · have e : f' = q := by omega
          rw [e, if_neg (by omega), if_pos (by omega)]; omega
      · simp only [insx]; rw [if_neg (by omega), if_neg (by omega), show t + (p - q) - 1 - (p - q) = t - 1 from by omega]; exact hxt
      · simp only [insx]; rw [if_pos (by omega)]; exact hlo j (by omega)
      · simp only [insx]; rw [if_neg (by omega), if_neg (by omega), hhi (j - (p - q)) (by omega) (by omega), htot]; omega
    · refine ⟨f', p, hF, by simp only [insT, if_true]; rw [if_neg (by omega)], by omega, by omega, hm', fun h => absurd h (by omega), fun _ => ⟨rfl, by omega, by omega, ?_, ?_, fun j hj => ?_, fun j hj hjm => ?_⟩⟩
      · have e : f' = f := by omega
        simp only [insx]; rw [e, if_pos (by omega)]; exact hxf
      · simp only [insx]; rw [if_neg (by omega), if_pos (by omega)]; omega
      · simp only [insx]; rw [if_pos (by omega)]; exact hlo j (by omega)
      · simp only [insx]; rw [if_neg (by omega), if_neg (by omega), hhi (j - (p - q)) (by omega) (by omega), htot]; omega

end Go.Proofs.Qxb6619195aMods
