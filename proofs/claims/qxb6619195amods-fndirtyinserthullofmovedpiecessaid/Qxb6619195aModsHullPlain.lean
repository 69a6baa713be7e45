import Derived.Test.Qxb6619195aModsIns
namespace Go.Proofs.Qxb6619195aMods
set_option linter.unusedVariables false

/-- f is the least of the first c numbers of x -/
def IsMin (x : Nat → Int) (c : Nat) (f : Int) : Prop := (∃ j, j < c ∧ x j = f) ∧ ∀ j, j < c → f ≤ x j
/-- t is the greatest of the first c numbers of x -/
def IsMax (x : Nat → Int) (c : Nat) (t : Int) : Prop := (∃ j, j < c ∧ x j = t) ∧ ∀ j, j < c → x j ≤ t

theorem IsMin.unique {x : Nat → Int} {c : Nat} {f g : Int} (h : IsMin x c f) (k : IsMin x c g) : f = g := by
  obtain ⟨⟨i, hi, rfl⟩, h2⟩ := h
  obtain ⟨⟨j, hj, rfl⟩, k2⟩ := k
  have := h2 j hj; have := k2 i hi; omega
theorem IsMax.unique {x : Nat → Int} {c : Nat} {f g : Int} (h : IsMax x c f) (k : IsMax x c g) : f = g := by
  obtain ⟨⟨i, hi, rfl⟩, h2⟩ := h
  obtain ⟨⟨j, hj, rfl⟩, k2⟩ := k
  have := h2 j hj; have := k2 i hi; omega

theorem IsMin.one (x : Nat → Int) : IsMin x 1 (x 0) := ⟨⟨0, by omega, rfl⟩, fun j hj => by have : j = 0 := by omega
                                                                                           subst this; omega⟩
theorem IsMax.one (x : Nat → Int) : IsMax x 1 (x 0) := ⟨⟨0, by omega, rfl⟩, fun j hj => by have : j = 0 := by omega
                                                                                           subst this; omega⟩
theorem IsMin.less {x : Nat → Int} {c : Nat} {f : Int} (h : IsMin x c f) (hx : x c < f) : IsMin x (c + 1) (x c) :=
  ⟨⟨c, by omega, rfl⟩, fun j hj => by
    by_cases e : j = c
    · subst e; omega
    · have := h.2 j (by omega); omega⟩
theorem IsMin.keep {x : Nat → Int} {c : Nat} {f : Int} (h : IsMin x c f) (hx : f ≤ x c) : IsMin x (c + 1) f := by
  obtain ⟨⟨i, hi, hxi⟩, h2⟩ := h
  exact ⟨⟨i, by omega, hxi⟩, fun j hj => by
    by_cases e : j = c
    · subst e; omega
    · exact h2 j (by omega)⟩
theorem IsMax.more {x : Nat → Int} {c : Nat} {f : Int} (h : IsMax x c f) (hx : f < x c) : IsMax x (c + 1) (x c) :=
  ⟨⟨c, by omega, rfl⟩, fun j hj => by
    by_cases e : j = c
    · subst e; omega
    · have := h.2 j (by omega); omega⟩
theorem IsMax.keep {x : Nat → Int} {c : Nat} {f : Int} (h : IsMax x c f) (hx : x c ≤ f) : IsMax x (c + 1) f := by
  obtain ⟨⟨i, hi, hxi⟩, h2⟩ := h
  exact ⟨⟨i, by omega, hxi⟩, fun j hj => by
    by_cases e : j = c
    · subst e; omega
    · exact h2 j (by omega)⟩

/-- a piece's head behind an insertion of n runes at q; y: its end -/
def mvA (q n x y : Int) : Int := if y ≤ q then x else if q ≤ x then x + n else x
/-- a piece's end behind it -/
def mvB (q n y : Int) : Int := if y ≤ q then y else y + n
/-- the list with one more -/
def snoc (x : Nat → Int) (c : Nat) (v : Int) (j : Nat) : Int := if j = c then v else x j

theorem mvA_stay {q n x y : Int} (h : y ≤ q) : x = mvA q n x y := by unfold mvA; rw [if_pos h]
theorem mvB_stay {q n y : Int} (h : y ≤ q) : y = mvB q n y := by unfold mvB; rw [if_pos h]
theorem mvA_on {q n x y : Int} (h : q < y) (h2 : q ≤ x) : x + n = mvA q n x y := by unfold mvA; rw [if_neg (by omega), if_pos h2]
theorem mvA_around {q n x y : Int} (h : q < y) (h2 : x < q) : x = mvA q n x y := by unfold mvA; rw [if_neg (by omega), if_neg (by omega)]
theorem mvB_on {q n y : Int} (h : q < y) : y + n = mvB q n y := by unfold mvB; rw [if_neg (by omega)]

/-- what a dirty tells: the hull of c pieces; nothing told yet where there is none -/
def Hull (f0 t0 : Int) (c : Nat) (x y : Nat → Int) (f t : Int) (sm : Bool) : Prop :=
  (c = 0 → f = f0 ∧ t = t0 ∧ sm = false) ∧ (0 < c → sm = true ∧ IsMin x c f ∧ IsMax y c t)

theorem Hull.step {f0 t0 : Int} {c : Nat} {x y x' y' : Nat → Int} {f t : Int} {sm : Bool} (h : Hull f0 t0 c x y f t sm) {q p : Int} (hqp : q ≤ p)
    (hx : ∀ j, j < c → x' j = mvA q (p - q) (x j) (y j)) (hy : ∀ j, j < c → y' j = mvB q (p - q) (y j)) :
    Hull f0 t0 (c + 1) (snoc x' c q) (snoc y' c (q + (p - q))) (insF sm f q) (insT sm t q p) true := by
  refine ⟨fun h => absurd h (by omega), fun _ => ⟨rfl, ?_, ?_⟩⟩
  · by_cases hc : c = 0
    · obtain ⟨_, _, rfl⟩ := h.1 hc
      subst hc
      have : insF false f q = snoc x' 0 q 0 := by simp [insF, snoc]
      rw [this]; exact IsMin.one _
    · obtain ⟨rfl, ⟨⟨i, hi, hxi⟩, hmin⟩, _⟩ := h.2 (by omega)
      have eF : insF true f q = min f q := by simp [insF]
      rw [eF]
      constructor
      · by_cases hfq : f < q
        · refine ⟨i, by omega, ?_⟩
          simp only [snoc]; rw [if_neg (by omega), hx i hi, hxi]
          unfold mvA
          split
          · omega
          · split <;> omega
        · exact ⟨c, by omega, by simp only [snoc, if_true]; omega⟩
      · intro j hj
        simp only [snoc]
        by_cases e : j = c
        · rw [if_pos e]; omega
        · rw [if_neg e, hx j (by omega)]
          have := hmin j (by omega)
          unfold mvA
          split
          · omega
          · split <;> omega
  · by_cases hc : c = 0
    · obtain ⟨_, _, rfl⟩ := h.1 hc
      subst hc
      have : insT false t q p = snoc y' 0 (q + (p - q)) 0 := by simp only [insT, snoc, if_true]; simp; omega
      rw [this]; exact IsMax.one _
    · obtain ⟨rfl, _, ⟨⟨i, hi, hyi⟩, hmax⟩⟩ := h.2 (by omega)
      by_cases htq : q < t
      · have eT : insT true t q p = t + (p - q) := by simp [insT, htq]
        rw [eT]
        constructor
        · refine ⟨i, by omega, ?_⟩
          simp only [snoc]; rw [if_neg (by omega), hy i hi, hyi]
          unfold mvB; rw [if_neg (by omega)]
        · intro j hj
          simp only [snoc]
          by_cases e : j = c
          · rw [if_pos e]; omega
          · rw [if_neg e, hy j (by omega)]
            have := hmax j (by omega)
            unfold mvB
            split <;> omega
      · have eT : insT true t q p = p := by simp [insT, htq]
        rw [eT]
        constructor
        · exact ⟨c, by omega, by simp only [snoc, if_true]; omega⟩
        · intro j hj
          simp only [snoc]
          by_cases e : j = c
          · rw [if_pos e]; omega
          · rw [if_neg e, hy j (by omega)]
            have := hmax j (by omega)
            unfold mvB
            split <;> omega

/-- behind k insertions no number is far out -/
def InB (k : Nat) (v : Int) : Prop := -(1099511627776 * (2 * (k : Int) + 1)) ≤ v ∧ v ≤ 1099511627776 * (2 * (k : Int) + 1)

/-- all that the walk knows behind k insertions -/
def St (f0 t0 : Int) (k c : Nat) (x y : Nat → Int) (f t S : Int) (s : Bool) : Prop :=
  Hull f0 t0 c x y f t s ∧ InB k f ∧ InB k t ∧ InB k S ∧ ∀ j, j < c → InB k (x j) ∧ InB k (y j)

theorem St.step {f0 t0 : Int} {k c : Nat} {x y x' y' : Nat → Int} {f t S : Int} {s : Bool} (h : St f0 t0 k c x y f t S s) {q p : Int} (hqp : q ≤ p)
    (hq : -1099511627776 ≤ q ∧ q ≤ 1099511627776) (hp : -1099511627776 ≤ p ∧ p ≤ 1099511627776)
    (hx : ∀ j, j < c → x' j = mvA q (p - q) (x j) (y j)) (hy : ∀ j, j < c → y' j = mvB q (p - q) (y j)) :
    St f0 t0 (k + 1) (c + 1) (snoc x' c q) (snoc y' c (q + (p - q))) (insF s f q) (insT s t q p) (S + (p - q)) true := by
  obtain ⟨hh, hf, ht, hS, hb⟩ := h
  unfold InB at hf ht hS
  refine ⟨hh.step hqp hx hy, ?_, ?_, ?_, ?_⟩
  · unfold InB insF
    split <;> omega
  · unfold InB insT
    split
    · split <;> omega
    · omega
  · unfold InB; omega
  · intro j hj
    unfold snoc
    by_cases e : j = c
    · rw [if_pos e, if_pos e]; unfold InB; omega
    · rw [if_neg e, if_neg e, hx j (by omega), hy j (by omega)]
      obtain ⟨b1, b2⟩ := hb j (by omega)
      unfold InB at b1 b2
      constructor
      · unfold InB mvA
        split
        · omega
        · split <;> omega
      · unfold InB mvB
        split <;> omega

theorem St.start0 {f0 t0 : Int} (hf : -1099511627776 ≤ f0 ∧ f0 ≤ 1099511627776) (ht : -1099511627776 ≤ t0 ∧ t0 ≤ 1099511627776) (x y : Nat → Int) : St f0 t0 0 0 x y f0 t0 0 false :=
  ⟨⟨fun _ => ⟨rfl, rfl, rfl⟩, fun h => absurd h (by omega)⟩, by unfold InB; omega, by unfold InB; omega, by unfold InB; omega, fun j hj => absurd hj (by omega)⟩

theorem St.start1 {f0 t0 : Int} (hf : -1099511627776 ≤ f0 ∧ f0 ≤ 1099511627776) (ht : -1099511627776 ≤ t0 ∧ t0 ≤ 1099511627776) : St f0 t0 0 1 (fun _ => f0) (fun _ => t0) f0 t0 0 true :=
  ⟨⟨fun h => absurd h (by omega), fun _ => ⟨rfl, IsMin.one (fun _ => f0), IsMax.one (fun _ => t0)⟩⟩, by unfold InB; omega, by unfold InB; omega, by unfold InB; omega, fun j hj => by constructor <;> (unfold InB; dsimp only; omega)⟩

end Go.Proofs.Qxb6619195aMods
