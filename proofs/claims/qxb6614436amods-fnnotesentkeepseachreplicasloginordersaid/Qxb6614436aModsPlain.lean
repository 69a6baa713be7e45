import Derived.Test.Qxb6614436aModsRows
namespace Go.Proofs.Qxb6614436aMods
set_option linter.unusedVariables false

/-- which of the first k calls go to x, in their order -/
def ix (to : Nat → Int) (x : Int) : Nat → List Nat
  | 0 => []
  | k + 1 => if to k = x then ix to x k ++ [k] else ix to x k

/-- how many replicas the first k calls name -/
def dist (to : Nat → Int) : Nat → Nat
  | 0 => 0
  | k + 1 => dist to k + (if (ix to (to k) k).length = 0 then 1 else 0)

theorem ix_same (to : Nat → Int) (k : Nat) : ix to (to k) (k + 1) = ix to (to k) k ++ [k] := by simp [ix]
theorem ix_other (to : Nat → Int) {x : Int} {k : Nat} (h : x ≠ to k) : ix to x (k + 1) = ix to x k := by
  have h' : ¬ to k = x := fun e => h e.symm
  simp [ix, h']
theorem ix_le (to : Nat → Int) (x : Int) (k : Nat) : (ix to x k).length ≤ k := by
  induction k with
  | zero => simp [ix]
  | succ k ih =>
    simp only [ix]
    split
    · simp; omega
    · omega
theorem dist_le (to : Nat → Int) (k : Nat) : dist to k ≤ k := by
  induction k with
  | zero => simp [dist]
  | succ k ih =>
    simp only [dist]
    split <;> omega

/-- of the calls to x among the first k + 1: one more where call k goes to x -/
theorem ix_step_len (to : Nat → Int) (x : Int) (k : Nat) : (ix to x (k + 1)).length = (ix to x k).length + (if to k = x then 1 else 0) := by
  simp only [ix]
  split <;> simp

theorem ix_at (to : Nat → Int) (i n : Nat) (h : i < n) : (ix to (to i) n)[(ix to (to i) i).length]? = some i := by
  induction n with
  | zero => omega
  | succ n ih =>
    by_cases e : i = n
    · subst e
      rw [ix_same]; simp
    · have := ih (by omega)
      simp only [ix]
      split
      · obtain ⟨hlt, _⟩ := List.getElem?_eq_some_iff.1 this
        rw [List.getElem?_append_left hlt]; exact this
      · exact this

/-- the cells of a row of sentParts -/
def cel (kk : Nat → Int) (ak : Nat → Bool) (l : List Nat) : List Value := l.flatMap fun j => [.int .i64 (kk j), .bool (ak j)]

theorem cel_snoc (kk : Nat → Int) (ak : Nat → Bool) (l : List Nat) (j : Nat) : cel kk ak (l ++ [j]) = cel kk ak l ++ [.int .i64 (kk j), .bool (ak j)] := by simp [cel]
theorem cel_cons (kk : Nat → Int) (ak : Nat → Bool) (l : List Nat) (j : Nat) : cel kk ak (j :: l) = .int .i64 (kk j) :: .bool (ak j) :: cel kk ak l := by simp [cel]
theorem cel_length (kk : Nat → Int) (ak : Nat → Bool) (l : List Nat) : (cel kk ak l).length = l.length * 2 := by
  induction l with
  | nil => simp [cel]
  | cons j l ih => rw [cel_cons]; simp [ih]; omega
theorem cel_get (kk : Nat → Int) (ak : Nat → Bool) (l : List Nat) (r j : Nat) (h : l[r]? = some j) : (cel kk ak l)[r * 2]? = some (.int .i64 (kk j)) ∧ (cel kk ak l)[r * 2 + 1]? = some (.bool (ak j)) := by
  induction l generalizing r with
  | nil => simp at h
  | cons i l ih =>
    rw [cel_cons]
    cases r with
    | zero => simp at h; subst h; simp
    | succ r =>
      have := ih r (by simpa using h)
      rw [show (r + 1) * 2 = r * 2 + 2 from by omega]
      simpa using this

end Go.Proofs.Qxb6614436aMods
