/-
  THE PLAIN LAW OF THIS SEAT: no Go text in sight: a run of 'at least' rules ends at the greatest tier; the last rule that reached it is named; the votes follow the records.
-/
namespace Go.Proofs.Qxb6609046aDoor

/-- the vote behind a rule -/
def voteOf (vo ve : ByteArray) : ByteArray := if ve.toList.isEmpty then vo else ve
theorem vote_some {vo ve : ByteArray} (h : (!ve.toList.isEmpty) = true) : voteOf vo ve = ve := by simp at h; simp [voteOf, h]
theorem vote_none {vo ve : ByteArray} (h : (!ve.toList.isEmpty) = false) : voteOf vo ve = vo := by simp at h; simp [voteOf, h]

/-- the level after k 'at least' rules -/
def levTo (s : Int) (X : Nat → Int) : Nat → Int
  | 0 => s
  | k + 1 => if X k < levTo s X k then levTo s X k else X k
/-- the rule after k of them -/
def ruleTo (s : Int) (X : Nat → Int) (r0 : ByteArray) (I : Nat → ByteArray) : Nat → ByteArray
  | 0 => r0
  | k + 1 => if X k < levTo s X k then ruleTo s X r0 I k else I k
/-- the vote after k of them -/
def voteTo (s : Int) (X : Nat → Int) (v0 : ByteArray) (V : Nat → ByteArray) : Nat → ByteArray
  | 0 => v0
  | k + 1 => if X k < levTo s X k then voteTo s X v0 V k else voteOf (voteTo s X v0 V k) (V k)

section
variable {s : Int} {X : Nat → Int} {r0 v0 : ByteArray} {I V : Nat → ByteArray}

theorem lev_low {k : Nat} (h : X k < levTo s X k) : levTo s X (k + 1) = levTo s X k := by simp [levTo, h]
theorem lev_up {k : Nat} (h : ¬ X k < levTo s X k) : levTo s X (k + 1) = X k := by simp [levTo, h]
theorem lev_max {k : Nat} (h : ¬ levTo s X k < X k) : levTo s X (k + 1) = levTo s X k := by
  by_cases e : X k < levTo s X k
  · exact lev_low e
  · rw [lev_up e]; omega
theorem rule_low {k : Nat} (h : X k < levTo s X k) : ruleTo s X r0 I (k + 1) = ruleTo s X r0 I k := by simp [ruleTo, h]
theorem rule_up {k : Nat} (h : ¬ X k < levTo s X k) : ruleTo s X r0 I (k + 1) = I k := by simp [ruleTo, h]
theorem voteTo_low {k : Nat} (h : X k < levTo s X k) : voteTo s X v0 V (k + 1) = voteTo s X v0 V k := by simp [voteTo, h]
theorem voteTo_up {k : Nat} (h : ¬ X k < levTo s X k) : voteTo s X v0 V (k + 1) = voteOf (voteTo s X v0 V k) (V k) := by simp [voteTo, h]

/-- NONE OF THE RULES REACHED THE TOP: the first rule stands. -/
theorem rule_none : ∀ n, (∀ m, m < n → X m ≠ levTo s X n) → ruleTo s X r0 I n = r0
  | 0, _ => rfl
  | n + 1, h => by
    have h1 : X n < levTo s X n := by
      by_cases e : X n < levTo s X n
      · exact e
      · exact absurd (lev_up e).symm (h n (by omega))
    rw [rule_low h1]
    exact rule_none n (fun m hm => by have := h m (by omega); rwa [lev_low h1] at this)

/-- THE LAST RULE THAT REACHED THE TOP STANDS. -/
theorem rule_last : ∀ n i, i < n → X i = levTo s X n → (∀ m, i < m → m < n → X m ≠ levTo s X n) → ruleTo s X r0 I n = I i
  | 0, i, hi, _, _ => absurd hi (Nat.not_lt_zero i)
  | n + 1, i, hi, he, h => by
    by_cases e : X n < levTo s X n
    · have hin : i ≠ n := by
        intro e2
        subst e2
        rw [lev_low e] at he
        omega
      rw [rule_low e]
      rw [lev_low e] at he h
      exact rule_last n i (by omega) he (fun m h1 h2 => h m h1 (by omega))
    · by_cases hin : i = n
      · subst hin
        exact rule_up e
      · exact absurd (lev_up e).symm (h n (by omega) (by omega))
end
end Go.Proofs.Qxb6609046aDoor
