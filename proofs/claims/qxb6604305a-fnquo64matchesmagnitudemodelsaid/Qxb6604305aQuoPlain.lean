/-
  THE PLAIN SIDE OF quo64: no Go in sight. Own work on this program.
-/
namespace Go.Proofs.Qxb6604305a.Quo

/-- The quotient of the magnitudes, rounded, before the sign is laid on. -/
def qmag (a b : Nat) (half : Bool) : Nat := if half = true ∧ b ≤ a % b + a % b then a / b + 1 else a / b

/-- What both functions answer. -/
def qm (num den : Int) (half : Bool) : Int :=
  if decide (num < 0) != decide (den < 0) then -(qmag num.natAbs den.natAbs half : Int) else (qmag num.natAbs den.natAbs half : Int)

theorem div_facts (a b : Nat) (hb : 0 < b) : a / b ≤ a ∧ a % b < b ∧ (b ≤ a % b + a % b → a / b ≤ a / 2) := by
  refine ⟨Nat.div_le_self _ _, Nat.mod_lt _ hb, fun h => ?_⟩
  have h2 : 2 ≤ b := by
    rcases Nat.lt_or_ge 1 b with h1 | h1
    · exact h1
    · have : b = 1 := by omega
      subst this
      rw [Nat.mod_one] at h
      omega
  exact Nat.div_le_div_left h2 (by omega)

/-- Go's truncated quotient and what it leaves, by the magnitudes. -/
theorem tdiv_facts (num den : Int) :
    num.tdiv den = (if decide (num < 0) != decide (den < 0) then -((num.natAbs / den.natAbs : Nat) : Int) else ((num.natAbs / den.natAbs : Nat) : Int)) ∧
    num.tmod den = (if num < 0 then -((num.natAbs % den.natAbs : Nat) : Int) else ((num.natAbs % den.natAbs : Nat) : Int)) := by
  by_cases h1 : num < 0 <;> by_cases h2 : den < 0
  · rw [decide_eq_true h1, decide_eq_true h2, if_pos h1]
    obtain ⟨a, rfl⟩ : ∃ a : Nat, num = -(a : Int) := ⟨num.natAbs, by omega⟩
    obtain ⟨b, rfl⟩ : ∃ b : Nat, den = -(b : Int) := ⟨den.natAbs, by omega⟩
    simp
    exact Int.tmod_eq_emod_of_nonneg (by omega)
  · rw [decide_eq_true h1, decide_eq_false h2, if_pos h1]
    obtain ⟨a, rfl⟩ : ∃ a : Nat, num = -(a : Int) := ⟨num.natAbs, by omega⟩
    obtain ⟨b, rfl⟩ : ∃ b : Nat, den = (b : Int) := ⟨den.natAbs, by omega⟩
    simp
    exact Int.tmod_eq_emod_of_nonneg (by omega)
  · rw [decide_eq_false h1, decide_eq_true h2, if_neg h1]
    obtain ⟨a, rfl⟩ : ∃ a : Nat, num = (a : Int) := ⟨num.natAbs, by omega⟩
    obtain ⟨b, rfl⟩ : ∃ b : Nat, den = -(b : Int) := ⟨den.natAbs, by omega⟩
    simp
    exact Int.tmod_eq_emod_of_nonneg (by omega)
  · rw [decide_eq_false h1, decide_eq_false h2, if_neg h1]
    obtain ⟨a, rfl⟩ : ∃ a : Nat, num = (a : Int) := ⟨num.natAbs, by omega⟩
    obtain ⟨b, rfl⟩ : ∃ b : Nat, den = (b : Int) := ⟨den.natAbs, by omega⟩
    simp
    exact Int.tmod_eq_emod_of_nonneg (by omega)

theorem tdiv_mul (num den : Int) : num.tdiv den * den = num - num.tmod den := by
  have := Int.mul_tdiv_add_tmod num den
  rw [Int.mul_comm] at this
  omega

end Go.Proofs.Qxb6604305a.Quo
