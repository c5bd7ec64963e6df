/- The plain mathematics of seat b6628618a: the text that FormatUnits writes, digit by digit from its end. No Go in sight. -/
namespace Go.Proofs.Qxb6628618a

/-- U without its last d digits. -/
def qd (U d : Nat) : Nat := U / 10 ^ d
theorem qd_zero (U : Nat) : qd U 0 = U := by simp [qd]
theorem qd_succ (U d : Nat) : qd U (d + 1) = qd U d / 10 := by unfold qd; rw [Nat.pow_succ, Nat.div_div_eq_div_mul]
theorem qd_le (U d : Nat) : qd U d ≤ U := Nat.div_le_self _ _
theorem qd_ten (U d : Nat) : qd (10 * U) (d + 1) = qd U d := by unfold qd; rw [Nat.pow_succ, Nat.mul_comm (10 ^ d) 10, Nat.mul_div_mul_left _ _ (by decide)]
theorem qd_big {U d : Nat} (h : U < 10 ^ 20) (hd : 20 ≤ d) : qd U d = 0 := by
  unfold qd
  exact Nat.div_eq_of_lt (Nat.lt_of_lt_of_le h (Nat.pow_le_pow_right (by decide) hd))
/-- The text behind d rounds. -/
def tx (P U : Nat) : Nat → List Int
  | 0 => []
  | d + 1 => (48 + (qd U d : Int) % 10) :: (if d = P ∧ 0 < P then 46 :: tx P U d else tx P U d)
/-- The loop goes on. -/
def Going (P U j : Nat) : Prop := j ≤ P ∨ 0 < qd U j
/-- The loop stops behind d rounds. -/
def Stop (P U d : Nat) : Prop := (P < d ∧ qd U d = 0) ∧ ∀ j, j < d → Going P U j
theorem tx_len (P U : Nat) : ∀ d, (tx P U d).length = d + if P < d ∧ 0 < P then 1 else 0
  | 0 => by simp [tx]
  | d + 1 => by
    have ih := tx_len P U d
    simp only [tx, List.length_cons]
    by_cases h : d = P ∧ 0 < P
    · rw [if_pos h, List.length_cons, ih, if_neg (by omega), if_pos (by omega)]
    · rw [if_neg h, ih]
      by_cases h2 : P < d ∧ 0 < P
      · rw [if_pos h2, if_pos (by omega)]
      · rw [if_neg h2, if_neg (by omega)]
theorem tx_le (P U d : Nat) : (tx P U d).length ≤ d + 1 := by rw [tx_len]; split <;> omega
theorem going_lt {P U d : Nat} (h : U < 10 ^ 20) (hg : Going P U d) : d ≤ P ∨ d < 20 := by
  rcases hg with h1 | h1
  · exact .inl h1
  · right
    by_cases hd : 20 ≤ d
    · rw [qd_big h hd] at h1; omega
    · omega
theorem stop_unique {P U d d' : Nat} (h : Stop P U d) (h' : Stop P U d') : d = d' := by
  obtain ⟨⟨a, b⟩, c⟩ := h
  obtain ⟨⟨a', b'⟩, c'⟩ := h'
  by_cases h1 : d < d'
  · rcases c' d h1 with h | h <;> omega
  · by_cases h2 : d' < d
    · rcases c d' h2 with h | h <;> omega
    · omega
theorem stop_ten {P U d : Nat} (h : Stop P U d) : Stop (P + 1) (10 * U) (d + 1) := by
  obtain ⟨⟨a, b⟩, c⟩ := h
  refine ⟨⟨by omega, by rw [qd_ten]; exact b⟩, fun j hj => ?_⟩
  cases j with
  | zero => exact .inl (by omega)
  | succ j =>
    rcases c j (by omega) with h | h
    · exact .inl (by omega)
    · exact .inr (by rw [qd_ten]; exact h)
/-- Ten times the units at one more place: one more nought at the end. -/
theorem tx_ten {P U : Nat} (hP : 0 < P) : ∀ d, tx (P + 1) (10 * U) (d + 1) = tx P U d ++ [48]
  | 0 => by
    have e : (qd (10 * U) 0 : Int) % 10 = 0 := by rw [qd_zero]; omega
    simp [tx, e]
  | d + 1 => by
    have ih := tx_ten (U := U) hP d
    rw [tx, qd_ten, ih, tx]
    by_cases h : d = P ∧ 0 < P
    · rw [if_pos h, if_pos (by omega)]; rfl
    · rw [if_neg h, if_neg (by omega)]; rfl
theorem tx_ten0 (U : Nat) : ∀ d, tx 1 (10 * U) (d + 2) = tx 0 U (d + 1) ++ [46, 48]
  | 0 => by
    have e : (qd (10 * U) 0 : Int) % 10 = 0 := by rw [qd_zero]; omega
    simp [tx, e, qd_ten]
  | d + 1 => by
    have ih := tx_ten0 U d
    have e : tx 0 U (d + 2) = (48 + (qd U (d + 1) : Int) % 10) :: tx 0 U (d + 1) := by rw [tx, if_neg (by omega)]
    rw [tx, qd_ten, ih, if_neg (by omega), e]
    rfl
end Go.Proofs.Qxb6628618a
