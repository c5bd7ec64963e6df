import Derived.Test.Qxb6628618aRd
import Derived.Test.Qxb6628618aLawTen
namespace Go.Proofs.Qxb6628618a
open Go.RowKit

/-- The digits of U at the places P + m - 1 down to P. -/
def hi (U P : Nat) : Nat → List Int
  | 0 => []
  | m + 1 => (48 + (qd U (P + m) : Int) % 10) :: hi U P m
theorem hi_len (U P : Nat) : ∀ m, (hi U P m).length = m
  | 0 => rfl
  | m + 1 => by simp [hi, hi_len U P m]
theorem hi_dig (U P : Nat) : ∀ m, ∀ c ∈ hi U P m, 48 ≤ c ∧ c ≤ 57
  | 0 => by simp [hi]
  | m + 1 => by
    intro c hc
    simp only [hi, List.mem_cons] at hc
    rcases hc with rfl | hc
    · omega
    · exact hi_dig U P m c hc
theorem tx_low {P U : Nat} : ∀ d, d ≤ P → tx P U d = hi U 0 d
  | 0, _ => rfl
  | d + 1, h => by
    rw [tx, if_neg (by omega), tx_low d (by omega)]
    simp [hi]
/-- The text: the digits ahead of the point, the point, the digits behind it. -/
theorem tx_split (P U : Nat) : ∀ m, tx P U (P + (m + 1)) = hi U P (m + 1) ++ ((if 0 < P then [46] else []) ++ hi U 0 P)
  | 0 => by
    show tx P U (P + 0 + 1) = _
    rw [tx, Nat.add_zero, tx_low P (Nat.le_refl _)]
    by_cases h : 0 < P
    · rw [if_pos ⟨rfl, h⟩, if_pos h]; simp [hi]
    · rw [if_neg (fun x => h x.2), if_neg h]; simp [hi]
  | m + 1 => by
    show tx P U (P + (m + 1) + 1) = _
    rw [tx, if_neg (by omega), tx_split P U m]
    simp [hi]

/-- The value behind a list of bytes: the digits are read, the rest is passed over. -/
def rd (v : Nat) : List Int → Nat
  | [] => v
  | c :: r => if 48 ≤ c ∧ c ≤ 57 then rd (v * 10 + (c - 48).toNat) r else rd v r
theorem rd_append (v : Nat) (a b : List Int) : rd v (a ++ b) = rd (rd v a) b := by
  induction a generalizing v with
  | nil => rfl
  | cons c r ih =>
    simp only [List.cons_append, rd]
    by_cases h : 48 ≤ c ∧ c ≤ 57
    · rw [if_pos h, if_pos h, ih]
    · rw [if_neg h, if_neg h, ih]
theorem rd_ge (l : List Int) : ∀ v, v ≤ rd v l := by
  induction l with
  | nil => intro v; exact Nat.le_refl _
  | cons c r ih =>
    intro v
    simp only [rd]
    by_cases h : 48 ≤ c ∧ c ≤ 57
    · rw [if_pos h]; have := ih (v * 10 + (c - 48).toNat); omega
    · rw [if_neg h]; exact ih v
theorem rd_tx (P U : Nat) : ∀ d, rd (qd U d) (tx P U d) = U
  | 0 => by simp [tx, rd, qd_zero]
  | d + 1 => by
    have ih := rd_tx P U d
    have e : qd U (d + 1) * 10 + (48 + (qd U d : Int) % 10 - 48).toNat = qd U d := by rw [qd_succ]; omega
    rw [tx, rd, if_pos (by omega), e]
    by_cases h : d = P ∧ 0 < P
    · rw [if_pos h, rd, if_neg (by omega), ih]
    · rw [if_neg h, ih]
theorem rd_sgn (n : Int) : rd 0 (sgn n) = 0 := by unfold sgn; split <;> simp [rd]

theorem bt_str (txt : List Int) (h : ∀ c ∈ txt, 0 ≤ c ∧ c ≤ 255) (k : Nat) (hk : k < txt.length) : bt (strOfNums txt) k = txt.getD k 0 := by
  unfold bt strOfNums
  simp only [List.getD_eq_getElem?_getD, List.getElem?_map]
  rw [List.getElem?_eq_getElem hk]
  have := h txt[k] (List.getElem_mem hk)
  simp
  omega
theorem getD_mid (A B C : List Int) (k : Nat) (h1 : A.length ≤ k) (h2 : k < A.length + B.length) : (A ++ (B ++ C)).getD k 0 ∈ B := by
  rw [List.getD_eq_getElem?_getD, List.getElem?_append_right h1, List.getElem?_append_left (by omega), List.getElem?_eq_getElem (by omega)]
  exact List.getElem_mem _

theorem reads_of (n : Int) (P m d : Nat) (hd : Stop P n.natAbs d) (hdm : d = P + (m + 1)) (hU : n.natAbs ≤ 9223372036854775808) :
    Reads (strOfNums (sgn n ++ tx P n.natAbs d)) (sgn n).length (m + 1) P n.natAbs (fun k => rd 0 ((sgn n ++ tx P n.natAbs d).take k)) := by
  have hsg : ∀ c ∈ sgn n, c = 45 := by unfold sgn; split <;> simp
  have htx : tx P n.natAbs d = hi n.natAbs P (m + 1) ++ ((if 0 < P then [46] else []) ++ hi n.natAbs 0 P) := by rw [hdm]; exact tx_split P n.natAbs m
  have hall : ∀ c ∈ sgn n ++ tx P n.natAbs d, 0 ≤ c ∧ c ≤ 255 := by
    intro c hc
    rw [htx] at hc
    simp only [List.mem_append] at hc
    rcases hc with hc | hc | hc | hc
    · have := hsg c hc; omega
    · have := hi_dig _ _ _ c hc; omega
    · split at hc
      · simp at hc; omega
      · simp at hc
    · have := hi_dig _ _ _ c hc; omega
  have hlen : (sgn n ++ tx P n.natAbs d).length = (sgn n).length + (m + 1) + (if 0 < P then 1 + P else 0) := by
    rw [htx]
    simp only [List.length_append, hi_len]
    split
    · simp; omega
    · simp; omega
  have htot : rd 0 (sgn n ++ tx P n.natAbs d) = n.natAbs := by
    rw [rd_append, rd_sgn]
    have := rd_tx P n.natAbs d
    rw [hd.1.2] at this
    exact this
  have hbt := fun k hk => bt_str (sgn n ++ tx P n.natAbs d) hall k hk
  generalize htxt : sgn n ++ tx P n.natAbs d = txt at hall hlen htot hbt ⊢
  have hstep : ∀ k, k < txt.length → txt.take (k + 1) = txt.take k ++ [txt.getD k 0] := fun k hk => by
    rw [List.take_succ_eq_append_getElem hk, List.getD_eq_getElem?_getD, List.getElem?_eq_getElem hk]; rfl
  refine ⟨by rw [str_size]; exact hlen, by omega, ?_, ?_, ?_, ?_, ?_, by simp [rd], ?_, ?_, ?_, ?_⟩
  · intro k h1 h2
    rw [hbt k (by omega), ← htxt, htx]
    exact hi_dig _ _ _ _ (getD_mid _ _ _ k h1 (by rw [hi_len]; exact h2))
  · intro hm
    rw [hbt _ (by omega), ← htxt, htx, List.getD_eq_getElem?_getD, List.getElem?_append_right (Nat.le_refl _), Nat.sub_self]
    simp only [hi, List.cons_append, List.getElem?_cons_zero, Option.getD_some]
    have hg := hd.2 (P + m) (by omega)
    have hz := hd.1.2
    rw [hdm, show P + (m + 1) = P + m + 1 by omega, qd_succ] at hz
    rcases hg with hg | hg <;> omega
  · intro hP
    rw [hbt _ (by rw [hlen, if_pos hP]; omega), ← htxt, htx, if_pos hP, List.getD_eq_getElem?_getD, List.getElem?_append_right (by omega), List.getElem?_append_right (by rw [hi_len]; omega), hi_len,
      show (sgn n).length + (m + 1) - (sgn n).length - (m + 1) = 0 by omega]
    rfl
  · intro k hP h1 h2
    rw [str_size, hlen, if_pos hP] at h2
    rw [hbt k (by rw [hlen, if_pos hP]; exact h2), ← htxt, htx, if_pos hP]
    have e : sgn n ++ (hi n.natAbs P (m + 1) ++ ([46] ++ hi n.natAbs 0 P)) = (sgn n ++ hi n.natAbs P (m + 1) ++ [46]) ++ (hi n.natAbs 0 P ++ []) := by simp
    rw [e]
    exact hi_dig _ _ _ _ (getD_mid _ _ _ k (by simp [hi_len]; omega) (by simp [hi_len]; omega))
  · intro k hk
    rw [hbt k (by omega), ← htxt]
    have := getD_mid [] (sgn n) (tx P n.natAbs d) k (by simp) (by simpa using hk)
    exact hsg _ (by simpa using this)
  · intro k hk h1 h2
    rw [str_size] at hk
    rw [hbt k hk] at h1 h2 ⊢
    show ((rd 0 (txt.take (k + 1)) : Nat) : Int) = (rd 0 (txt.take k) : Nat) * 10 + _
    rw [hstep k hk, rd_append]
    simp only [rd]
    rw [if_pos ⟨h1, h2⟩]
    omega
  · intro k hk h1
    rw [str_size] at hk
    rw [hbt k hk] at h1
    show rd 0 (txt.take (k + 1)) = rd 0 (txt.take k)
    rw [hstep k hk, rd_append]
    simp only [rd]
    rw [if_neg h1]
  · intro k hk
    show rd 0 (txt.take k) ≤ _
    have := rd_append 0 (txt.take k) (txt.drop k)
    rw [List.take_append_drop, htot] at this
    have h2 := rd_ge (txt.drop k) (rd 0 (txt.take k))
    omega
  · show rd 0 (txt.take _) = _
    rw [str_size, List.take_length, htot]
end Go.Proofs.Qxb6628618a
