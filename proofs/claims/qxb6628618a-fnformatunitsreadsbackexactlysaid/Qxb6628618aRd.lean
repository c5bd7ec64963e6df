import Derived.Test.Qxb6628618aInv
namespace Go.Proofs.Qxb6628618a
open Go.RowKit

/-- Byte k of a string, as a number. -/
def bt (s : ByteArray) (k : Nat) : Int := ((s.data.toList.getD k 0).toNat : Int)
theorem bt_eq (s : ByteArray) (k : Nat) (h : k < s.size) : bt s k = (s[k].toNat : Int) := by
  unfold bt
  have h' : k < s.data.toList.length := by simpa using h
  rw [List.getD_eq_getElem?_getD, List.getElem?_eq_getElem h']
  rfl
/-- What the reader finds in s: L bytes of sign, m digits, and, where P > 0, a point and P digits; V: the value behind k bytes. -/
structure Reads (s : ByteArray) (L m P U : Nat) (V : Nat → Nat) : Prop where
  size : s.size = L + m + (if 0 < P then 1 + P else 0)
  m1 : 1 ≤ m
  ints : ∀ k, L ≤ k → k < L + m → 48 ≤ bt s k ∧ bt s k ≤ 57
  lead : 1 < m → bt s L ≠ 48
  dot : 0 < P → bt s (L + m) = 46
  frac : ∀ k, 0 < P → L + m < k → k < s.size → 48 ≤ bt s k ∧ bt s k ≤ 57
  sign : ∀ k, k < L → bt s k = 45
  v0 : V 0 = 0
  vd : ∀ k, k < s.size → 48 ≤ bt s k → bt s k ≤ 57 → (V (k + 1) : Int) = V k * 10 + (bt s k - 48)
  vn : ∀ k, k < s.size → ¬ (48 ≤ bt s k ∧ bt s k ≤ 57) → V (k + 1) = V k
  vb : ∀ k, k ≤ s.size → V k ≤ 9223372036854775808
  vU : V s.size = U

end Go.Proofs.Qxb6628618a
