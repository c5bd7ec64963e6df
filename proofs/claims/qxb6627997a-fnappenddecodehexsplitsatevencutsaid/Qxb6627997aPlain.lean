/- The plain mathematics of seat b6627997a: hex digits, the pairwise decoder. No Go in sight. -/
namespace Go.Proofs.Qxb6627997a

/-- The value of a lowercase hex digit. -/
def dig (c : Int) : Option Int := if 48 ≤ c ∧ c ≤ 57 then some (c - 48) else if 97 ≤ c ∧ c ≤ 102 then some (c - 87) else none
/-- The spelling of a nibble. -/
def hc (d : Int) : Int := if d < 10 then 48 + d else 87 + d
/-- The byte that two characters spell. -/
def spell (a b : Int) : Option Int := match dig a, dig b with
  | some x, some y => some (16 * x + y)
  | _, _ => none

theorem dig_bd {c x : Int} (h : dig c = some x) : 0 ≤ x ∧ x ≤ 15 := by
  unfold dig at h
  split at h
  · simp at h; omega
  · split at h
    · simp at h; omega
    · simp at h
theorem hc_dig {c x : Int} (h : dig c = some x) : hc x = c := by
  unfold dig at h
  unfold hc
  split at h
  · simp at h; split <;> omega
  · split at h
    · simp at h; split <;> omega
    · simp at h
theorem dig_hc {d : Int} (h0 : 0 ≤ d) (h1 : d ≤ 15) : dig (hc d) = some d := by
  unfold dig hc
  by_cases h : d < 10
  · rw [if_pos h, if_pos (by omega)]; simp; omega
  · rw [if_neg h, if_neg (by omega), if_pos (by omega)]; simp; omega
theorem spell_bd {a b v : Int} (h : spell a b = some v) : 0 ≤ v ∧ v ≤ 255 := by
  unfold spell at h
  split at h
  · rename_i x y hx hy
    have := dig_bd hx; have := dig_bd hy
    simp at h; omega
  · simp at h
/-- The search finds: the first v whose spelling is the pair is what the pair spells. -/
theorem spell_hit {a b : Int} {v : Int} (h0 : 0 ≤ v) (h1 : v ≤ 255) (ha : hc (v / 16) = a) (hb : hc (v % 16) = b) : spell a b = some v := by
  unfold spell
  rw [← ha, ← hb, dig_hc (by omega) (by omega), dig_hc (by omega) (by omega)]
  simp
  omega
/-- The search misses: no v below 256 fits. -/
theorem spell_miss {a b : Int} (h : ∀ j : Nat, j < 256 → ¬ (hc ((j : Int) / 16) = a ∧ hc ((j : Int) % 16) = b)) : spell a b = none := by
  unfold spell
  split
  · rename_i x y hx hy
    have h1 := dig_bd hx
    have h2 := dig_bd hy
    exfalso
    refine h (16 * x + y).toNat (by omega) ?_
    have e1 : (((16 * x + y).toNat : Nat) : Int) / 16 = x := by omega
    have e2 : (((16 * x + y).toNat : Nat) : Int) % 16 = y := by omega
    rw [e1, e2]
    exact ⟨hc_dig hx, hc_dig hy⟩
  · rfl

/-- n pairs from the k'th on: what they spell, up to the first that spells nothing; and whether all did. -/
def decN (f : Nat → Option Int) : Nat → Nat → List Int × Bool
  | _, 0 => ([], true)
  | k, n + 1 => match f k with
    | none => ([], false)
    | some v => (v :: (decN f (k + 1) n).1, (decN f (k + 1) n).2)

theorem decN_none {f : Nat → Option Int} {k n : Nat} (hn : 0 < n) (h : f k = none) : decN f k n = ([], false) := by
  cases n with
  | zero => omega
  | succ n => simp [decN, h]
theorem decN_some {f : Nat → Option Int} {k n : Nat} {v : Int} (hn : 0 < n) (h : f k = some v) : decN f k n = (v :: (decN f (k + 1) (n - 1)).1, (decN f (k + 1) (n - 1)).2) := by
  cases n with
  | zero => omega
  | succ n => simp [decN, h]
theorem decN_len (f : Nat → Option Int) : ∀ n k, (decN f k n).1.length ≤ n ∧ ((decN f k n).2 = true → (decN f k n).1.length = n)
  | 0, _ => by simp [decN]
  | n + 1, k => by
    have ih := decN_len f n (k + 1)
    cases h : f k with
    | none => simp [decN, h]
    | some v => simp only [decN, h, List.length_cons]; exact ⟨by omega, fun h => by rw [ih.2 h]⟩
theorem decN_ok (f : Nat → Option Int) : ∀ n k, (decN f k n).2 = true ↔ ∀ j, k ≤ j → j < k + n → (f j).isSome = true
  | 0, k => by simp [decN]; intro j h1 h2; omega
  | n + 1, k => by
    have ih := decN_ok f n (k + 1)
    cases h : f k with
    | none =>
      simp only [decN, h]
      constructor
      · intro h'; simp at h'
      · intro h'; have := h' k (Nat.le_refl _) (by omega); simp [h] at this
    | some v =>
      simp only [decN, h, ih]
      constructor
      · intro h' j h1 h2
        by_cases e : j = k
        · subst e; simp [h]
        · exact h' j (by omega) (by omega)
      · intro h' j h1 h2; exact h' j (by omega) (by omega)
theorem decN_congr {f g : Nat → Option Int} : ∀ n k d, (∀ j, k ≤ j → j < k + n → f j = g (d + j)) → decN f k n = decN g (d + k) n
  | 0, _, _, _ => rfl
  | n + 1, k, d, h => by
    have h0 := h k (Nat.le_refl _) (by omega)
    have ih := decN_congr n (k + 1) d (fun j h1 h2 => h j (by omega) (by omega))
    simp only [decN, h0, ih, Nat.add_assoc]
theorem decN_add (f : Nat → Option Int) : ∀ a k b, decN f k (a + b) = if (decN f k a).2 then ((decN f k a).1 ++ (decN f (k + a) b).1, (decN f (k + a) b).2) else decN f k a
  | 0, k, b => by simp [decN]
  | a + 1, k, b => by
    have ih := decN_add f a (k + 1) b
    rw [Nat.succ_add]
    cases h : f k with
    | none => simp [decN, h]
    | some v =>
      simp only [decN, h]
      rw [ih, show k + 1 + a = k + (a + 1) by omega]
      by_cases h2 : (decN f (k + 1) a).2 = true
      · simp [h2]
      · simp [h2]

/-- Byte i of a string, as a number. -/
def byteAt (s : ByteArray) (i : Nat) : Int := ((s.data.toList.getD i 0).toNat : Int)
theorem byteAt_eq (s : ByteArray) (i : Nat) (h : i < s.size) : byteAt s i = (s[i].toNat : Int) := by
  unfold byteAt
  have h' : i < s.data.toList.length := by simpa using h
  rw [List.getD_eq_getElem?_getD, List.getElem?_eq_getElem h']
  rfl
theorem byteAt_bd (s : ByteArray) (i : Nat) : 0 ≤ byteAt s i ∧ byteAt s i ≤ 255 := by
  unfold byteAt
  have := (s.data.toList.getD i 0).toNat_lt
  omega
/-- The k'th pair of a string. -/
def pr (s : ByteArray) (k : Nat) : Option Int := spell (byteAt s (2 * k)) (byteAt s (2 * k + 1))
/-- What AppendDecodeHex appends, and its answer. -/
def decode (s : ByteArray) : List Int × Bool := if s.size % 2 = 0 then decN (pr s) 0 (s.size / 2) else ([], false)
theorem decode_len (s : ByteArray) : (decode s).1.length ≤ s.size := by
  unfold decode
  split
  · have := (decN_len (pr s) (s.size / 2) 0).1; omega
  · simp

/-! ### The loop's steps -/
theorem dec_stop {f : Nat → Option Int} {k N : Nat} {acc : List Int} {D : List Int × Bool} (hk : k < N) (hf : f k = none) (h1 : acc ++ (decN f k (N - k)).1 = D.1) (h2 : (decN f k (N - k)).2 = D.2) : D.1 = acc ∧ D.2 = false := by
  rw [decN_none (by omega) hf] at h1 h2
  simp at h1 h2
  exact ⟨h1.symm, h2⟩
theorem dec_step {f : Nat → Option Int} {k N : Nat} {acc : List Int} {D : List Int × Bool} {z : Int} (hk : k < N) (hf : f k = some z) (h1 : acc ++ (decN f k (N - k)).1 = D.1) (h2 : (decN f k (N - k)).2 = D.2) :
    (acc ++ [z]) ++ (decN f (k + 1) (N - (k + 1))).1 = D.1 ∧ (decN f (k + 1) (N - (k + 1))).2 = D.2 := by
  rw [decN_some (by omega) hf] at h1 h2
  rw [show N - (k + 1) = N - k - 1 by omega]
  exact ⟨by simpa using h1, h2⟩
theorem dec_end {f : Nat → Option Int} {k N : Nat} {acc : List Int} {D : List Int × Bool} (hk : N ≤ k) (h1 : acc ++ (decN f k (N - k)).1 = D.1) (h2 : (decN f k (N - k)).2 = D.2) : D.1 = acc ∧ D.2 = true := by
  rw [show N - k = 0 by omega] at h1 h2
  simp [decN] at h1 h2
  exact ⟨h1.symm, h2⟩
theorem pr_eq (s : ByteArray) (k : Nat) (h : 2 * k < s.size) (h' : 2 * k + 1 < s.size) : pr s k = spell (s[2 * k].toNat : Int) (s[2 * k + 1].toNat : Int) := by
  unfold pr; rw [byteAt_eq s _ h, byteAt_eq s _ h']
theorem spell_none_l {a b : Int} (h : dig a = none) : spell a b = none := by unfold spell; rw [h]
theorem spell_none_r {a b : Int} (h : dig b = none) : spell a b = none := by unfold spell; rw [h]; split <;> simp_all
theorem spell_some {a b x y : Int} (h : dig a = some x) (h' : dig b = some y) : spell a b = some (16 * x + y) := by unfold spell; rw [h, h']
end Go.Proofs.Qxb6627997a
