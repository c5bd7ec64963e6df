import Derived.Test.Qxb6627997aLeaf
namespace Go.Proofs.Qxb6627997a
open Go.RowKit

theorem dig_hit {c : Int} {d : Nat} (h : d < 16) (e : hc (d : Int) = c) : (dig c).isSome = true := by rw [← e, dig_hc (by omega) (by omega)]; rfl
theorem dig_miss {c : Int} (h : ∀ j : Nat, j < 16 → ¬ hc (j : Int) = c) : (dig c).isSome = false := by
  cases e : dig c with
  | none => rfl
  | some x =>
    have hb := dig_bd e
    have hx := hc_dig e
    exact absurd (by rw [show ((x.toNat : Nat) : Int) = x by omega]; exact hx) (h x.toNat (by omega))

set_option maxHeartbeats 400000 in
theorem lower15 (c : Int) (w : World) :
    Calls Try.prog 15 #[.int .u8 c] w fun e w' => e = .returned (.bool (dig c).isSome) ∧ w = w' := by
  go_enter Try.func15, Try.ntmps15
  go_wp2
  go_loop [3] (fun i => ∃ k : Nat, k ≤ 16 ∧ i = .int .i64 k ∧ ∀ j : Nat, j < k → ¬ hc (j : Int) = c) (fun i => 16 - (intOf i).toNat)
  case atStart => exact ⟨0, Nat.zero_le _, rfl, fun j h => absurd h (Nat.not_lt_zero _)⟩
  case round =>
    obtain ⟨k, hk, rfl, hno⟩ := hrel
    have HN := hide hno
    clear hno
    by_cases hlt : k < 16
    · cases h1 : (hc (k : Int) == c)
      · go_wp2_with (go_at_call 13; refine (char13 _ _ (by omega) (by omega)).mono ?_; rintro e w' ⟨rfl, rfl⟩)
        go_round
        case rel =>
          refine ⟨k + 1, by omega, by go_num, fun j hj => ?_⟩
          by_cases e : j = k
          · subst e; simpa using h1
          · exact HN.out j (by omega)
        case measure => simp [intOf]; omega
      · go_wp2_with (go_at_call 13; refine (char13 _ _ (by omega) (by omega)).mono ?_; rintro e w' ⟨rfl, rfl⟩)
        go_ret
        exact ⟨by rw [dig_hit hlt (by simpa using h1)]; rfl, rfl⟩
    · go_wp2
      go_ret
      exact ⟨by rw [dig_miss (fun j hj => HN.out j (by omega))]; rfl, rfl⟩

/-- Every byte of s is a lowercase hex digit. -/
def allHex (s : ByteArray) : Bool := (List.range s.size).all fun i => (dig (byteAt s i)).isSome
theorem allHex_iff (s : ByteArray) : allHex s = true ↔ ∀ i, i < s.size → (dig (byteAt s i)).isSome = true := by simp [allHex]
theorem allHex_true {s : ByteArray} {k : Nat} (hk : ¬ k < s.size) (h : ∀ j, j < k → (dig (byteAt s j)).isSome = true) : allHex s = true := (allHex_iff s).2 fun i hi => h i (by omega)
theorem allHex_false {s : ByteArray} {k : Nat} (hk : k < s.size) (h : (dig (s[k].toNat : Int)).isSome = false) : allHex s = false := by
  cases e : allHex s
  · rfl
  · have := (allHex_iff s).1 e k hk; rw [byteAt_eq s k hk, h] at this; simp at this
theorem decode_ok {s : ByteArray} (he : s.size % 2 = 0) : (decode s).2 = allHex s := by
  unfold decode
  rw [if_pos he, Bool.eq_iff_iff, decN_ok, allHex_iff]
  constructor
  · intro h i hi
    have := h (i / 2) (by omega) (by omega)
    unfold pr spell at this
    split at this
    · rename_i x y hx hy
      by_cases e : i % 2 = 0
      · rw [show i = 2 * (i / 2) by omega, hx]; rfl
      · rw [show i = 2 * (i / 2) + 1 by omega, hy]; rfl
    · simp at this
  · intro h j _ hj
    have h1 := h (2 * j) (by omega)
    have h2 := h (2 * j + 1) (by omega)
    unfold pr spell
    obtain ⟨x, hx⟩ := Option.isSome_iff_exists.1 h1
    obtain ⟨y, hy⟩ := Option.isSome_iff_exists.1 h2
    rw [hx, hy]; rfl

set_option maxHeartbeats 400000 in
theorem all11 (s : ByteArray) (w : World) (hs : s.size ≤ 524288) :
    Calls Try.prog 11 #[.string s] w fun e w' => e = .returned (.bool (allHex s)) ∧ w = w' := by
  go_enter Try.func11, Try.ntmps11
  go_wp2
  go_loop [3] (fun i => ∃ k : Nat, k ≤ s.size ∧ i = .int .i64 k ∧ ∀ j : Nat, j < k → (dig (byteAt s j)).isSome = true) (fun i => s.size - (intOf i).toNat)
  case atStart => exact ⟨0, Nat.zero_le _, rfl, fun j h => absurd h (Nat.not_lt_zero _)⟩
  case round =>
    obtain ⟨k, hk, rfl, hno⟩ := hrel
    have HN := hide hno
    clear hno
    by_cases hlt : k < s.size
    · cases h1 : (dig (s[k].toNat : Int)).isSome
      · go_wp2_with (go_at_call 15; refine (lower15 _ _).mono ?_; rintro e w' ⟨rfl, rfl⟩)
        go_ret
        exact ⟨by rw [allHex_false hlt h1]; rfl, rfl⟩
      · have h2 : (dig (byteAt s k)).isSome = true := by rw [byteAt_eq s k hlt]; exact h1
        have H2 := hide h2
        clear h2
        go_wp2_with (go_at_call 15; refine (lower15 _ _).mono ?_; rintro e w' ⟨rfl, rfl⟩)
        go_round
        case rel =>
          refine ⟨k + 1, by omega, by go_num, fun j hj => ?_⟩
          by_cases e : j = k
          · subst e; exact H2.out
          · exact HN.out j (by omega)
        case measure => simp [intOf]; omega
    · go_wp2
      go_ret
      exact ⟨by rw [allHex_true hlt HN.out]; rfl, rfl⟩

end Go.Proofs.Qxb6627997a
