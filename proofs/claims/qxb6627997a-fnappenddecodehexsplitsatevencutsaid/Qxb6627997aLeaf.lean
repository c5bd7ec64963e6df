import Derived.Test.Qxb6627997aProg
import Derived.Test.Qxb6627997aPlain
import Derived.WalkKit
import Derived.WalkSpells
import Derived.WalkLawsBesides
import Derived.Below
namespace Go.Proofs.Qxb6627997a
open Go.RowKit

theorem ret_int {k : IntKind} {a b : Int} (h : a = b) : Ending.returned (.int k a) = .returned (.int k b) := by rw [h]
theorem ret_two {k : IntKind} {a b : Int} {x y : Bool} (h : a = b) (hx : x = y) : Ending.returned (.tuple #[.int k a, .bool x]) = .returned (.tuple #[.int k b, .bool y]) := by rw [h, hx]

theorem hide {p : Prop} (h : p) : Hid p := h

theorem and15 (k : Nat) (h : k < 256) : bits .and .i64 (k : Int) 15 = (k : Int) % 16 := by
  have : ∀ j : Fin 256, bits .and .i64 (j.val : Int) 15 = (j.val : Int) % 16 := by decide +kernel
  exact this ⟨k, h⟩
theorem or4 (x y : Int) (h0 : 0 ≤ x) (h1 : x ≤ 15) (h2 : 0 ≤ y) (h3 : y ≤ 15) : bits .or .u8 (x * 16) y = 16 * x + y := by
  have : ∀ x y : Fin 16, bits .or .u8 ((x.val : Int) * 16) (y.val : Int) = 16 * (x.val : Int) + y.val := by decide +kernel
  have := this ⟨x.toNat, by omega⟩ ⟨y.toNat, by omega⟩
  rw [show ((x.toNat : Nat) : Int) = x by omega, show ((y.toNat : Nat) : Int) = y by omega] at this
  exact this

theorem bytes5 (a : Option Addr) (n c : Nat) (s : ByteArray) (w : World) (hn : n ≤ maxLen) (hs : s.size ≤ maxLen) :
    Calls Try.prog 5 #[.slice a n c, .string s] w fun e w' => ∃ b : Bool, e = .returned (.bool b) ∧ w = w' := by
  unfold maxLen at hn hs
  go_enter Try.func5, Try.ntmps5
  go_wp2
  all_goals (go_ret; exact ⟨_, rfl, rfl⟩)

theorem bytes10 (a : Option Addr) (n c : Nat) (s : ByteArray) (k : Int) (w : World) (hn : n ≤ maxLen) (hs : s.size ≤ maxLen) :
    Calls Try.prog 10 #[.slice a n c, .string s, .int .i64 k] w fun e w' => ∃ b : Bool, e = .returned (.bool b) ∧ w = w' := by
  unfold maxLen at hn hs
  go_enter Try.func10, Try.ntmps10
  go_wp2
  all_goals (go_ret; exact ⟨_, rfl, rfl⟩)

theorem char13 (d : Int) (w : World) (h0 : 0 ≤ d) (h1 : d ≤ 15) :
    Calls Try.prog 13 #[.int .i64 d] w fun e w' => e = .returned (.int .u8 (hc d)) ∧ w = w' := by
  unfold hc
  by_cases h : d < 10
  · go_enter Try.func13, Try.ntmps13
    go_wp2
    go_ret
    exact ⟨ret_int rfl, rfl⟩
  · go_enter Try.func13, Try.ntmps13
    go_wp2
    go_ret
    exact ⟨ret_int (by omega), rfl⟩

theorem digit14 (c : Int) (w : World) (h0 : 0 ≤ c) (h1 : c ≤ 255) :
    Calls Try.prog 14 #[.int .u8 c] w fun e w' => e = .returned (.tuple #[.int .u8 ((dig c).getD 0), .bool (dig c).isSome]) ∧ w = w' := by
  by_cases a1 : 48 ≤ c
  · by_cases a2 : c ≤ 57
    · have e : dig c = some (c - 48) := by unfold dig; rw [if_pos ⟨a1, a2⟩]
      rw [e]; clear e
      go_enter Try.func14, Try.ntmps14
      go_wp2
      go_ret2
      exact ⟨rfl, rfl⟩
    · by_cases a3 : 97 ≤ c
      · by_cases a4 : c ≤ 102
        · have e : dig c = some (c - 87) := by unfold dig; rw [if_neg (by omega), if_pos ⟨a3, a4⟩]
          rw [e]; clear e
          go_enter Try.func14, Try.ntmps14
          go_wp2
          go_ret2
          exact ⟨ret_two (by omega) rfl, rfl⟩
        · have e : dig c = none := by unfold dig; rw [if_neg (by omega), if_neg (by omega)]
          rw [e]; clear e
          go_enter Try.func14, Try.ntmps14
          go_wp2
          go_ret2
          exact ⟨rfl, rfl⟩
      · have e : dig c = none := by unfold dig; rw [if_neg (by omega), if_neg (by omega)]
        rw [e]; clear e
        go_enter Try.func14, Try.ntmps14
        go_wp2
        go_ret2
        exact ⟨rfl, rfl⟩
  · have e : dig c = none := by unfold dig; rw [if_neg (by omega), if_neg (by omega)]
    rw [e]; clear e
    go_enter Try.func14, Try.ntmps14
    go_wp2
    go_ret2
    exact ⟨rfl, rfl⟩

set_option maxHeartbeats 400000 in
set_option maxRecDepth 1000000 in
theorem spelled7 (a b : Int) (w : World) :
    Calls Try.prog 7 #[.int .u8 a, .int .u8 b] w fun e w' => e = .returned (.tuple #[.int .u8 ((spell a b).getD 0), .bool (spell a b).isSome]) ∧ w' = w := by
  go_enter Try.func7, Try.ntmps7
  go_wp2
  go_loop [6] (fun i => ∃ k : Nat, k ≤ 256 ∧ i = .int .i64 k ∧ ∀ j : Nat, j < k → ¬ (hc ((j : Int) / 16) = a ∧ hc ((j : Int) % 16) = b)) (fun i => 256 - (intOf i).toNat)
  case atStart => exact ⟨0, Nat.zero_le _, rfl, fun j h => absurd h (Nat.not_lt_zero _)⟩
  case round =>
    obtain ⟨k, hk, rfl, hno⟩ := hrel
    have HN := hide hno
    clear hno
    by_cases hlt : k < 256
    · have ha := and15 k hlt
      cases h1 : (hc ((k : Int) / 16) == a)
      · go_wp2_with (go_at_call 13; refine (char13 _ _ (by omega) (by omega)).mono ?_; rintro e w' ⟨rfl, rfl⟩)
        go_round
        case rel =>
          refine ⟨k + 1, by omega, by go_num, fun j hj => ?_⟩
          by_cases e : j = k
          · subst e; intro hx; simp [hx.1] at h1
          · exact HN.out j (by omega)
        case measure => simp [intOf]; omega
      · cases h2 : (hc ((k : Int) % 16) == b)
        · go_wp2_with (go_at_call 13; refine (char13 _ _ (by omega) (by omega)).mono ?_; rintro e w' ⟨rfl, rfl⟩)
          go_round
          case rel =>
            refine ⟨k + 1, by omega, by go_num, fun j hj => ?_⟩
            by_cases e : j = k
            · subst e; intro hx; simp [hx.2] at h2
            · exact HN.out j (by omega)
          case measure => simp [intOf]; omega
        · go_wp2_with (go_at_call 13; refine (char13 _ _ (by omega) (by omega)).mono ?_; rintro e w' ⟨rfl, rfl⟩)
          go_ret2
          have e := spell_hit (v := (k : Int)) (by omega) (by omega) (by simpa using h1) (by simpa using h2)
          exact ⟨by rw [e]; rfl, rfl⟩
    · go_wp2
      go_ret2
      have e := spell_miss (fun j hj => HN.out j (by omega))
      exact ⟨by rw [e]; rfl, rfl⟩

end Go.Proofs.Qxb6627997a
