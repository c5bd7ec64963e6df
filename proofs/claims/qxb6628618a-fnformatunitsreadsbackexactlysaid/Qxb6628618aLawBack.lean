import Derived.Test.Qxb6628618aShape
import Derived.Test.Qxb6628618aReadN
import Derived.Test.Qxb6628618aReadP
namespace Go.Proofs.Qxb6628618a
open Go.RowKit

theorem xor_max (x : Nat) (hx : x < 18446744073709551616) : bits BinOp.xor IntKind.u64 IntKind.u64.max (x : Int) = 18446744073709551615 - (x : Int) := by
  have e : bits BinOp.xor IntKind.u64 IntKind.u64.max (x : Int) = IntKind.u64.wrap ((BitVec.ofInt 64 IntKind.u64.max ^^^ BitVec.ofInt 64 (x : Int)).toNat : Int) := rfl
  have e1 : BitVec.ofInt 64 IntKind.u64.max = BitVec.allOnes 64 := by decide +kernel
  rw [e, e1, BitVec.allOnes_xor, BitVec.toNat_not, IntKind.wrap_u64]
  have e2 : (BitVec.ofInt 64 (x : Int)).toNat = x := by
    rw [BitVec.ofInt_natCast, BitVec.toNat_ofNat]
    omega
  rw [e2]
  omega
theorem mag_wrap {n : Int} (h0 : n < 0) (h1 : -9223372036854775808 ≤ n) : IntKind.u64.wrap (bits BinOp.xor IntKind.u64 IntKind.u64.max (IntKind.u64.wrap n) + 1) = (n.natAbs : Int) := by
  have e : IntKind.u64.wrap n = ((n + 18446744073709551616).toNat : Int) := by rw [IntKind.wrap_u64]; omega
  rw [e, xor_max _ (by omega), IntKind.wrap_u64]
  omega

/-- The reader takes what the writer wrote. -/
theorem read6 (n : Int) (P d : Nat) (w : World) (h0 : -9223372036854775808 ≤ n) (h1 : n ≤ 9223372036854775807) (hP : P ≤ 65536) (hd : Stop P n.natAbs d) :
    Calls Try.prog 6 #[.string (strOfNums (sgn n ++ tx P n.natAbs d)), .int .i64 n, .int .i64 P] w fun e w' => e = .returned (.bool true) ∧ w' = w := by
  have hU : n.natAbs < 10 ^ 20 := by rw [show (10 : Nat) ^ 20 = 100000000000000000000 from by decide]; omega
  obtain ⟨m, hdm⟩ : ∃ m, d = P + (m + 1) := ⟨d - P - 1, by have := hd.1.1; omega⟩
  have hr := reads_of n P m d hd hdm (by omega)
  have hs : (strOfNums (sgn n ++ tx P n.natAbs d)).size ≤ 200000 := by
    rw [str_size, List.length_append]
    have := sgn_len n; have := tx_le P n.natAbs d; have := stop_le hU hd
    omega
  generalize strOfNums (sgn n ++ tx P n.natAbs d) = s at hr hs ⊢
  by_cases hn : n < 0
  · have hl : (sgn n).length = 1 := by unfold sgn; rw [if_pos hn]; rfl
    rw [hl] at hr
    by_cases hp : 0 < P
    · exact back_neg_pos s n (m + 1) P n.natAbs _ w hr hn (mag_wrap hn h0) hs hp (by omega)
    · obtain rfl : P = 0 := by omega
      exact back_neg_zero s n (m + 1) n.natAbs _ w hr hn (mag_wrap hn h0) hs
  · have hl : (sgn n).length = 0 := by unfold sgn; rw [if_neg hn]; rfl
    rw [hl] at hr
    have en : n = ((n.natAbs : Nat) : Int) := by omega
    have key : Calls Try.prog 6 #[.string s, .int .i64 ((n.natAbs : Nat) : Int), .int .i64 P] w fun e w' => e = .returned (.bool true) ∧ w' = w := by
      by_cases hp : 0 < P
      · exact back_nn_pos s (m + 1) P n.natAbs _ w hr (by omega) hs hp (by omega)
      · obtain rfl : P = 0 := by omega
        exact back_nn_zero s (m + 1) n.natAbs _ w hr (by omega) hs
    rw [← en] at key
    exact key

set_option maxHeartbeats 400000 in
theorem back_out (n p : Int) (w : World) (hout : p < 0 ∨ 65536 < p) :
    Calls Try.prog 3 #[.int .i64 n, .int .i64 p] w fun e w' => e = .returned (.bool true) ∧ Below w.heap.size w w' := by
  by_cases h1 : p < 0
  · clear hout
    go_enter Try.func3, Try.ntmps3
    go_wp2
    go_ret
    exact ⟨rfl, Below.refl _ _⟩
  · have h2 : 65536 < p := by omega
    clear hout
    go_enter Try.func3, Try.ntmps3
    go_wp2
    go_ret
    exact ⟨rfl, Below.refl _ _⟩

set_option maxHeartbeats 400000 in
theorem back_in (n : Int) (P : Nat) (w : World) (hP : P ≤ 65536) (h0 : -9223372036854775808 ≤ n) (h1 : n ≤ 9223372036854775807) :
    Calls Try.prog 3 #[.int .i64 n, .int .i64 P] w fun e w' => e = .returned (.bool true) ∧ Below w.heap.size w w' := by
  have hp0 : (0 : Int) ≤ (P : Int) := by omega
  go_enter Try.func3, Try.ntmps3
  go_wp2_with fail
  refine (fmt_any n P _ h0 h1 (by omega)).mono ?_
  rintro e w1 ⟨⟨d, hd, rfl⟩, hb1⟩
  have HD := hide hd
  clear hd
  go_wp2_with fail
  refine (read6 n P d _ h0 h1 hP HD.out).mono ?_
  rintro e w2 ⟨rfl, rfl⟩
  go_wp2
  go_ret
  exact ⟨rfl, hb1⟩

theorem back_any (n p : Int) (w : World) (h0 : -9223372036854775808 ≤ n) (h1 : n ≤ 9223372036854775807) :
    Calls Try.prog 3 #[.int .i64 n, .int .i64 p] w fun e w' => e = .returned (.bool true) ∧ Below w.heap.size w w' := by
  by_cases hout : p < 0 ∨ 65536 < p
  · exact back_out n p w hout
  · obtain ⟨P, rfl⟩ := Int.eq_ofNat_of_zero_le (show 0 ≤ p by omega)
    exact back_in n P w (by omega) h0 h1
end Go.Proofs.Qxb6628618a
