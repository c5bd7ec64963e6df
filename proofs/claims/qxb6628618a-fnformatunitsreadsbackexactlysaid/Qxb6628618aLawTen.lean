import Derived.Test.Qxb6628618aFmt
namespace Go.Proofs.Qxb6628618a
open Go.RowKit

/-- The sign. -/
def sgn (n : Int) : List Int := if n < 0 then [45] else []
theorem abs_wrap {n : Int} (h0 : n < 0) (h1 : -9223372036854775808 ≤ n) : IntKind.u64.wrap (-IntKind.u64.wrap n) = (n.natAbs : Int) := by
  rw [IntKind.wrap_u64, IntKind.wrap_u64]
  omega
theorem fmt_any (n : Int) (P : Nat) (w : World) (h0 : -9223372036854775808 ≤ n) (h1 : n ≤ 9223372036854775807) (hP : P ≤ 65537) :
    Calls Try.prog 5 #[.int .i64 n, .int .i64 P] w fun e w' => FmtRes (sgn n) P n.natAbs e ∧ Below w.heap.size w w' := by
  have hU : n.natAbs < 10 ^ 20 := by rw [show (10 : Nat) ^ 20 = 100000000000000000000 from by decide]; omega
  unfold sgn
  by_cases hn : n < 0
  · rw [if_pos hn]
    by_cases hb : 27 < P
    · exact fmt_neg_big n n.natAbs P w hn hU (abs_wrap hn h0) hb hP (by omega)
    · exact fmt_neg_small n n.natAbs P w hn hU (abs_wrap hn h0) (by omega) hP (by omega)
  · rw [if_neg hn]
    obtain ⟨U, rfl⟩ := Int.eq_ofNat_of_zero_le (show 0 ≤ n by omega)
    rw [Int.natAbs_natCast] at hU ⊢
    by_cases hb : 27 < P
    · exact fmt_pos_big U P w hU h1 hb hP
    · exact fmt_pos_small U P w hU h1 (by omega) hP

theorem str_append (xs ys : List Int) : strOfNums (xs ++ ys) = strOfNums xs ++ strOfNums ys := by
  apply ByteArray.ext
  simp [strOfNums, ByteArray.data_append]
theorem str_size (xs : List Int) : (strOfNums xs).size = xs.length := by
  show (strOfNums xs).data.size = _
  simp [strOfNums]
theorem stop_le {P U d : Nat} (hU : U < 10 ^ 20) (h : Stop P U d) : d ≤ P + 20 := by
  cases d with
  | zero => omega
  | succ d => rcases going_lt hU (h.2 d (by omega)) with h | h <;> omega
theorem sgn_len (n : Int) : (sgn n).length ≤ 1 := by unfold sgn; split <;> simp
theorem sgn_ten (n : Int) : sgn (n * 10) = sgn n := by
  unfold sgn
  by_cases h : n < 0
  · rw [if_pos h, if_pos (by omega)]
  · rw [if_neg h, if_neg (by omega)]
theorem ten_eq {n : Int} {P d d' : Nat} (hP : 0 < P) (h : Stop P n.natAbs d) (h' : Stop (P + 1) (n * 10).natAbs d') : strOfNums (sgn (n * 10) ++ tx (P + 1) (n * 10).natAbs d') = strOfNums (sgn n ++ tx P n.natAbs d) ++ ⟨#[48]⟩ := by
  have e1 : (n * 10).natAbs = 10 * n.natAbs := by omega
  have e2 : sgn (n * 10) = sgn n := sgn_ten n
  rw [e1] at h' ⊢
  rw [stop_unique h' (stop_ten h), e2, tx_ten hP, ← List.append_assoc, str_append]
  rfl
theorem ten_eq0 {n : Int} {d d' : Nat} (h : Stop 0 n.natAbs d) (h' : Stop 1 (n * 10).natAbs d') : strOfNums (sgn (n * 10) ++ tx 1 (n * 10).natAbs d') = strOfNums (sgn n ++ tx 0 n.natAbs d) ++ ⟨#[46, 48]⟩ := by
  have e1 : (n * 10).natAbs = 10 * n.natAbs := by omega
  have e2 : sgn (n * 10) = sgn n := sgn_ten n
  rw [e1] at h' ⊢
  obtain ⟨k, rfl⟩ : ∃ k, d = k + 1 := ⟨d - 1, by have := h.1.1; omega⟩
  rw [stop_unique h' (stop_ten h), e2, tx_ten0, ← List.append_assoc, str_append]
  rfl

set_option maxHeartbeats 400000 in
theorem ten_out (n p : Int) (w : World) (hout : p < 0 ∨ 65536 < p ∨ 922337203685477580 < n ∨ n < -922337203685477580) :
    Calls Try.prog 4 #[.int .i64 n, .int .i64 p] w fun e w' => e = .returned (.bool true) ∧ Below w.heap.size w w' := by
  by_cases h1 : p < 0
  · clear hout
    go_enter Try.func4, Try.ntmps4
    go_wp2
    go_ret
    exact ⟨rfl, Below.refl _ _⟩
  · by_cases h2 : 65536 < p
    · clear hout
      go_enter Try.func4, Try.ntmps4
      go_wp2
      go_ret
      exact ⟨rfl, Below.refl _ _⟩
    · by_cases h3 : 922337203685477580 < n
      · clear hout
        go_enter Try.func4, Try.ntmps4
        go_wp2
        go_ret
        exact ⟨rfl, Below.refl _ _⟩
      · have h4 : n < -922337203685477580 := by omega
        clear hout
        go_enter Try.func4, Try.ntmps4
        go_wp2
        go_ret
        exact ⟨rfl, Below.refl _ _⟩

set_option maxHeartbeats 400000 in
theorem ten_in (n : Int) (P : Nat) (w : World) (hP : P ≤ 65536) (h1 : n ≤ 922337203685477580) (h2 : -922337203685477580 ≤ n) :
    Calls Try.prog 4 #[.int .i64 n, .int .i64 P] w fun e w' => e = .returned (.bool true) ∧ Below w.heap.size w w' := by
  have hU : n.natAbs < 10 ^ 20 := by rw [show (10 : Nat) ^ 20 = 100000000000000000000 from by decide]; omega
  have key := fun W => fmt_any (n * 10) (P + 1) W (by omega) (by omega) (by omega)
  rw [show ((P + 1 : Nat) : Int) = (P : Int) + 1 from by omega] at key
  have KEY := hide key
  have HU := hide hU
  clear key hU
  have hp0 : (0 : Int) ≤ (P : Int) := by omega
  go_enter Try.func4, Try.ntmps4
  go_wp2_with fail
  refine (KEY.out _).mono ?_
  rintro e w1 ⟨⟨d', hd', rfl⟩, hb1⟩
  go_wp2_with fail
  refine (fmt_any n P _ (by omega) (by omega) (by omega)).mono ?_
  rintro e w2 ⟨⟨d, hd, rfl⟩, hb2⟩
  have HB := hide (hb1.trans (hb2.mono hb1.size))
  have hsz : (strOfNums (sgn n ++ tx P n.natAbs d)).size ≤ 70000 := by
    rw [str_size, List.length_append]
    have := sgn_len n; have := tx_le P n.natAbs d; have := stop_le HU.out hd
    omega
  clear hb1 hb2 KEY
  by_cases h0 : P = 0
  · subst h0
    rw [ten_eq0 hd hd']
    clear hd hd'
    generalize strOfNums (sgn n ++ tx 0 n.natAbs d) = B at hsz ⊢
    go_wp2
    go_ret
    exact ⟨rfl, HB.out⟩
  · rw [ten_eq (by omega) hd hd']
    clear hd hd'
    have hne : ((P : Int) == 0) = false := by rw [beq_eq_false_iff_ne]; omega
    generalize strOfNums (sgn n ++ tx P n.natAbs d) = B at hsz ⊢
    go_wp2
    go_ret
    exact ⟨rfl, HB.out⟩

theorem ten_any (n p : Int) (w : World) :
    Calls Try.prog 4 #[.int .i64 n, .int .i64 p] w fun e w' => e = .returned (.bool true) ∧ Below w.heap.size w w' := by
  by_cases hout : p < 0 ∨ 65536 < p ∨ 922337203685477580 < n ∨ n < -922337203685477580
  · exact ten_out n p w hout
  · obtain ⟨P, rfl⟩ := Int.eq_ofNat_of_zero_le (show 0 ≤ p by omega)
    exact ten_in n P w (by omega) (by omega) (by omega)
end Go.Proofs.Qxb6628618a
