import Derived.Test.Qxb6628618aRd
namespace Go.Proofs.Qxb6628618a
open Go.RowKit

set_option maxHeartbeats 4000000 in
set_option maxRecDepth 1000000 in
theorem back_neg_pos (s : ByteArray) (n : Int) (m P U : Nat) (V : Nat → Nat) (w : World) (h : Reads s 1 m P U V) (hn : n < 0) (hmag : IntKind.u64.wrap (bits BinOp.xor IntKind.u64 IntKind.u64.max (IntKind.u64.wrap n) + 1) = (U : Int)) (hs : s.size ≤ 200000) (hP : 0 < P) (hP1 : P ≤ 65537) :
    Calls Try.prog 6 #[.string s, .int .i64 n, .int .i64 P] w fun e w' => e = .returned (.bool true) ∧ w' = w := by
  have HR := hide h
  have hsz := h.size
  have hm := h.m1
  rw [if_pos hP] at hsz
  have hz0 : 0 < s.size := by omega
  have hz0' : (0 : Int) < (s.size : Int) := by omega
  have hs1 : 1 + m + (1 + P) ≤ s.size := by omega
  have hs2 : s.size ≤ 1 + m + (1 + P) := by omega
  have hb0 : ((s[0].toNat : Int)) = 45 := by rw [← bt_eq s 0 hz0]; exact h.sign 0 (by omega)
  have HM := hide hmag
  clear hmag
  clear h hsz
  go_enter Try.func6, Try.ntmps6
  go_wp2
  clear hb0
  go_loop [7] (fun si => ∃ k : Nat, k ≤ m ∧ si = .int .i64 (1 + (k : Int))) (fun si => s.size - (intOf si).toNat)
  case atStart => exact ⟨0, by omega, by go_num⟩
  case round =>
    obtain ⟨k, hk, rfl⟩ := hrel
    by_cases hlt : k < m
    · have hkz : 1 + k < s.size := by omega
      have hd := HR.out.ints (1 + k) (by omega) (by omega)
      rw [bt_eq s (1 + k) hkz] at hd
      obtain ⟨hd1, hd2⟩ := hd
      have hkz' : (1 + (k : Int)) < (s.size : Int) := by omega
      have hkz0 : (0 : Int) ≤ 1 + (k : Int) := by omega
      go_wp2
      go_round
      case rel => exact ⟨k + 1, by omega, by go_num⟩
      case measure => simp [intOf]; omega
    · obtain rfl : k = m := by omega
      have hst : ((1 + (k : Int)) == 1) = false := by rw [beq_eq_false_iff_ne]; omega
      have hkz : 1 + k < s.size := by omega
      have hdt : ((s[1 + k]'hkz).toNat : Int) = 46 := by rw [← bt_eq s (1 + k) hkz]; simpa using HR.out.dot hP
      have hdt1 : ¬ (48 : Int) ≤ ((s[1 + k]'hkz).toNat : Int) := by omega
      have hkz' : (1 + (k : Int)) < (s.size : Int) := by omega
      have hkz0 : (0 : Int) ≤ 1 + (k : Int) := by omega
      have hP' : (0 : Int) < (P : Int) := by omega
      by_cases hm1 : 1 < k
      · have h1z : 1 < s.size := by omega
        have hld1 : bt s 1 ≠ 48 := HR.out.lead hm1
        rw [bt_eq s 1 h1z] at hld1
        have hld2 : (((s[1]'h1z).toNat : Int) == 48) = false := by rw [beq_eq_false_iff_ne]; exact hld1
        go_wp2
        clear hdt hdt1 hst
        go_loop [7] (fun si => ∃ j : Nat, j ≤ P ∧ si = .int .i64 (1 + (k : Int) + 1 + (j : Int))) (fun si => s.size - (intOf si).toNat)
        case atStart => exact ⟨0, by omega, by go_num⟩
        case round =>
          obtain ⟨j, hj, rfl⟩ := hrel
          by_cases hjl : j < P
          · have hjz : 1 + k + 1 + j < s.size := by omega
            have hd := HR.out.frac (1 + k + 1 + j) hP (by omega) hjz
            rw [bt_eq s (1 + k + 1 + j) hjz] at hd
            obtain ⟨hd1, hd2⟩ := hd
            have hjz' : (1 + (k : Int) + 1 + (j : Int)) < (s.size : Int) := by omega
            have hjz0 : (0 : Int) ≤ 1 + (k : Int) + 1 + (j : Int) := by omega
            go_wp2
            go_round
            case rel => exact ⟨j + 1, by omega, by go_num⟩
            case measure => simp [intOf]; omega
          · obtain rfl : j = P := by omega
            have hjz1 : ¬ (1 + (k : Int) + 1 + (j : Int)) < (s.size : Int) := by omega
            have hmag := HM.out
            have hsg : IntKind.u64.signed = false := rfl
            go_wp2
            clear hmag hsg
            clear hjz1 hkz' hkz0
            clear hld1 hld2
            go_loop [12, 13] (fun sv sj => ∃ j : Nat, j ≤ s.size ∧ sj = .int .i64 j ∧ sv = .int .u64 (V j)) (fun _ sj => s.size - (intOf sj).toNat)
            case atStart => exact ⟨0, by omega, rfl, by rw [HR.out.v0]; rfl⟩
            case round =>
              obtain ⟨j, hj, rfl, rfl⟩ := hrel
              have hvb := HR.out.vb j hj
              by_cases hjl : j < s.size
              · have hvb1 := HR.out.vb (j + 1) (by omega)
                by_cases hdg : 48 ≤ bt s j ∧ bt s j ≤ 57
                · have hv := HR.out.vd j hjl hdg.1 hdg.2
                  rw [bt_eq s j hjl] at hdg hv
                  obtain ⟨hd1, hd2⟩ := hdg
                  have hv1 : (V j : Int) * 10 + (((s[j]'hjl).toNat : Int) - 48) ≤ 9223372036854775808 := by omega
                  have HV := hide hv
                  clear hv
                  go_wp2
                  go_round
                  case rel => exact ⟨j + 1, by omega, by go_num, by rw [HV.out]⟩
                  case measure => simp [intOf]; omega
                · have hv := HR.out.vn j hjl hdg
                  rw [bt_eq s j hjl] at hdg
                  have HV := hide hv
                  clear hv
                  by_cases hlow : ((s[j]'hjl).toNat : Int) < 48
                  · clear hdg
                    go_wp2
                    go_round
                    case rel => exact ⟨j + 1, by omega, by go_num, by rw [HV.out]⟩
                    case measure => simp [intOf]; omega
                  · have hhi : (57 : Int) < ((s[j]'hjl).toNat : Int) := by omega
                    clear hdg
                    go_wp2
                    go_round
                    case rel => exact ⟨j + 1, by omega, by go_num, by rw [HV.out]⟩
                    case measure => simp [intOf]; omega
              · have hjs : j = s.size := by omega
                have hvu : V j = U := by rw [hjs]; exact HR.out.vU
                clear hjs
                go_wp2
                go_ret
                exact ⟨rfl, rfl⟩

      · go_wp2
        clear hdt hdt1 hst
        go_loop [7] (fun si => ∃ j : Nat, j ≤ P ∧ si = .int .i64 (1 + (k : Int) + 1 + (j : Int))) (fun si => s.size - (intOf si).toNat)
        case atStart => exact ⟨0, by omega, by go_num⟩
        case round =>
          obtain ⟨j, hj, rfl⟩ := hrel
          by_cases hjl : j < P
          · have hjz : 1 + k + 1 + j < s.size := by omega
            have hd := HR.out.frac (1 + k + 1 + j) hP (by omega) hjz
            rw [bt_eq s (1 + k + 1 + j) hjz] at hd
            obtain ⟨hd1, hd2⟩ := hd
            have hjz' : (1 + (k : Int) + 1 + (j : Int)) < (s.size : Int) := by omega
            have hjz0 : (0 : Int) ≤ 1 + (k : Int) + 1 + (j : Int) := by omega
            go_wp2
            go_round
            case rel => exact ⟨j + 1, by omega, by go_num⟩
            case measure => simp [intOf]; omega
          · obtain rfl : j = P := by omega
            have hjz1 : ¬ (1 + (k : Int) + 1 + (j : Int)) < (s.size : Int) := by omega
            have hmag := HM.out
            have hsg : IntKind.u64.signed = false := rfl
            go_wp2
            clear hmag hsg
            clear hjz1 hkz' hkz0
            skip
            go_loop [12, 13] (fun sv sj => ∃ j : Nat, j ≤ s.size ∧ sj = .int .i64 j ∧ sv = .int .u64 (V j)) (fun _ sj => s.size - (intOf sj).toNat)
            case atStart => exact ⟨0, by omega, rfl, by rw [HR.out.v0]; rfl⟩
            case round =>
              obtain ⟨j, hj, rfl, rfl⟩ := hrel
              have hvb := HR.out.vb j hj
              by_cases hjl : j < s.size
              · have hvb1 := HR.out.vb (j + 1) (by omega)
                by_cases hdg : 48 ≤ bt s j ∧ bt s j ≤ 57
                · have hv := HR.out.vd j hjl hdg.1 hdg.2
                  rw [bt_eq s j hjl] at hdg hv
                  obtain ⟨hd1, hd2⟩ := hdg
                  have hv1 : (V j : Int) * 10 + (((s[j]'hjl).toNat : Int) - 48) ≤ 9223372036854775808 := by omega
                  have HV := hide hv
                  clear hv
                  go_wp2
                  go_round
                  case rel => exact ⟨j + 1, by omega, by go_num, by rw [HV.out]⟩
                  case measure => simp [intOf]; omega
                · have hv := HR.out.vn j hjl hdg
                  rw [bt_eq s j hjl] at hdg
                  have HV := hide hv
                  clear hv
                  by_cases hlow : ((s[j]'hjl).toNat : Int) < 48
                  · clear hdg
                    go_wp2
                    go_round
                    case rel => exact ⟨j + 1, by omega, by go_num, by rw [HV.out]⟩
                    case measure => simp [intOf]; omega
                  · have hhi : (57 : Int) < ((s[j]'hjl).toNat : Int) := by omega
                    clear hdg
                    go_wp2
                    go_round
                    case rel => exact ⟨j + 1, by omega, by go_num, by rw [HV.out]⟩
                    case measure => simp [intOf]; omega
              · have hjs : j = s.size := by omega
                have hvu : V j = U := by rw [hjs]; exact HR.out.vU
                clear hjs
                go_wp2
                go_ret
                exact ⟨rfl, rfl⟩


set_option maxHeartbeats 4000000 in
set_option maxRecDepth 1000000 in
theorem back_neg_zero (s : ByteArray) (n : Int) (m U : Nat) (V : Nat → Nat) (w : World) (h : Reads s 1 m 0 U V) (hn : n < 0) (hmag : IntKind.u64.wrap (bits BinOp.xor IntKind.u64 IntKind.u64.max (IntKind.u64.wrap n) + 1) = (U : Int)) (hs : s.size ≤ 200000) :
    Calls Try.prog 6 #[.string s, .int .i64 n, .int .i64 0] w fun e w' => e = .returned (.bool true) ∧ w' = w := by
  have HR := hide h
  have hsz := h.size
  have hm := h.m1
  rw [if_neg (by omega)] at hsz
  have hz0 : 0 < s.size := by omega
  have hz0' : (0 : Int) < (s.size : Int) := by omega
  have hs1 : 1 + m + 0 ≤ s.size := by omega
  have hs2 : s.size ≤ 1 + m + 0 := by omega
  have hb0 : ((s[0].toNat : Int)) = 45 := by rw [← bt_eq s 0 hz0]; exact h.sign 0 (by omega)
  have HM := hide hmag
  clear hmag
  clear h hsz
  go_enter Try.func6, Try.ntmps6
  go_wp2
  clear hb0
  go_loop [7] (fun si => ∃ k : Nat, k ≤ m ∧ si = .int .i64 (1 + (k : Int))) (fun si => s.size - (intOf si).toNat)
  case atStart => exact ⟨0, by omega, by go_num⟩
  case round =>
    obtain ⟨k, hk, rfl⟩ := hrel
    by_cases hlt : k < m
    · have hkz : 1 + k < s.size := by omega
      have hd := HR.out.ints (1 + k) (by omega) (by omega)
      rw [bt_eq s (1 + k) hkz] at hd
      obtain ⟨hd1, hd2⟩ := hd
      have hkz' : (1 + (k : Int)) < (s.size : Int) := by omega
      have hkz0 : (0 : Int) ≤ 1 + (k : Int) := by omega
      go_wp2
      go_round
      case rel => exact ⟨k + 1, by omega, by go_num⟩
      case measure => simp [intOf]; omega
    · obtain rfl : k = m := by omega
      have hst : ((1 + (k : Int)) == 1) = false := by rw [beq_eq_false_iff_ne]; omega
      have hkz1 : ¬ (1 + (k : Int)) < (s.size : Int) := by omega
      have hbn : ((1 + (k : Int)) != (s.size : Int)) = false := by rw [show (1 + (k : Int)) = (s.size : Int) by omega]; simp
      by_cases hm1 : 1 < k
      · have h1z : 1 < s.size := by omega
        have hld1 : bt s 1 ≠ 48 := HR.out.lead hm1
        rw [bt_eq s 1 h1z] at hld1
        have hld2 : (((s[1]'h1z).toNat : Int) == 48) = false := by rw [beq_eq_false_iff_ne]; exact hld1
        have hmag := HM.out
        have hsg : IntKind.u64.signed = false := rfl
        go_wp2
        clear hmag hsg
        clear hkz1 hst hbn
        clear hld1 hld2
        go_loop [12, 13] (fun sv sj => ∃ j : Nat, j ≤ s.size ∧ sj = .int .i64 j ∧ sv = .int .u64 (V j)) (fun _ sj => s.size - (intOf sj).toNat)
        case atStart => exact ⟨0, by omega, rfl, by rw [HR.out.v0]; rfl⟩
        case round =>
          obtain ⟨j, hj, rfl, rfl⟩ := hrel
          have hvb := HR.out.vb j hj
          by_cases hjl : j < s.size
          · have hvb1 := HR.out.vb (j + 1) (by omega)
            by_cases hdg : 48 ≤ bt s j ∧ bt s j ≤ 57
            · have hv := HR.out.vd j hjl hdg.1 hdg.2
              rw [bt_eq s j hjl] at hdg hv
              obtain ⟨hd1, hd2⟩ := hdg
              have hv1 : (V j : Int) * 10 + (((s[j]'hjl).toNat : Int) - 48) ≤ 9223372036854775808 := by omega
              have HV := hide hv
              clear hv
              go_wp2
              go_round
              case rel => exact ⟨j + 1, by omega, by go_num, by rw [HV.out]⟩
              case measure => simp [intOf]; omega
            · have hv := HR.out.vn j hjl hdg
              rw [bt_eq s j hjl] at hdg
              have HV := hide hv
              clear hv
              by_cases hlow : ((s[j]'hjl).toNat : Int) < 48
              · clear hdg
                go_wp2
                go_round
                case rel => exact ⟨j + 1, by omega, by go_num, by rw [HV.out]⟩
                case measure => simp [intOf]; omega
              · have hhi : (57 : Int) < ((s[j]'hjl).toNat : Int) := by omega
                clear hdg
                go_wp2
                go_round
                case rel => exact ⟨j + 1, by omega, by go_num, by rw [HV.out]⟩
                case measure => simp [intOf]; omega
          · have hjs : j = s.size := by omega
            have hvu : V j = U := by rw [hjs]; exact HR.out.vU
            clear hjs
            go_wp2
            go_ret
            exact ⟨rfl, rfl⟩

      · have hmag := HM.out
        have hsg : IntKind.u64.signed = false := rfl
        go_wp2
        clear hmag hsg
        clear hkz1 hst hbn
        skip
        go_loop [12, 13] (fun sv sj => ∃ j : Nat, j ≤ s.size ∧ sj = .int .i64 j ∧ sv = .int .u64 (V j)) (fun _ sj => s.size - (intOf sj).toNat)
        case atStart => exact ⟨0, by omega, rfl, by rw [HR.out.v0]; rfl⟩
        case round =>
          obtain ⟨j, hj, rfl, rfl⟩ := hrel
          have hvb := HR.out.vb j hj
          by_cases hjl : j < s.size
          · have hvb1 := HR.out.vb (j + 1) (by omega)
            by_cases hdg : 48 ≤ bt s j ∧ bt s j ≤ 57
            · have hv := HR.out.vd j hjl hdg.1 hdg.2
              rw [bt_eq s j hjl] at hdg hv
              obtain ⟨hd1, hd2⟩ := hdg
              have hv1 : (V j : Int) * 10 + (((s[j]'hjl).toNat : Int) - 48) ≤ 9223372036854775808 := by omega
              have HV := hide hv
              clear hv
              go_wp2
              go_round
              case rel => exact ⟨j + 1, by omega, by go_num, by rw [HV.out]⟩
              case measure => simp [intOf]; omega
            · have hv := HR.out.vn j hjl hdg
              rw [bt_eq s j hjl] at hdg
              have HV := hide hv
              clear hv
              by_cases hlow : ((s[j]'hjl).toNat : Int) < 48
              · clear hdg
                go_wp2
                go_round
                case rel => exact ⟨j + 1, by omega, by go_num, by rw [HV.out]⟩
                case measure => simp [intOf]; omega
              · have hhi : (57 : Int) < ((s[j]'hjl).toNat : Int) := by omega
                clear hdg
                go_wp2
                go_round
                case rel => exact ⟨j + 1, by omega, by go_num, by rw [HV.out]⟩
                case measure => simp [intOf]; omega
          · have hjs : j = s.size := by omega
            have hvu : V j = U := by rw [hjs]; exact HR.out.vU
            clear hjs
            go_wp2
            go_ret
            exact ⟨rfl, rfl⟩


end Go.Proofs.Qxb6628618a
