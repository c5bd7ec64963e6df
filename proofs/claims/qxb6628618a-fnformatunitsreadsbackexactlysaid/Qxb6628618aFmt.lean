import Derived.Test.Qxb6628618aInv
namespace Go.Proofs.Qxb6628618a
open Go.RowKit

set_option maxHeartbeats 1000000 in
set_option maxRecDepth 1000000 in
theorem fmt_pos_small (U P : Nat) (w : World) (hU : U < 10 ^ 20) (hn : (U : Int) ≤ 9223372036854775807) (hP : P ≤ 27) (hP1 : P ≤ 65537) :
    Calls Try.prog 5 #[.int .i64 U, .int .i64 P] w fun e w' => FmtRes [] P U e ∧ Below w.heap.size w w' := by
  have HU := hide hU
  clear hU
  go_enter Try.func5, Try.ntmps5
  go_wp2
  have I0 : Inv P U 48 w.heap.size 25 w.heap.size w 0 48 U (w.alloc (.cells (Array.replicate 48 (.int .u8 0)) 25)) := by
    refine ⟨(qd_zero U).symm, by simp [tx], fun j h => absurd h (Nat.not_lt_zero _), ?_, (Below.refl w.heap.size w).alloc (Nat.le_refl _) _⟩
    have := World.ownsRow_lit (base := w.heap.size) (e := 25) (size := 1) w (Array.replicate 48 (.int .u8 0)) 48 (Nat.le_refl _) (by unfold maxLen; omega) (by simp)
    have e : UB (List.replicate 48 0 ++ tx P U 0) = (Array.replicate 48 (Value.int .u8 0)).toList := by simp [UB, tx]
    rw [e]; exact this
  have hg0 : w.heap.size ≤ w.heap.size := by omega
  go_loopw [8, 9, 10] (fun su si sd wr => ∃ d i u : Nat, sd = .int .i64 d ∧ si = .int .i64 i ∧ su = .int .u64 u ∧ u ≤ 18446744073709551615 ∧ Inv P U (48) (w.heap.size) 25 (w.heap.size) w d i u wr) (fun _ si _ _ => (intOf si).toNat)
  case atStart => exact ⟨0, 48, U, rfl, by rfl, by go_num, by omega, I0⟩
  case round =>
    obtain ⟨d, i, u, rfl, rfl, rfl, hub, hinv⟩ := hrel
    have hqu := hinv.1
    have hroom := hinv.room' HU.out (by omega) (by omega)
    have hiN : i ≤ 48 := by have := hinv.2.1; omega
    have HI := hide hinv
    clear hinv I0
    by_cases hgo : d ≤ P ∨ 0 < u
    · have hG : Going P U d := by unfold Going; rw [← hqu]; exact hgo
      have hdl := going_lt HU.out hG
      by_cases hdot : d = P ∧ 0 < P
      · obtain ⟨i, rfl⟩ : ∃ j, i = j + 2 := ⟨i - 2, by omega⟩
        obtain ⟨⟨o1, c1⟩, f1⟩ := HI.out.cell (i + 1) (by omega)
        obtain ⟨⟨o2, c2⟩, f2⟩ := HI.out.cell i (by omega)
        have HN := hide (HI.out.dot hG hdot hg0)
        obtain ⟨hdP, hP0⟩ := hdot
        have hde : ((d : Int) == (P : Int)) = true := by rw [hdP]; simp
        have hd1 : (d : Int) ≤ (P : Int) := by omega
        have hd2 : (0 : Int) < (P : Int) := by omega
        clear HI hgo hG hqu hdP
        go_wp2
        go_roundw
        case rel => exact ⟨d + 1, i, u / 10, by go_num, by go_num, by go_num, by omega, HN.out⟩
        case measure => simp [intOf] <;> omega
      · obtain ⟨i, rfl⟩ : ∃ j, i = j + 1 := ⟨i - 1, by omega⟩
        obtain ⟨⟨o2, c2⟩, f2⟩ := HI.out.cell i (by omega)
        have HN := hide (HI.out.plain hG hdot hg0)
        by_cases hdP : d = P
        · have hP0 : P = 0 := by omega
          subst hP0
          subst hdP
          clear HI hgo hG hqu hdot
          go_wp2
          go_roundw
          case rel => exact ⟨1, i, u / 10, by go_num, by go_num, by go_num, by omega, HN.out⟩
          case measure => simp [intOf] <;> omega
        · have hde : ((d : Int) == (P : Int)) = false := by rw [beq_eq_false_iff_ne]; omega
          by_cases hd1 : d ≤ P
          · have hd1' : (d : Int) ≤ (P : Int) := by omega
            clear HI hgo hG hqu hdot hdP
            go_wp2
            go_roundw
            case rel => exact ⟨d + 1, i, u / 10, by go_num, by go_num, by go_num, by omega, HN.out⟩
            case measure => simp [intOf] <;> omega
          · have hu0 : 0 < u := by omega
            have hd1' : (P : Int) < (d : Int) := by omega
            have hu0' : (0 : Int) < (u : Int) := by omega
            clear HI hgo hG hqu hdot hdP hd1
            go_wp2
            go_roundw
            case rel => exact ⟨d + 1, i, u / 10, by go_num, by go_num, by go_num, by omega, HN.out⟩
            case measure => simp [intOf] <;> omega
    · have hd1 : ¬ d ≤ P := fun h => hgo (.inl h)
      obtain rfl : u = 0 := by omega
      have HS := hide (show Stop P U d from ⟨⟨by omega, hqu.symm⟩, HI.out.2.2.1⟩)
      have hd1' : (P : Int) < (d : Int) := by omega
      have hT : 0 < (tx P U d).length := by rw [tx_len]; omega
      have hiN2 : i < 48 := by have := HI.out.2.1; omega
      have hcv := conv_text HI.out.2.2.2.1 HI.out.2.1
      have HB := hide HI.out.2.2.2.2
      have hne : ¬ 48 = i := by omega
      clear HI hgo hqu hT hd1
      go_wp2
      go_ret
      exact ⟨⟨d, HS.out, rfl⟩, HB.out⟩

set_option maxHeartbeats 1000000 in
set_option maxRecDepth 1000000 in
theorem fmt_pos_big (U P : Nat) (w : World) (hU : U < 10 ^ 20) (hn : (U : Int) ≤ 9223372036854775807) (hP : 27 < P) (hP1 : P ≤ 65537) :
    Calls Try.prog 5 #[.int .i64 U, .int .i64 P] w fun e w' => FmtRes [] P U e ∧ Below w.heap.size w w' := by
  have HU := hide hU
  clear hU
  obtain ⟨i0, hi, hz0, hz1, hz2⟩ := info_parts Try.info5
  go_enter Try.func5, Try.ntmps5
  go_wp2_with (at_make; refine wpList_make_full _ rfl _ _ 26 rfl (w.heap.size + 1) 5 i0 (.int .u8 0) 1 Try.underlying26 hi hz0 hz1 _ _ _ _ (21 + P) rfl rfl (by omega) (by omega) (by rw [hz2]; omega) (by unfold maxLen; omega) ?_ ?_; (simp); intro w0 hown0 hgrow0)
  have I0 : Inv P U (21 + P) (w.heap.size + 1) 5 (w.heap.size + 1) w 0 (21 + P) U w0 := by
    refine ⟨(qd_zero U).symm, by simp [tx], fun j h => absurd h (Nat.not_lt_zero _), ?_, ((Below.refl w.heap.size w).alloc (Nat.le_refl _) _).grown hgrow0 (by simp) (fun k h => by cases h)⟩
    rw [World.size_alloc, Nat.mul_one] at hown0
    have e : UB (List.replicate (21 + P) 0 ++ tx P U 0) = (madeCells #[.int .u8 0] (21 + P)).toList := by rw [toList_madeCells_one]; simp [UB, tx]
    rw [e]; exact hown0
  clear hown0 hgrow0
  have hg0 : w.heap.size ≤ w.heap.size + 1 := by omega
  go_loopw [8, 9, 10] (fun su si sd wr => ∃ d i u : Nat, sd = .int .i64 d ∧ si = .int .i64 i ∧ su = .int .u64 u ∧ u ≤ 18446744073709551615 ∧ Inv P U (21 + P) (w.heap.size + 1) 5 (w.heap.size + 1) w d i u wr) (fun _ si _ _ => (intOf si).toNat)
  case atStart => exact ⟨0, 21 + P, U, rfl, by go_num, by go_num, by omega, I0⟩
  case round =>
    obtain ⟨d, i, u, rfl, rfl, rfl, hub, hinv⟩ := hrel
    have hqu := hinv.1
    have hroom := hinv.room' HU.out (by omega) (by omega)
    have hiN : i ≤ 21 + P := by have := hinv.2.1; omega
    have HI := hide hinv
    clear hinv I0
    by_cases hgo : d ≤ P ∨ 0 < u
    · have hG : Going P U d := by unfold Going; rw [← hqu]; exact hgo
      have hdl := going_lt HU.out hG
      by_cases hdot : d = P ∧ 0 < P
      · obtain ⟨i, rfl⟩ : ∃ j, i = j + 2 := ⟨i - 2, by omega⟩
        obtain ⟨⟨o1, c1⟩, f1⟩ := HI.out.cell (i + 1) (by omega)
        obtain ⟨⟨o2, c2⟩, f2⟩ := HI.out.cell i (by omega)
        have HN := hide (HI.out.dot hG hdot hg0)
        obtain ⟨hdP, hP0⟩ := hdot
        have hde : ((d : Int) == (P : Int)) = true := by rw [hdP]; simp
        have hd1 : (d : Int) ≤ (P : Int) := by omega
        have hd2 : (0 : Int) < (P : Int) := by omega
        clear HI hgo hG hqu hdP
        go_wp2
        go_roundw
        case rel => exact ⟨d + 1, i, u / 10, by go_num, by go_num, by go_num, by omega, HN.out⟩
        case measure => simp [intOf] <;> omega
      · obtain ⟨i, rfl⟩ : ∃ j, i = j + 1 := ⟨i - 1, by omega⟩
        obtain ⟨⟨o2, c2⟩, f2⟩ := HI.out.cell i (by omega)
        have HN := hide (HI.out.plain hG hdot hg0)
        by_cases hdP : d = P
        · exfalso; omega
        · have hde : ((d : Int) == (P : Int)) = false := by rw [beq_eq_false_iff_ne]; omega
          by_cases hd1 : d ≤ P
          · have hd1' : (d : Int) ≤ (P : Int) := by omega
            clear HI hgo hG hqu hdot hdP
            go_wp2
            go_roundw
            case rel => exact ⟨d + 1, i, u / 10, by go_num, by go_num, by go_num, by omega, HN.out⟩
            case measure => simp [intOf] <;> omega
          · exfalso; omega
    · have hd1 : ¬ d ≤ P := fun h => hgo (.inl h)
      obtain rfl : u = 0 := by omega
      have HS := hide (show Stop P U d from ⟨⟨by omega, hqu.symm⟩, HI.out.2.2.1⟩)
      have hd1' : (P : Int) < (d : Int) := by omega
      have hT : 0 < (tx P U d).length := by rw [tx_len]; omega
      have hiN2 : i < (21 + P) := by have := HI.out.2.1; omega
      have hcv := conv_text HI.out.2.2.2.1 HI.out.2.1
      have HB := hide HI.out.2.2.2.2
      have hne : ¬ (21 + P) = i := by omega
      clear HI hgo hqu hT hd1
      go_wp2
      go_ret
      exact ⟨⟨d, HS.out, rfl⟩, HB.out⟩

set_option maxHeartbeats 1000000 in
set_option maxRecDepth 1000000 in
theorem fmt_neg_small (n : Int) (U P : Nat) (w : World) (hn : n < 0) (hU : U < 10 ^ 20) (hu : IntKind.u64.wrap (-IntKind.u64.wrap n) = (U : Int)) (hP : P ≤ 27) (hP1 : P ≤ 65537) (hUb : U ≤ 9223372036854775808) :
    Calls Try.prog 5 #[.int .i64 n, .int .i64 P] w fun e w' => FmtRes [45] P U e ∧ Below w.heap.size w w' := by
  have HU := hide hU
  clear hU
  go_enter Try.func5, Try.ntmps5
  go_wp2
  have I0 : Inv P U 48 w.heap.size 25 w.heap.size w 0 48 U (w.alloc (.cells (Array.replicate 48 (.int .u8 0)) 25)) := by
    refine ⟨(qd_zero U).symm, by simp [tx], fun j h => absurd h (Nat.not_lt_zero _), ?_, (Below.refl w.heap.size w).alloc (Nat.le_refl _) _⟩
    have := World.ownsRow_lit (base := w.heap.size) (e := 25) (size := 1) w (Array.replicate 48 (.int .u8 0)) 48 (Nat.le_refl _) (by unfold maxLen; omega) (by simp)
    have e : UB (List.replicate 48 0 ++ tx P U 0) = (Array.replicate 48 (Value.int .u8 0)).toList := by simp [UB, tx]
    rw [e]; exact this
  have hg0 : w.heap.size ≤ w.heap.size := by omega
  go_loopw [8, 9, 10] (fun su si sd wr => ∃ d i u : Nat, sd = .int .i64 d ∧ si = .int .i64 i ∧ su = .int .u64 u ∧ u ≤ 18446744073709551615 ∧ Inv P U (48) (w.heap.size) 25 (w.heap.size) w d i u wr) (fun _ si _ _ => (intOf si).toNat)
  case atStart => exact ⟨0, 48, U, rfl, by rfl, by go_num, by omega, I0⟩
  case round =>
    obtain ⟨d, i, u, rfl, rfl, rfl, hub, hinv⟩ := hrel
    have hqu := hinv.1
    have hroom := hinv.room' HU.out (by omega) (by omega)
    have hiN : i ≤ 48 := by have := hinv.2.1; omega
    have HI := hide hinv
    clear hinv I0
    by_cases hgo : d ≤ P ∨ 0 < u
    · have hG : Going P U d := by unfold Going; rw [← hqu]; exact hgo
      have hdl := going_lt HU.out hG
      by_cases hdot : d = P ∧ 0 < P
      · obtain ⟨i, rfl⟩ : ∃ j, i = j + 2 := ⟨i - 2, by omega⟩
        obtain ⟨⟨o1, c1⟩, f1⟩ := HI.out.cell (i + 1) (by omega)
        obtain ⟨⟨o2, c2⟩, f2⟩ := HI.out.cell i (by omega)
        have HN := hide (HI.out.dot hG hdot hg0)
        obtain ⟨hdP, hP0⟩ := hdot
        have hde : ((d : Int) == (P : Int)) = true := by rw [hdP]; simp
        have hd1 : (d : Int) ≤ (P : Int) := by omega
        have hd2 : (0 : Int) < (P : Int) := by omega
        clear HI hgo hG hqu hdP
        go_wp2
        go_roundw
        case rel => exact ⟨d + 1, i, u / 10, by go_num, by go_num, by go_num, by omega, HN.out⟩
        case measure => simp [intOf] <;> omega
      · obtain ⟨i, rfl⟩ : ∃ j, i = j + 1 := ⟨i - 1, by omega⟩
        obtain ⟨⟨o2, c2⟩, f2⟩ := HI.out.cell i (by omega)
        have HN := hide (HI.out.plain hG hdot hg0)
        by_cases hdP : d = P
        · have hP0 : P = 0 := by omega
          subst hP0
          subst hdP
          clear HI hgo hG hqu hdot
          go_wp2
          go_roundw
          case rel => exact ⟨1, i, u / 10, by go_num, by go_num, by go_num, by omega, HN.out⟩
          case measure => simp [intOf] <;> omega
        · have hde : ((d : Int) == (P : Int)) = false := by rw [beq_eq_false_iff_ne]; omega
          by_cases hd1 : d ≤ P
          · have hd1' : (d : Int) ≤ (P : Int) := by omega
            clear HI hgo hG hqu hdot hdP
            go_wp2
            go_roundw
            case rel => exact ⟨d + 1, i, u / 10, by go_num, by go_num, by go_num, by omega, HN.out⟩
            case measure => simp [intOf] <;> omega
          · have hu0 : 0 < u := by omega
            have hd1' : (P : Int) < (d : Int) := by omega
            have hu0' : (0 : Int) < (u : Int) := by omega
            clear HI hgo hG hqu hdot hdP hd1
            go_wp2
            go_roundw
            case rel => exact ⟨d + 1, i, u / 10, by go_num, by go_num, by go_num, by omega, HN.out⟩
            case measure => simp [intOf] <;> omega
    · have hd1 : ¬ d ≤ P := fun h => hgo (.inl h)
      obtain rfl : u = 0 := by omega
      have HS := hide (show Stop P U d from ⟨⟨by omega, hqu.symm⟩, HI.out.2.2.1⟩)
      have hd1' : (P : Int) < (d : Int) := by omega
      have hT : 0 < (tx P U d).length := by rw [tx_len]; omega
      have hiN2 : i < 48 := by have := HI.out.2.1; omega
      obtain ⟨i, rfl⟩ : ∃ j, i = j + 1 := ⟨i - 1, by omega⟩
      obtain ⟨⟨o2, c2⟩, f2⟩ := HI.out.cell i (by omega)
      have hst := (HI.out.2.2.2.1.stored i (.int .u8 45)).1
      rw [UB_set] at hst
      have hcv := conv_text hst (by rw [List.length_cons]; have := HI.out.2.1; omega)
      have HB := hide (HI.out.2.2.2.2.setCell (p := ⟨w.heap.size, i, none⟩) hg0 (.int .u8 45))
      have hne : ¬ 48 = i := by omega
      clear hst HI hgo hqu hT hd1
      go_wp2
      go_ret
      exact ⟨⟨d, HS.out, rfl⟩, HB.out⟩

set_option maxHeartbeats 1000000 in
set_option maxRecDepth 1000000 in
theorem fmt_neg_big (n : Int) (U P : Nat) (w : World) (hn : n < 0) (hU : U < 10 ^ 20) (hu : IntKind.u64.wrap (-IntKind.u64.wrap n) = (U : Int)) (hP : 27 < P) (hP1 : P ≤ 65537) (hUb : U ≤ 9223372036854775808) :
    Calls Try.prog 5 #[.int .i64 n, .int .i64 P] w fun e w' => FmtRes [45] P U e ∧ Below w.heap.size w w' := by
  have HU := hide hU
  clear hU
  obtain ⟨i0, hi, hz0, hz1, hz2⟩ := info_parts Try.info5
  go_enter Try.func5, Try.ntmps5
  go_wp2_with (at_make; refine wpList_make_full _ rfl _ _ 26 rfl (w.heap.size + 1) 5 i0 (.int .u8 0) 1 Try.underlying26 hi hz0 hz1 _ _ _ _ (21 + P) rfl rfl (by omega) (by omega) (by rw [hz2]; omega) (by unfold maxLen; omega) ?_ ?_; (simp); intro w0 hown0 hgrow0)
  have I0 : Inv P U (21 + P) (w.heap.size + 1) 5 (w.heap.size + 1) w 0 (21 + P) U w0 := by
    refine ⟨(qd_zero U).symm, by simp [tx], fun j h => absurd h (Nat.not_lt_zero _), ?_, ((Below.refl w.heap.size w).alloc (Nat.le_refl _) _).grown hgrow0 (by simp) (fun k h => by cases h)⟩
    rw [World.size_alloc, Nat.mul_one] at hown0
    have e : UB (List.replicate (21 + P) 0 ++ tx P U 0) = (madeCells #[.int .u8 0] (21 + P)).toList := by rw [toList_madeCells_one]; simp [UB, tx]
    rw [e]; exact hown0
  clear hown0 hgrow0
  have hg0 : w.heap.size ≤ w.heap.size + 1 := by omega
  go_loopw [8, 9, 10] (fun su si sd wr => ∃ d i u : Nat, sd = .int .i64 d ∧ si = .int .i64 i ∧ su = .int .u64 u ∧ u ≤ 18446744073709551615 ∧ Inv P U (21 + P) (w.heap.size + 1) 5 (w.heap.size + 1) w d i u wr) (fun _ si _ _ => (intOf si).toNat)
  case atStart => exact ⟨0, 21 + P, U, rfl, by go_num, by go_num, by omega, I0⟩
  case round =>
    obtain ⟨d, i, u, rfl, rfl, rfl, hub, hinv⟩ := hrel
    have hqu := hinv.1
    have hroom := hinv.room' HU.out (by omega) (by omega)
    have hiN : i ≤ 21 + P := by have := hinv.2.1; omega
    have HI := hide hinv
    clear hinv I0
    by_cases hgo : d ≤ P ∨ 0 < u
    · have hG : Going P U d := by unfold Going; rw [← hqu]; exact hgo
      have hdl := going_lt HU.out hG
      by_cases hdot : d = P ∧ 0 < P
      · obtain ⟨i, rfl⟩ : ∃ j, i = j + 2 := ⟨i - 2, by omega⟩
        obtain ⟨⟨o1, c1⟩, f1⟩ := HI.out.cell (i + 1) (by omega)
        obtain ⟨⟨o2, c2⟩, f2⟩ := HI.out.cell i (by omega)
        have HN := hide (HI.out.dot hG hdot hg0)
        obtain ⟨hdP, hP0⟩ := hdot
        have hde : ((d : Int) == (P : Int)) = true := by rw [hdP]; simp
        have hd1 : (d : Int) ≤ (P : Int) := by omega
        have hd2 : (0 : Int) < (P : Int) := by omega
        clear HI hgo hG hqu hdP
        go_wp2
        go_roundw
        case rel => exact ⟨d + 1, i, u / 10, by go_num, by go_num, by go_num, by omega, HN.out⟩
        case measure => simp [intOf] <;> omega
      · obtain ⟨i, rfl⟩ : ∃ j, i = j + 1 := ⟨i - 1, by omega⟩
        obtain ⟨⟨o2, c2⟩, f2⟩ := HI.out.cell i (by omega)
        have HN := hide (HI.out.plain hG hdot hg0)
        by_cases hdP : d = P
        · exfalso; omega
        · have hde : ((d : Int) == (P : Int)) = false := by rw [beq_eq_false_iff_ne]; omega
          by_cases hd1 : d ≤ P
          · have hd1' : (d : Int) ≤ (P : Int) := by omega
            clear HI hgo hG hqu hdot hdP
            go_wp2
            go_roundw
            case rel => exact ⟨d + 1, i, u / 10, by go_num, by go_num, by go_num, by omega, HN.out⟩
            case measure => simp [intOf] <;> omega
          · exfalso; omega
    · have hd1 : ¬ d ≤ P := fun h => hgo (.inl h)
      obtain rfl : u = 0 := by omega
      have HS := hide (show Stop P U d from ⟨⟨by omega, hqu.symm⟩, HI.out.2.2.1⟩)
      have hd1' : (P : Int) < (d : Int) := by omega
      have hT : 0 < (tx P U d).length := by rw [tx_len]; omega
      have hiN2 : i < (21 + P) := by have := HI.out.2.1; omega
      obtain ⟨i, rfl⟩ : ∃ j, i = j + 1 := ⟨i - 1, by omega⟩
      obtain ⟨⟨o2, c2⟩, f2⟩ := HI.out.cell i (by omega)
      have hst := (HI.out.2.2.2.1.stored i (.int .u8 45)).1
      rw [UB_set] at hst
      have hcv := conv_text hst (by rw [List.length_cons]; have := HI.out.2.1; omega)
      have HB := hide (HI.out.2.2.2.2.setCell (p := ⟨w.heap.size + 1, i, none⟩) hg0 (.int .u8 45))
      have hne : ¬ (21 + P) = i := by omega
      clear hst HI hgo hqu hT hd1
      go_wp2
      go_ret
      exact ⟨⟨d, HS.out, rfl⟩, HB.out⟩

end Go.Proofs.Qxb6628618a
