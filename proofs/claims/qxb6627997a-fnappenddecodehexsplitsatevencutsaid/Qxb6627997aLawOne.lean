import Derived.Test.Qxb6627997aDec
namespace Go.Proofs.Qxb6627997a
open Go.RowKit

theorem keep_ne {w1 w2 w3 : World} {n n' : Nat} {v1 v2 : Value} {xs ys : List Value} {b1 : Nat} (h1 : w1.ownsRow b1 5 1 v1 n xs) (h2 : w2.ownsRow w1.heap.size 5 1 v2 n' ys) (hg : w2.grownBy w3 v1.ownBlock) : w3.ownsRow w1.heap.size 5 1 v2 n' ys := by
  refine h2.kept hg ?_
  cases e : v2.ownBlock with
  | none => exact .inl rfl
  | some k =>
    right
    intro e'
    have a := (h2.lt k e).1
    have b := (h1.lt k e'.symm).2
    omega

set_option maxHeartbeats 400000 in
theorem law1_big (a : Option Addr) (n cap : Nat) (s : ByteArray) (w : World) (hn : n ≤ maxLen) (hs : s.size ≤ maxLen) (hbig : 524288 < n ∨ 524288 < s.size) :
    Calls Try.prog 3 #[.slice a n cap, .string s] w fun e w' => e = .returned (.bool true) ∧ Below w.heap.size w w' := by
  by_cases h1 : 524288 < n
  · go_enter Try.func3, Try.ntmps3
    go_wp2_with fail
    refine (bytes5 _ _ _ _ _ hn hs).mono ?_
    rintro e w' ⟨b, rfl, rfl⟩
    cases b
    · go_wp2
      go_ret
      exact ⟨rfl, Below.refl _ _⟩
    · go_wp2
      go_ret
      exact ⟨rfl, Below.refl _ _⟩
  · have h2 : 524288 < s.size := by omega
    clear hbig
    go_enter Try.func3, Try.ntmps3
    go_wp2_with fail
    refine (bytes5 _ _ _ _ _ hn hs).mono ?_
    rintro e w' ⟨b, rfl, rfl⟩
    cases b
    · go_wp2
      go_ret
      exact ⟨rfl, Below.refl _ _⟩
    · go_wp2
      go_ret
      exact ⟨rfl, Below.refl _ _⟩

set_option maxHeartbeats 400000 in
theorem law1_odd (a : Option Addr) (n cap : Nat) (s : ByteArray) (zs : List Int) (w : World) (h : RowIn w a n cap zs) (hn : n ≤ 524288) (hs : s.size ≤ 524288) (ho : (s.size : Int) % 2 = 1) :
    Calls Try.prog 3 #[.slice a n cap, .string s] w fun e w' => e = .returned (.bool true) ∧ Below w.heap.size w w' := by
  have hdec : decode s = ([], false) := by unfold decode; rw [if_neg (by omega)]
  go_enter Try.func3, Try.ntmps3
  go_wp2_with fail
  refine (bytes5 _ _ _ _ _ (by unfold maxLen; omega) (by unfold maxLen; omega)).mono ?_
  rintro e w' ⟨b, rfl, rfl⟩
  cases b
  · go_wp2
    go_ret
    exact ⟨rfl, Below.refl _ _⟩
  · go_wp2_with fail
    refine (copy_any a n cap zs _ h hn).mono ?_
    rintro e w1 ⟨v1, rfl, hown1, hbel1⟩
    obtain ⟨a1, c1, rfl, hrow1⟩ := owns_row hown1
    go_wp2_with fail
    refine (copy_any a1 n c1 zs _ hrow1 hn).mono ?_
    rintro e w2 ⟨v2, rfl, hown2, hbel2⟩
    have hown1' := owns_below hown1 hbel2
    have hz := hbel1.size
    have hz2 := hbel2.size
    have key := adh_any w.heap.size n _ zs s _ hown1' (by omega) (by omega) hs
    rw [hdec] at key
    simp only [List.append_nil, List.length_nil, Nat.add_zero] at key
    have KEY := hide key
    clear key
    go_wp2_with fail
    refine KEY.out.mono ?_
    rintro e w3 ⟨v3, rfl, hown3, hg3⟩
    have hown2' := keep_ne hown1 hown2 hg3
    obtain ⟨a3, c3, rfl, hrow3⟩ := owns_row hown3
    obtain ⟨a2, c2, rfl, hrow2⟩ := owns_row hown2'
    have hbel : Below w.heap.size w w3 := (hbel1.trans (hbel2.mono hz)).grown hg3 (by omega) (fun k hk => (hown1.lt k hk).1)
    clear KEY
    go_wp2_with fail
    refine (equal_any _ _ _ _ _ _ zs _ hrow3 hrow2 (by omega)).mono ?_
    rintro e w4 ⟨rfl, q, rfl⟩
    go_wp2
    go_ret
    exact ⟨rfl, below_drewN hbel q⟩

set_option maxHeartbeats 1000000 in
set_option maxRecDepth 1000000 in
theorem law1_even (a : Option Addr) (n cap : Nat) (s : ByteArray) (zs : List Int) (w : World) (h : RowIn w a n cap zs) (hn : n ≤ 524288) (hs : s.size ≤ 524288) (he : (s.size : Int) % 2 = 0) :
    Calls Try.prog 3 #[.slice a n cap, .string s] w fun e w' => e = .returned (.bool true) ∧ Below w.heap.size w w' := by
  have HDEC : Hid (decode s = decN (pr s) 0 (s.size / 2)) := by unfold Hid decode; rw [if_pos (by omega)]
  obtain ⟨D, HD⟩ : ∃ D, Hid (decode s = D) := ⟨_, rfl⟩
  obtain ⟨i0, hi, hz0, hz1, hz3⟩ := info_parts Try.info5
  go_enter Try.func3, Try.ntmps3
  go_wp2_with fail
  refine (bytes5 _ _ _ _ _ (by unfold maxLen; omega) (by unfold maxLen; omega)).mono ?_
  rintro e w' ⟨b, rfl, rfl⟩
  cases b
  · go_wp2
    go_ret
    exact ⟨rfl, Below.refl _ _⟩
  · go_wp2_with fail
    refine (copy_any a n cap zs _ h hn).mono ?_
    rintro e w1 ⟨v1, rfl, hown1, hbel1⟩
    obtain ⟨a1, c1, rfl, hrow1⟩ := owns_row hown1
    go_wp2_with fail
    refine (copy_any a1 n c1 zs _ hrow1 hn).mono ?_
    rintro e w2 ⟨v2, rfl, hown2, hbel2⟩
    have hz := hbel1.size
    have hz2 := hbel2.size
    go_wp2_with fail
    have hN1 : 2 * (s.size / 2) ≤ s.size := by omega
    have hN2 : s.size ≤ 2 * (s.size / 2) := by omega
    clear he
    go_loopw [5, 6, 7] (fun d t i wr => ∃ (k m : Nat) (acc : List Int), 2 * k ≤ s.size ∧ i = .int .i64 (2 * (k : Int)) ∧ t = .bool true ∧ m = n + k ∧ wr.ownsRow w1.heap.size 5 1 d m (U (zs ++ acc)) ∧ Below w1.heap.size w1 wr ∧ acc.length = k ∧ acc ++ (decN (pr s) k (s.size / 2 - k)).1 = D.1 ∧ (decN (pr s) k (s.size / 2 - k)).2 = D.2) (fun _ _ i _ => s.size - (intOf i).toNat)
    case atStart => exact ⟨0, n, [], by omega, rfl, rfl, rfl, by simpa using hown2, hbel2, rfl, by simp [← HD.out, HDEC.out], by simp [← HD.out, HDEC.out]⟩
    case round =>
      obtain ⟨k, m, acc, hk, rfl, rfl, hm, hown, hbel, hal, hd1, hd2⟩ := hrel
      have HM := hide hm
      have HL := hide hal
      have H1 := hide hd1
      have H2 := hide hd2
      have hmb : m ≤ 2000000 := by omega
      have hwr := hbel.size
      have hown1' := owns_below hown1 hbel
      clear hm hal hd1 hd2 hown2 hbel2 hrow1 h
      by_cases hlt : 2 * k < s.size
      · have hlt1 : 2 * k + 1 < s.size := by omega
        have hi0 : (2 * (k : Int)) < (s.size : Int) := by omega
        have hi1 : (2 * (k : Int) + 1) < (s.size : Int) := by omega
        have hi00 : (0 : Int) ≤ 2 * (k : Int) := by omega
        have hi10 : (0 : Int) ≤ 2 * (k : Int) + 1 := by omega
        have PR := hide (pr_eq s k hlt hlt1)
        cases ha : spell (s[2 * k].toNat : Int) (s[2 * k + 1].toNat : Int) with
        | none =>
          have F := hide (dec_stop (f := pr s) (k := k) (N := s.size / 2) (by omega) (PR.out.trans ha) H1.out H2.out)
          go_wp2_with fail
          go_quiet ((go_at_call 7; exact Calls.quiet_of_same (spelled7 _ _ _)))
          go_wp2_with fail
          refine (adh_any w.heap.size n _ zs s _ (show (wr.drewN nq).ownsRow w.heap.size 5 1 _ n (U zs) from hown1') (by first | omega | (simp; omega)) (by omega) hs).mono ?_
          rintro e w3 ⟨v3, rfl, hown3, hg3⟩
          have hown2' := keep_ne hown1 (show (wr.drewN nq).ownsRow w1.heap.size 5 1 u5 m (U (zs ++ acc)) from hown) hg3
          rw [HD.out, F.out.1] at hown3
          obtain ⟨a3, c3, rfl, hrow3⟩ := owns_row hown3
          obtain ⟨a2, c2, rfl, hrow2⟩ := owns_row hown2'
          have hbelw : Below w.heap.size w w3 := (below_drewN (hbel1.trans (hbel.mono hz)) nq).grown hg3 (by first | omega | (simp; omega)) (fun k hk => (hown1.lt k hk).1)
          have hd2 := F.out.2
          rw [HD.out, hd2]
          go_wp2_with fail
          refine (equal_any _ _ _ _ _ _ (zs ++ acc) _ hrow3 hrow2 (by rw [HL.out]; omega)).mono ?_
          rintro e w4 ⟨rfl, q, rfl⟩
          go_wp2
          go_ret
          exact ⟨rfl, below_drewN hbelw q⟩
        | some z =>
          have F := hide (dec_step (f := pr s) (k := k) (N := s.size / 2) (by omega) (PR.out.trans ha) H1.out H2.out)
          go_wp2_with fail
          go_quiet ((go_at_call 7; exact Calls.quiet_of_same (spelled7 _ _ _)))
          go_wp2_with (at_builtin; refine wpList_append_own _ rfl (.tmp 50) (.tmp 52) 22 rfl w1.heap.size 5 i0 (.int .u8 0) 1 1 Try.underlying22 hi hz0 hz1 hz3 rfl (by decide) _ _ _ rfl (World.ownsRow.alloc (w := wr.drewN nq) hown _) ⟨wr.heap.size, 0, none⟩ 1 1 [.int .u8 z] rfl rfl ?c1 ?c2 ?c3 ?c4 ?c5 ?_)
          case c1 => exact (cell_one_new _ _ _)
          case c2 => intro u hu; simp at hu; subst hu; rfl
          case c3 => unfold maxLen; omega
          case c4 => omega
          case c5 => simp; omega
          · intro v' w3 hown' hgrow _
            have B1 := hide (((below_drewN hbel nq).alloc (by simp; omega) _).grown hgrow (by simp; omega) (fun k hk => (hown.lt k hk).1))
            have O1 : Hid (w3.ownsRow w1.heap.size 5 1 v' (m + 1) (U (zs ++ (acc ++ [z])))) := by
              rw [← List.append_assoc, U_append]; exact hown'
            clear hown' hgrow hown hbel
            go_wp2
            go_roundw
            case rel => exact ⟨k + 1, m + 1, acc ++ [z], by omega, by go_num, rfl, by rw [HM.out]; omega, O1.out, B1.out, by rw [List.length_append, HL.out]; rfl, F.out.1, F.out.2⟩
            case measure => simp [intOf]; omega
      · have F := hide (dec_end (f := pr s) (k := k) (N := s.size / 2) (by omega) H1.out H2.out)
        go_wp2_with fail
        refine (adh_any w.heap.size n _ zs s _ (show (wr).ownsRow w.heap.size 5 1 _ n (U zs) from hown1') (by first | omega | (simp; omega)) (by omega) hs).mono ?_
        rintro e w3 ⟨v3, rfl, hown3, hg3⟩
        have hown2' := keep_ne hown1 (show (wr).ownsRow w1.heap.size 5 1 u5 m (U (zs ++ acc)) from hown) hg3
        rw [HD.out, F.out.1] at hown3
        obtain ⟨a3, c3, rfl, hrow3⟩ := owns_row hown3
        obtain ⟨a2, c2, rfl, hrow2⟩ := owns_row hown2'
        have hbelw : Below w.heap.size w w3 := (hbel1.trans (hbel.mono hz)).grown hg3 (by first | omega | (simp; omega)) (fun k hk => (hown1.lt k hk).1)
        have hd2 := F.out.2
        rw [HD.out, hd2]
        go_wp2_with fail
        refine (equal_any _ _ _ _ _ _ (zs ++ acc) _ hrow3 hrow2 (by rw [HL.out]; omega)).mono ?_
        rintro e w4 ⟨rfl, q, rfl⟩
        go_wp2
        go_ret
        exact ⟨rfl, below_drewN hbelw q⟩

/-- A row that came in, as the walks read it. -/
theorem rowIn_some {w : World} {x : Addr} {len cap : Nat} {zs : List Int} (hl : len ≤ cap) (hz : zs.length = cap) (hc : ∀ i, i < zs.length → w.cell? (x.add i) = some (.int .u8 (zs.getD i 0))) : RowIn w (some x) len cap (zs.take len) := by
  by_cases h0 : len = 0
  · exact .inr (.inl ⟨x, rfl, h0, by simp [h0]⟩)
  · obtain ⟨b, off, spot⟩ := x
    have hspot : spot = none := by simpa [Addr.add] using World.cell?_spot (hc 0 (by omega))
    subst hspot
    refine .inr (.inr ⟨b, off, rfl, by rw [List.length_take]; omega, ?_, fun j hj => ?_⟩)
    · have := block_lt_of_cell (hc 0 (by omega)); simpa [Addr.add] using this
    · have := hc j (by omega)
      rw [Addr.add_lit] at this
      rw [this, List.getD_eq_getElem?_getD, List.getD_eq_getElem?_getD, List.getElem?_take_of_lt hj]
theorem law1_any (a : Option Addr) (n cap : Nat) (s : ByteArray) (zs : List Int) (w : World) (h : RowIn w a n cap zs) (hn : n ≤ maxLen) (hs : s.size ≤ maxLen) :
    Calls Try.prog 3 #[.slice a n cap, .string s] w fun e w' => e = .returned (.bool true) ∧ Below w.heap.size w w' := by
  by_cases hbig : 524288 < n ∨ 524288 < s.size
  · exact law1_big a n cap s w hn hs hbig
  · by_cases he : s.size % 2 = 0
    · exact law1_even a n cap s zs w h (by omega) (by omega) (by omega)
    · exact law1_odd a n cap s zs w h (by omega) (by omega) (by omega)

end Go.Proofs.Qxb6627997a
