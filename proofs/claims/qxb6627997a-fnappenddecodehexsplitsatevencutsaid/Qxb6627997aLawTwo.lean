import Derived.Test.Qxb6627997aLawOne
import Derived.Test.Qxb6627997aHex
import Derived.Deep.RegionWith
namespace Go.Proofs.Qxb6627997a
open Go.RowKit

theorem byteAt_extract (s : ByteArray) (i j t : Nat) (h : t < j - i) (_hj : j ≤ s.size) : byteAt (s.extract i j) t = byteAt s (i + t) := by
  unfold byteAt
  simp only [ByteArray.data_extract, Array.toList_extract, List.extract_eq_take_drop, List.getD_eq_getElem?_getD]
  rw [List.getElem?_take_of_lt h, List.getElem?_drop]
theorem size_extract (s : ByteArray) (i j : Nat) (hj : j ≤ s.size) : (s.extract i j).size = j - i := by
  simp [ByteArray.size_extract]; omega
/-- The cut at an even place. -/
theorem decode_left (s : ByteArray) (k : Nat) (hk : k ≤ s.size) (h2 : k % 2 = 0) : decode (s.extract 0 k) = decN (pr s) 0 (k / 2) := by
  unfold decode
  rw [size_extract s 0 k hk, if_pos (by omega), Nat.sub_zero]
  refine (decN_congr (f := pr (s.extract 0 k)) (g := pr s) _ 0 0 fun j _ hj => ?_).trans (by simp)
  unfold pr
  rw [byteAt_extract s 0 k _ (by omega) hk, byteAt_extract s 0 k _ (by omega) hk]
  simp
theorem decode_right (s : ByteArray) (k : Nat) (hk : k ≤ s.size) (h2 : k % 2 = 0) (he : s.size % 2 = 0) : decode (s.extract k s.size) = decN (pr s) (k / 2) (s.size / 2 - k / 2) := by
  unfold decode
  rw [size_extract s k s.size (Nat.le_refl _), if_pos (by omega), show (s.size - k) / 2 = s.size / 2 - k / 2 by omega]
  refine (decN_congr (f := pr (s.extract k s.size)) (g := pr s) _ 0 (k / 2) fun j _ hj => ?_).trans (by simp)
  unfold pr
  rw [byteAt_extract s k s.size _ (by omega) (Nat.le_refl _), byteAt_extract s k s.size _ (by omega) (Nat.le_refl _), show k + 2 * j = 2 * (k / 2 + j) by omega, show k + (2 * j + 1) = 2 * (k / 2 + j) + 1 by omega]
theorem decode_split (s : ByteArray) (k : Nat) (hk : k ≤ s.size) (h2 : k % 2 = 0) (he : s.size % 2 = 0) :
    decode s = if (decode (s.extract 0 k)).2 then ((decode (s.extract 0 k)).1 ++ (decode (s.extract k s.size)).1, (decode (s.extract k s.size)).2) else decode (s.extract 0 k) := by
  rw [decode_left s k hk h2, decode_right s k hk h2 he]
  have := decN_add (pr s) (k / 2) 0 (s.size / 2 - k / 2)
  rw [show k / 2 + (s.size / 2 - k / 2) = s.size / 2 by omega, Nat.zero_add] at this
  rw [← this]
  unfold decode; rw [if_pos he]
theorem decode_full {s : ByteArray} (h : (decode s).2 = true) : (decode s).1.length = s.size / 2 := by
  unfold decode at h ⊢
  split at h
  · rw [if_pos ‹_›]; exact (decN_len (pr s) (s.size / 2) 0).2 h
  · simp at h
theorem RowIn.drewN {w : World} {a : Option Addr} {len cap : Nat} {zs : List Int} (h : RowIn w a len cap zs) (q : Nat) : RowIn (w.drewN q) a len cap zs := h.below (below_drewN (Below.refl _ _) q)
theorem decode_half (s : ByteArray) : (decode s).1.length ≤ s.size / 2 := by
  unfold decode
  split
  · exact (decN_len (pr s) (s.size / 2) 0).1
  · simp

set_option maxHeartbeats 400000 in
theorem law2_big (a : Option Addr) (n cap : Nat) (s : ByteArray) (k : Int) (w : World) (hn : n ≤ maxLen) (hs : s.size ≤ maxLen) (hbig : 524288 < n ∨ 524288 < s.size) :
    Calls Try.prog 4 #[.slice a n cap, .string s, .int .i64 k] w fun e w' => e = .returned (.bool true) ∧ Below w.heap.size w w' := by
  by_cases h1 : 524288 < n
  · go_enter Try.func4, Try.ntmps4
    go_wp2_with fail
    refine (bytes10 _ _ _ _ _ _ hn hs).mono ?_
    rintro e w' ⟨b, rfl, rfl⟩
    cases b
    all_goals
      go_wp2
      go_ret
      exact ⟨rfl, Below.refl _ _⟩
  · have h2 : 524288 < s.size := by omega
    clear hbig
    go_enter Try.func4, Try.ntmps4
    go_wp2_with fail
    refine (bytes10 _ _ _ _ _ _ hn hs).mono ?_
    rintro e w' ⟨b, rfl, rfl⟩
    cases b
    all_goals
      go_wp2
      go_ret
      exact ⟨rfl, Below.refl _ _⟩

set_option maxHeartbeats 400000 in
theorem law2_out (a : Option Addr) (n cap : Nat) (s : ByteArray) (k : Int) (w : World) (hn : n ≤ 524288) (hs : s.size ≤ 524288) (hout : k < 0 ∨ (s.size : Int) < k ∨ (0 ≤ k ∧ k ≤ s.size ∧ k % 2 = 1)) :
    Calls Try.prog 4 #[.slice a n cap, .string s, .int .i64 k] w fun e w' => e = .returned (.bool true) ∧ Below w.heap.size w w' := by
  have hn' : n ≤ maxLen := by unfold maxLen; omega
  have hs' : s.size ≤ maxLen := by unfold maxLen; omega
  rcases hout with h1 | h1 | ⟨h1, h2, h3⟩
  · go_enter Try.func4, Try.ntmps4
    go_wp2_with fail
    refine (bytes10 _ _ _ _ _ _ hn' hs').mono ?_
    rintro e w' ⟨b, rfl, rfl⟩
    cases b
    all_goals
      go_wp2
      go_ret
      exact ⟨rfl, Below.refl _ _⟩
  · have h0 : 0 ≤ k := by omega
    go_enter Try.func4, Try.ntmps4
    go_wp2_with fail
    refine (bytes10 _ _ _ _ _ _ hn' hs').mono ?_
    rintro e w' ⟨b, rfl, rfl⟩
    cases b
    all_goals
      go_wp2
      go_ret
      exact ⟨rfl, Below.refl _ _⟩
  · go_enter Try.func4, Try.ntmps4
    go_wp2_with fail
    refine (bytes10 _ _ _ _ _ _ hn' hs').mono ?_
    rintro e w' ⟨b, rfl, rfl⟩
    cases b
    all_goals
      go_wp2
      go_ret
      exact ⟨rfl, Below.refl _ _⟩

set_option maxHeartbeats 1000000 in
theorem law2_odd (a : Option Addr) (n cap : Nat) (s : ByteArray) (zs : List Int) (k : Nat) (w : World) (h : RowIn w a n cap zs) (hn : n ≤ 524288) (hs : s.size ≤ 524288) (hk : k ≤ s.size) (hk2 : (k : Int) % 2 = 0) (ho : (s.size : Int) % 2 = 1) :
    Calls Try.prog 4 #[.slice a n cap, .string s, .int .i64 k] w fun e w' => e = .returned (.bool true) ∧ Below w.heap.size w w' := by
  have hdec : decode s = ([], false) := by unfold decode; rw [if_neg (by omega)]
  have hk0 : (0 : Int) ≤ (k : Int) := by omega
  have hk1 : (k : Int) ≤ (s.size : Int) := by omega
  go_enter Try.func4, Try.ntmps4
  go_wp2_with fail
  refine (bytes10 _ _ _ _ _ _ (by unfold maxLen; omega) (by unfold maxLen; omega)).mono ?_
  rintro e w' ⟨b, rfl, rfl⟩
  cases b
  · go_wp2
    go_ret
    exact ⟨rfl, Below.refl _ _⟩
  · go_wp2_with fail
    refine (copy_any a n cap zs _ h hn).mono ?_
    rintro e w1 ⟨v1, rfl, hown1, hbel1⟩
    obtain ⟨a1, c1, rfl, hrow1⟩ := owns_row hown1
    go_wp2_with fail
    refine (copy_any a1 n c1 zs _ hrow1 hn).mono ?_
    rintro e w2 ⟨v2, rfl, hown2, hbel2⟩
    have hrow1' := hrow1.below hbel2
    go_wp2_with fail
    refine (copy_any a1 n c1 zs _ hrow1' hn).mono ?_
    rintro e w3 ⟨v3, rfl, hown3, hbel3⟩
    go_wp2_with fail
    have hsz1 := hbel1.size
    have hsz2 := hbel2.size
    have hsz3 := hbel3.size
    have key := adh_any w2.heap.size n _ zs s _ hown3 (by omega) (by omega) hs
    rw [hdec] at key
    simp only [List.append_nil, List.length_nil, Nat.add_zero] at key
    refine key.mono ?_
    rintro e w4 ⟨v4, rfl, hown4, hg4⟩
    have hbel4 : Below w2.heap.size w2 w4 := hbel3.grown hg4 (by omega) (fun k hk => (hown3.lt k hk).1)
    have hsz4 := hbel4.size
    have hrow1'' := hrow1'.below hbel4
    clear key
    go_wp2_with fail
    go_region_with (first
      | (go_at_call 6; refine (copy_any a1 n c1 zs _ ?_ hn).mono ?_; exact hrow1''; rintro e w5 ⟨v5, rfl, hown5, hbel5⟩)
      | (go_at_call 8; refine (adh_any w4.heap.size n _ zs _ _ (by assumption) ?_ ?_ ?_).mono ?_; (have := hbel5.size; simp at this; omega); omega; (rw [size_extract s 0 k hk]; omega); rintro e w6 ⟨v6, rfl, hown6, hg6⟩))
    have hbel5' : Below w4.heap.size w4 w5 := (Below.refl _ w4).drew.trans hbel5
    have hbel6 : Below w4.heap.size w4 w6 := hbel5'.grown hg6 hbel5'.size (fun k hk => (hown5.lt k hk).1)
    have hown4' := owns_below hown4 hbel6
    have hown2' := owns_below hown2 (hbel4.trans (hbel6.mono hsz4))
    obtain ⟨a4, c4, rfl, hrow4⟩ := owns_row hown4'
    obtain ⟨a2, c2, rfl, hrow2⟩ := owns_row hown2'
    have B6 := hide ((hbel1.trans (hbel2.mono hsz1)).trans ((hbel4.trans (hbel6.mono hsz4)).mono (by omega)))
    clear hbel1 hbel2 hbel3 hbel4 hbel5 hbel5' hbel6 hown1 hown2 hown3 hown5 hg4 hg6 hown6
    go_wp2_with fail
    refine (prefix_any _ _ _ _ _ _ [] zs _ (by simpa using hrow4) hrow2 (by omega)).mono ?_
    rintro e w7 ⟨rfl, q, rfl⟩
    go_wp2_with fail
    refine (equal_any _ _ _ _ _ _ zs _ (hrow4.drewN q) (hrow2.drewN q) (by omega)).mono ?_
    rintro e w8 ⟨rfl, q', rfl⟩
    go_wp2
    go_ret
    exact ⟨rfl, below_drewN B6.out (q + q')⟩

set_option maxHeartbeats 1000000 in
theorem law2_even (a : Option Addr) (n cap : Nat) (s : ByteArray) (zs : List Int) (k : Nat) (w : World) (h : RowIn w a n cap zs) (hn : n ≤ 524288) (hs : s.size ≤ 524288) (hk : k ≤ s.size) (hk2 : (k : Int) % 2 = 0) (he : (s.size : Int) % 2 = 0) :
    Calls Try.prog 4 #[.slice a n cap, .string s, .int .i64 k] w fun e w' => e = .returned (.bool true) ∧ Below w.heap.size w w' := by
  have hk0 : (0 : Int) ≤ (k : Int) := by omega
  have hk1 : (k : Int) ≤ (s.size : Int) := by omega
  have hok : allHex s = (decode s).2 := (decode_ok (by omega)).symm
  have hsp := decode_split s k hk (by omega) (by omega)
  have hfull := fun e => decode_full (s := s) e
  have hl1 := decode_half (s.extract 0 k)
  rw [size_extract s 0 k hk] at hl1
  obtain ⟨D, HD⟩ : ∃ D, Hid (decode s = D) := ⟨_, rfl⟩
  obtain ⟨D1, HD1⟩ : ∃ D, Hid (decode (s.extract 0 k) = D) := ⟨_, rfl⟩
  obtain ⟨D2, HD2⟩ : ∃ D, Hid (decode (s.extract k s.size) = D) := ⟨_, rfl⟩
  have hl0 := decode_half s
  rw [HD.out] at hok hsp hfull hl0
  rw [HD1.out, HD2.out] at hsp
  rw [HD1.out] at hl1
  have HSP := hide hsp
  have HF := hide hfull
  clear hsp hfull
  go_enter Try.func4, Try.ntmps4
  go_wp2_with fail
  refine (bytes10 _ _ _ _ _ _ (by unfold maxLen; omega) (by unfold maxLen; omega)).mono ?_
  rintro e w' ⟨b, rfl, rfl⟩
  cases b
  · go_wp2
    go_ret
    exact ⟨rfl, Below.refl _ _⟩
  · go_wp2_with fail
    refine (copy_any a n cap zs _ h hn).mono ?_
    rintro e w1 ⟨v1, rfl, hown1, hbel1⟩
    obtain ⟨a1, c1, rfl, hrow1⟩ := owns_row hown1
    go_wp2_with fail
    refine (copy_any a1 n c1 zs _ hrow1 hn).mono ?_
    rintro e w2 ⟨v2, rfl, hown2, hbel2⟩
    have hrow1' := hrow1.below hbel2
    go_wp2_with fail
    refine (all11 _ _ hs).mono ?_
    rintro e w' ⟨rfl, rfl⟩
    go_wp2_with fail
    refine (copy_any a1 n c1 zs _ hrow1' hn).mono ?_
    rintro e w3 ⟨v3, rfl, hown3, hbel3⟩
    go_wp2_with fail
    have hsz1 := hbel1.size
    have hsz2 := hbel2.size
    have hsz3 := hbel3.size
    refine (adh_any w2.heap.size n _ zs s _ hown3 (by omega) (by omega) hs).mono ?_
    rintro e w4 ⟨v4, rfl, hown4, hg4⟩
    rw [HD.out] at hown4 ⊢
    have hbel4 : Below w2.heap.size w2 w4 := hbel3.grown hg4 (by omega) (fun k hk => (hown3.lt k hk).1)
    have hsz4 := hbel4.size
    have hrow1'' := hrow1'.below hbel4
    go_wp2_with fail
    go_region_with (first
      | (go_at_call 6; refine (copy_any a1 n c1 zs _ ?_ hn).mono ?_; exact hrow1''; rintro e w5 ⟨v5, rfl, hown5, hbel5⟩)
      | (go_at_call 8; refine (adh_any w4.heap.size n _ zs _ _ (by assumption) ?_ ?_ ?_).mono ?_; (have := hbel5.size; simp at this; omega); omega; (rw [size_extract s 0 k hk]; omega); rintro e w6 ⟨v6, rfl, hown6, hg6⟩))
    rw [HD1.out] at hown6 ⊢
    have hbel5' : Below w4.heap.size w4 w5 := (Below.refl _ w4).drew.trans hbel5
    have hbel6 : Below w4.heap.size w4 w6 := hbel5'.grown hg6 hbel5'.size (fun k hk => (hown5.lt k hk).1)
    have hsz6 := hbel6.size
    have hown4' := owns_below hown4 hbel6
    have hown2' := owns_below hown2 (hbel4.trans (hbel6.mono hsz4))
    obtain ⟨a4, c4, rfl, hrow4⟩ := owns_row hown4'
    obtain ⟨a2, c2, rfl, hrow2⟩ := owns_row hown2'
    have B6 := hide ((hbel1.trans (hbel2.mono hsz1)).trans ((hbel4.trans (hbel6.mono hsz4)).mono (by omega)))
    have hle : w.heap.size ≤ w4.heap.size := by omega
    have H6 := hide hbel6
    clear hbel1 hbel2 hbel3 hbel4 hbel5 hbel5' hbel6 hown1 hown2 hown3 hown5 hg4 hg6 hown4' hown2' hrow1 hrow1' hrow1'' h
    go_wp2_with fail
    refine (prefix_any _ _ _ _ _ _ D.1 zs _ hrow4 hrow2 (by omega)).mono ?_
    rintro e w7 ⟨rfl, q, rfl⟩
    obtain ⟨dl, db⟩ := D
    obtain ⟨d1, b1⟩ := D1
    obtain ⟨d2, b2⟩ := D2
    simp only at hok hl1 hl0 hown6 hrow4 hown4 ⊢
    cases b1
    · have e := HSP.out
      simp only [Bool.false_eq_true, if_false, Prod.mk.injEq] at e
      obtain ⟨rfl, rfl⟩ := e
      obtain ⟨a6, c6, rfl, hrow6⟩ := owns_row hown6
      clear hown6 hown4
      go_wp2_with fail
      refine (equal_any _ _ _ _ _ _ (zs ++ dl) _ (hrow4.drewN q) (hrow6.drewN q) (by omega)).mono ?_
      rintro e w8 ⟨rfl, q', rfl⟩
      go_wp2
      go_ret
      exact ⟨rfl, below_drewN B6.out (q + q')⟩
    · have e := HSP.out
      simp only [if_true, Prod.mk.injEq] at e
      obtain ⟨rfl, rfl⟩ := e
      simp only [List.length_append] at hl0 hrow4 hown4
      have key := fun W hw hb => adh_any w4.heap.size (n + d1.length) v6 (zs ++ d1) (s.extract k s.size) W hw hb (by omega) (by rw [size_extract s k s.size (Nat.le_refl _)]; omega)
      rw [HD2.out] at key
      have KEY := hide key
      clear key
      cases db
      all_goals
        first
          | (have hlen := HF.out rfl
             have hg1 : s.size / 2 ≤ d1.length + d2.length := by simp only [List.length_append] at hlen; omega
             clear hlen)
          | skip
        go_wp2_with fail
        refine (KEY.out (w6.drewN q) hown6 (by simp; omega)).mono ?_
        rintro e w8 ⟨v8, rfl, hown8, hg8⟩
        have hbel8 := (below_drewN H6.out q).grown hg8 (by simp; omega) (fun k hk => (hown6.lt k hk).1)
        have hown4'' := owns_below hown4 hbel8
        obtain ⟨a8, c8, rfl, hrow8⟩ := owns_row hown8
        obtain ⟨a4', c4', e4, hrow4'⟩ := owns_row hown4''
        obtain ⟨rfl, rfl⟩ : a4 = a4' ∧ c4 = c4' := by simpa using e4
        have hbelw := (below_drewN B6.out q).grown hg8 (by simp; omega) (fun k hk => Nat.le_trans hle (hown6.lt k hk).1)
        clear KEY hown4 hown4'' hown8 hown6 hrow4 hbel8 hg8 e4
        go_wp2_with fail
        refine (equal_any _ _ _ _ _ _ (zs ++ (d1 ++ d2)) _ hrow4' (by rw [← List.append_assoc]; exact hrow8) (by omega)).mono ?_
        rintro e w9 ⟨rfl, q', rfl⟩
        go_wp2
        go_ret
        exact ⟨rfl, below_drewN hbelw q'⟩

theorem law2_any (a : Option Addr) (n cap : Nat) (s : ByteArray) (zs : List Int) (k : Int) (w : World) (h : RowIn w a n cap zs) (hn : n ≤ maxLen) (hs : s.size ≤ maxLen) :
    Calls Try.prog 4 #[.slice a n cap, .string s, .int .i64 k] w fun e w' => e = .returned (.bool true) ∧ Below w.heap.size w w' := by
  by_cases hbig : 524288 < n ∨ 524288 < s.size
  · exact law2_big a n cap s k w hn hs hbig
  · by_cases hout : k < 0 ∨ (s.size : Int) < k ∨ (0 ≤ k ∧ k ≤ s.size ∧ k % 2 = 1)
    · exact law2_out a n cap s k w (by omega) (by omega) hout
    · obtain ⟨kn, rfl⟩ := Int.eq_ofNat_of_zero_le (show 0 ≤ k by omega)
      by_cases he : s.size % 2 = 0
      · exact law2_even a n cap s zs kn w h (by omega) (by omega) (by omega) (by omega) (by omega)
      · exact law2_odd a n cap s zs kn w h (by omega) (by omega) (by omega) (by omega) (by omega)

end Go.Proofs.Qxb6627997a
