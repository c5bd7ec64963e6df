import Derived.Test.Qxb6628570aIdx
namespace Go.Proofs.Qxb6628570a
open Go.RowKit

theorem owns_col {w : World} {base n g cap : Nat} {L : List Col} (h : w.ownsRow base 34 4 (.slice (some ⟨g, 0, none⟩) n cap) n (CC L)) : ColIn w (some ⟨g, 0, none⟩) n cap L := by
  have hl : L.length = n := by have := h.1; rw [CC_len] at this; omega
  have hb : g < w.heap.size := (h.lt g rfl).2
  have hcap : n ≤ cap := by
    rcases h.2 with ⟨h', _⟩ | ⟨g', cap', cur, h', _, _, hnc, _⟩
    · simp at h'
    · simp only [Value.slice.injEq, Option.some.injEq, Addr.mk.injEq, and_true, true_and] at h'
      obtain ⟨_, rfl⟩ := h'
      exact hnc
  refine .inr ⟨g, 0, rfl, hl, hb, hcap, fun j hj => ?_⟩
  have e : ∀ t, t < 4 → w.cell? ⟨g, 0 + j * 4 + t, none⟩ = (cc (col L j))[t]? := fun t ht => by
    rw [Nat.zero_add, h.cellAt (j * 4 + t) (by omega), CC_get L j t (by omega) ht]
  exact ⟨e 0 (by omega), e 1 (by omega), e 2 (by omega), e 3 (by omega)⟩
theorem ColIn.take {w : World} {g n cap : Nat} {L : List Col} (h : ColIn w (some ⟨g, 0, none⟩) n cap L) (k : Nat) (hk : k ≤ n) : ColIn w (some ⟨g, 0, none⟩) k cap (L.take k) := by
  rcases h with ⟨h0, rfl⟩ | ⟨b, off, e, h2, h3, h5, h4⟩
  · exact .inl ⟨by omega, by simp⟩
  · obtain ⟨rfl, rfl⟩ : g = b ∧ 0 = off := by simpa using e
    refine .inr ⟨g, 0, rfl, by rw [List.length_take]; omega, h3, by omega, fun j hj => ?_⟩
    have : col (L.take k) j = col L j := by simp [col, List.getElem?_take_of_lt hj]
    rw [this]; exact h4 j (by omega)
theorem ColIn.drop {w : World} {g n cap : Nat} {L : List Col} (h : ColIn w (some ⟨g, 0, none⟩) n cap L) (k : Nat) (hk : k < n) : ColIn w (some ⟨g, k * 4, none⟩) (n - k) (cap - k) (L.drop k) := by
  rcases h with ⟨h0, rfl⟩ | ⟨b, off, e, h2, h3, h5, h4⟩
  · omega
  · obtain ⟨rfl, rfl⟩ : g = b ∧ 0 = off := by simpa using e
    refine .inr ⟨g, k * 4, rfl, by rw [List.length_drop]; omega, h3, by omega, fun j hj => ?_⟩
    have : col (L.drop k) j = col L (k + j) := by simp [col]
    rw [this]
    have := h4 (k + j) (by omega)
    rw [Nat.zero_add, show (k + j) * 4 = k * 4 + j * 4 by omega] at this
    exact this

/-! ### What the two parts say of the whole -/
theorem cut_some {nm : ByteArray} {L : List Col} {k a : Nat} (h : fi nm (L.take k) = some a) : fi nm L = some a := by
  have := fi_append nm (L.take k) (L.drop k)
  rw [List.take_append_drop, h] at this
  exact this
theorem cut_none {nm : ByteArray} {L : List Col} {k : Nat} (hk : k ≤ L.length) (h : fi nm (L.take k) = none) : fi nm L = (fi nm (L.drop k)).map (k + ·) := by
  have := fi_append nm (L.take k) (L.drop k)
  rw [List.take_append_drop, h, List.length_take, Nat.min_eq_left hk] at this
  exact this
theorem take_lt {nm : ByteArray} {L : List Col} {k a : Nat} (h : fi nm (L.take k) = some a) : a < k := by
  have := (fi_some h).1
  rw [List.length_take] at this
  omega
theorem drop_hit {nm : ByteArray} {L : List Col} {k : Nat} (hk : k < L.length) (h : hit nm (col L k) = true) : fi nm (L.drop k) = some 0 := by
  rw [List.drop_eq_getElem_cons hk]
  apply fi_first
  have : L[k] = col L k := by simp [col, hk]
  rw [this]; exact h

set_option maxHeartbeats 400000 in
theorem law1_early (a : Option Addr) (n c : Nat) (L : List Col) (nm : ByteArray) (k : Int) (w : World) (hin : ColIn w a n c L) (hout : 65536 < n ∨ 65536 < nm.size ∨ k < 0 ∨ (n : Int) < k) :
    Calls Try.prog 3 #[.slice a n c, .string nm, .int .i64 k] w fun e w' => e = .returned (.bool true) ∧ Below w.heap.size w w' := by
  by_cases h1 : 65536 < n
  · clear hout
    go_enter Try.func3, Try.ntmps3
    go_wp2_with fail
    refine (bytes5 a n c L nm k _ hin).mono ?_
    rintro e w' ⟨⟨b, rfl⟩, rfl⟩
    cases b
    all_goals
      go_wp2
      go_ret
      exact ⟨rfl, Below.refl _ _⟩
  · by_cases h2 : 65536 < nm.size
    · clear hout
      go_enter Try.func3, Try.ntmps3
      go_wp2_with fail
      refine (bytes5 a n c L nm k _ hin).mono ?_
      rintro e w' ⟨⟨b, rfl⟩, rfl⟩
      cases b
      all_goals
        go_wp2
        go_ret
        exact ⟨rfl, Below.refl _ _⟩
    · by_cases h3 : k < 0
      · clear hout
        go_enter Try.func3, Try.ntmps3
        go_wp2_with fail
        refine (bytes5 a n c L nm k _ hin).mono ?_
        rintro e w' ⟨⟨b, rfl⟩, rfl⟩
        cases b
        · go_wp2
          go_ret
          exact ⟨rfl, Below.refl _ _⟩
        · go_wp2_with fail
          refine (fit6 a n c L nm _ (by omega) hin).mono ?_
          rintro e w' ⟨⟨b, rfl⟩, rfl⟩
          cases b
          all_goals
            go_wp2
            go_ret
            exact ⟨rfl, Below.refl _ _⟩
      · have h4 : (n : Int) < k := by omega
        clear hout
        go_enter Try.func3, Try.ntmps3
        go_wp2_with fail
        refine (bytes5 a n c L nm k _ hin).mono ?_
        rintro e w' ⟨⟨b, rfl⟩, rfl⟩
        cases b
        · go_wp2
          go_ret
          exact ⟨rfl, Below.refl _ _⟩
        · go_wp2_with fail
          refine (fit6 a n c L nm _ (by omega) hin).mono ?_
          rintro e w' ⟨⟨b, rfl⟩, rfl⟩
          cases b
          all_goals
            go_wp2
            go_ret
            exact ⟨rfl, Below.refl _ _⟩

set_option maxHeartbeats 400000 in
theorem law1_nil (nm : ByteArray) (w : World) (hnm : nm.size ≤ 65536) :
    Calls Try.prog 3 #[.slice none 0 0, .string nm, .int .i64 0] w fun e w' => e = .returned (.bool true) ∧ Below w.heap.size w w' := by
  have hin : ColIn w none 0 0 [] := .inl ⟨rfl, rfl⟩
  have key : ∀ W, Calls Try.prog 8 #[.slice none 0 0, .string nm] W fun e w' => e = .returned (.tuple #[.int .i64 0, .bool false]) ∧ Below W.heap.size W w' := fun W => idx8 none 0 0 [] nm W (by omega) (.inl ⟨rfl, rfl⟩)
  have KEY := hide key
  clear key
  go_enter Try.func3, Try.ntmps3
  go_wp2_with fail
  refine (bytes5 none 0 0 [] nm 0 _ hin).mono ?_
  rintro e w' ⟨⟨b, rfl⟩, rfl⟩
  cases b
  · go_wp2
    go_ret
    exact ⟨rfl, Below.refl _ _⟩
  · go_wp2_with fail
    refine (fit6 none 0 0 [] nm _ (by omega) hin).mono ?_
    rintro e w' ⟨⟨b, rfl⟩, rfl⟩
    cases b
    · go_wp2
      go_ret
      exact ⟨rfl, Below.refl _ _⟩
    · go_wp2_with fail
      refine (to7_nil _).mono ?_
      rintro e w1 ⟨rfl, hw⟩
      obtain rfl : w = w1 := hw.symm
      go_wp2_with fail
      refine (KEY.out _).mono ?_
      rintro e w2 ⟨rfl, hb2⟩
      go_wp2_with fail
      refine (KEY.out _).mono ?_
      rintro e w3 ⟨rfl, hb3⟩
      go_wp2_with fail
      refine (KEY.out _).mono ?_
      rintro e w4 ⟨rfl, hb4⟩
      have HB := hide ((hb2.trans (hb3.mono hb2.size)).trans (hb4.mono (Nat.le_trans hb2.size hb3.size)))
      clear hb2 hb3 hb4 KEY
      go_wp2
      go_ret
      exact ⟨rfl, HB.out⟩

/-- A column of the slice that came in, in a later world. -/
theorem ColIn.name {w w' : World} {x : Addr} {n c : Nat} {L : List Col} (h : ColIn w (some x) n c L) (hb : Below w.heap.size w w') {k : Nat} (hk : k < n) :
    ∃ b off, x = ⟨b, off, none⟩ ∧ w'.cell? ⟨b, off + k * 4, none⟩ = some (.string (col L k).1) := by
  rcases h with ⟨h0, _⟩ | ⟨b, off, e, h2, h3, h5, h4⟩
  · omega
  · exact ⟨b, off, by simpa using e, (hb.cell (p := ⟨b, off + k * 4, none⟩) h3).trans (h4 k hk).1⟩

set_option maxHeartbeats 2000000 in
set_option maxRecDepth 1000000 in
theorem law1_end (x : Addr) (n c : Nat) (L : List Col) (nm : ByteArray) (w : World) (hn : n ≤ 65536) (hnm : nm.size ≤ 65536) (hin : ColIn w (some x) n c L) :
    Calls Try.prog 3 #[.slice (some x) n c, .string nm, .int .i64 n] w fun e w' => e = .returned (.bool true) ∧ Below w.heap.size w w' := by
  have hL := hide hin.len
  have hk0 : (0 : Int) ≤ (n : Int) := by omega
  go_enter Try.func3, Try.ntmps3
  go_wp2_with fail
  refine (bytes5 _ n c L nm _ _ hin).mono ?_
  rintro e w' ⟨⟨b, rfl⟩, rfl⟩
  cases b
  · go_wp2
    go_ret
    exact ⟨rfl, Below.refl _ _⟩
  · go_wp2_with fail
    refine (fit6 _ n c L nm _ (by omega) hin).mono ?_
    rintro e w' ⟨⟨b, rfl⟩, rfl⟩
    cases b
    · go_wp2
      go_ret
      exact ⟨rfl, Below.refl _ _⟩
    · go_wp2_with fail
      refine (to7 x n c L _ (by omega) hin).mono ?_
      rintro e w1 ⟨rfl, hown1, hbel1⟩
      have C1 := hide (owns_col hown1)
      have HB1 := hide hbel1
      have hs1 := hbel1.size
      clear hown1 hbel1
      go_wp2_with fail
      refine (idx8 _ n n L nm _ (by omega) C1.out).mono ?_
      rintro e w2 ⟨rfl, hb2⟩
      have C2 := hide (C1.out.below hb2)
      have HB2 := hide (HB1.out.trans (hb2.mono hs1))
      have hs2 := hb2.size
      clear C1 HB1 hb2
      go_wp2_with fail
      refine (idx8 _ n n L nm _ (by omega) C2.out).mono ?_
      rintro e w3 ⟨rfl, hb3⟩
      have HB3 := hide (HB2.out.trans (hb3.mono (by omega)))
      have hs3 := hb3.size
      clear C2 HB2 hb3
      go_wp2_with fail
      refine (idx8 _ 0 _ [] nm _ (by omega) (.inl ⟨rfl, rfl⟩)).mono ?_
      rintro e w4 ⟨rfl, hb4⟩
      have HB4 := hide (HB3.out.trans (hb4.mono (by omega)))
      clear HB3 hb4
      rw [show fi nm ([] : List Col) = none from rfl]
      cases hT : fi nm L with
      | none =>
        clear hin
        go_wp2
        go_ret
        exact ⟨rfl, HB4.out⟩
      | some i =>
        obtain ⟨hi1, hi2⟩ := fi_some hT
        rw [hL.out] at hi1
        obtain ⟨b, off, rfl, hc⟩ := hin.name HB4.out hi1
        have hi2' : ((col L i).1.toList == nm.toList) = true := hi2
        generalize (col L i).1 = y at hc hi2'
        clear hin hi2
        go_wp2
        go_ret
        exact ⟨rfl, HB4.out⟩

set_option maxHeartbeats 4000000 in
set_option maxRecDepth 1000000 in
theorem law1_mid (x : Addr) (n c : Nat) (L : List Col) (nm : ByteArray) (k : Nat) (w : World) (hn : n ≤ 65536) (hnm : nm.size ≤ 65536) (hin : ColIn w (some x) n c L) (hkn : k < n) :
    Calls Try.prog 3 #[.slice (some x) n c, .string nm, .int .i64 k] w fun e w' => e = .returned (.bool true) ∧ Below w.heap.size w w' := by
  have hL := hide hin.len
  have hk0 : (0 : Int) ≤ (k : Int) := by omega
  have hk1 : (k : Int) < (n : Int) := by omega
  have hnk : ¬ n = k := by omega
  go_enter Try.func3, Try.ntmps3
  go_wp2_with fail
  refine (bytes5 _ n c L nm _ _ hin).mono ?_
  rintro e w' ⟨⟨b, rfl⟩, rfl⟩
  cases b
  · go_wp2
    go_ret
    exact ⟨rfl, Below.refl _ _⟩
  · go_wp2_with fail
    refine (fit6 _ n c L nm _ (by omega) hin).mono ?_
    rintro e w' ⟨⟨b, rfl⟩, rfl⟩
    cases b
    · go_wp2
      go_ret
      exact ⟨rfl, Below.refl _ _⟩
    · go_wp2_with fail
      refine (to7 x n c L _ (by omega) hin).mono ?_
      rintro e w1 ⟨rfl, hown1, hbel1⟩
      have C1 := hide (owns_col hown1)
      have HB1 := hide hbel1
      have hs1 := hbel1.size
      clear hown1 hbel1
      go_wp2_with fail
      refine (idx8 _ n n L nm _ (by omega) C1.out).mono ?_
      rintro e w2 ⟨rfl, hb2⟩
      have C2 := hide (C1.out.below hb2)
      have HB2 := hide (HB1.out.trans (hb2.mono hs1))
      have hs2 := hb2.size
      clear C1 HB1 hb2
      go_wp2_with fail
      refine (idx8 _ k n (L.take k) nm _ (by omega) (C2.out.take k (by omega))).mono ?_
      rintro e w3 ⟨rfl, hb3⟩
      have C3 := hide (C2.out.below hb3)
      have HB3 := hide (HB2.out.trans (hb3.mono (by omega)))
      have hs3 := hb3.size
      clear C2 HB2 hb3
      go_wp2_with fail
      refine (idx8 _ (n - k) (n - k) (L.drop k) nm _ (by omega) (C3.out.drop k hkn)).mono ?_
      rintro e w4 ⟨rfl, hb4⟩
      have HB4 := hide (HB3.out.trans (hb4.mono (by omega)))
      clear HB3 hb4 C3
      obtain ⟨b, off, rfl, hck⟩ := hin.name HB4.out hkn
      have hdh := fun h => drop_hit (nm := nm) (L := L) (k := k) (by rw [hL.out]; exact hkn) h
      have hcn := fun h => cut_none (nm := nm) (L := L) (k := k) (by rw [hL.out]; omega) h
      have hcs := fun a h => cut_some (nm := nm) (L := L) (k := k) (a := a) h
      cases hh : hit nm (col L k)
      · have hh' : ((col L k).1.toList == nm.toList) = false := hh
        generalize (col L k).1 = y at hck hh'
        cases hA : fi nm (L.take k) with
        | some i =>
          have hi0 := take_lt hA
          have hT := hcs i hA
          obtain ⟨hi1, hi2⟩ := fi_some hT
          rw [hL.out] at hi1
          obtain ⟨b', off', e, hc⟩ := hin.name HB4.out hi1
          obtain ⟨rfl, rfl⟩ : b = b' ∧ off = off' := by simpa using e
          have hi2' : ((col L i).1.toList == nm.toList) = true := hi2
          generalize (col L i).1 = y' at hc hi2'
          clear hin hi2 hdh hcn hcs e hh
          go_wp2
          go_ret
          exact ⟨rfl, HB4.out⟩
        | none =>
          cases hB : fi nm (L.drop k) with
          | some i =>
            have hT := hcn hA
            rw [hB] at hT
            simp only [Option.map_some] at hT
            obtain ⟨hi1, hi2⟩ := fi_some hT
            rw [hL.out] at hi1
            obtain ⟨b', off', e, hc⟩ := hin.name HB4.out hi1
            obtain ⟨rfl, rfl⟩ : b = b' ∧ off = off' := by simpa using e
            have hi2' : ((col L (k + i)).1.toList == nm.toList) = true := hi2
            generalize (col L (k + i)).1 = y' at hc hi2'
            clear hin hi2 hdh hcn hcs e hh
            go_wp2
            go_ret
            exact ⟨rfl, HB4.out⟩
          | none =>
            have hT := hcn hA
            rw [hB] at hT
            simp only [Option.map_none] at hT
            clear hin hdh hcn hcs hh
            go_wp2
            go_ret
            exact ⟨rfl, HB4.out⟩
      · have hB := hdh hh
        have hh' : ((col L k).1.toList == nm.toList) = true := hh
        generalize (col L k).1 = y at hck hh'
        cases hA : fi nm (L.take k) with
        | some i =>
          have hi0 := take_lt hA
          have hT := hcs i hA
          obtain ⟨hi1, hi2⟩ := fi_some hT
          rw [hL.out] at hi1
          obtain ⟨b', off', e, hc⟩ := hin.name HB4.out hi1
          obtain ⟨rfl, rfl⟩ : b = b' ∧ off = off' := by simpa using e
          have hi2' : ((col L i).1.toList == nm.toList) = true := hi2
          generalize (col L i).1 = y' at hc hi2'
          clear hin hi2 hdh hcn hcs e hh
          go_wp2
          go_ret
          exact ⟨rfl, HB4.out⟩
        | none =>
          have hT := hcn hA
          rw [hB] at hT
          simp only [Option.map_some, Nat.add_zero] at hT
          clear hin hdh hcn hcs hh
          go_wp2
          go_ret
          exact ⟨rfl, HB4.out⟩

theorem law1_nonnil (x : Addr) (n c : Nat) (L : List Col) (nm : ByteArray) (k : Int) (w : World) (hin : ColIn w (some x) n c L) :
    Calls Try.prog 3 #[.slice (some x) n c, .string nm, .int .i64 k] w fun e w' => e = .returned (.bool true) ∧ Below w.heap.size w w' := by
  by_cases hout : 65536 < n ∨ 65536 < nm.size ∨ k < 0 ∨ (n : Int) < k
  · exact law1_early (some x) n c L nm k w hin hout
  · obtain ⟨kn, rfl⟩ := Int.eq_ofNat_of_zero_le (show 0 ≤ k by omega)
    by_cases hkn : kn < n
    · exact law1_mid x n c L nm kn w (by omega) (by omega) hin hkn
    · obtain rfl : kn = n := by omega
      exact law1_end x kn c L nm w (by omega) (by omega) hin
theorem law1_none (nm : ByteArray) (k : Int) (w : World) :
    Calls Try.prog 3 #[.slice none 0 0, .string nm, .int .i64 k] w fun e w' => e = .returned (.bool true) ∧ Below w.heap.size w w' := by
  by_cases hout : 65536 < 0 ∨ 65536 < nm.size ∨ k < 0 ∨ ((0 : Nat) : Int) < k
  · exact law1_early none 0 0 [] nm k w (.inl ⟨rfl, rfl⟩) hout
  · obtain rfl : k = 0 := by omega
    exact law1_nil nm w (by omega)
end Go.Proofs.Qxb6628570a
