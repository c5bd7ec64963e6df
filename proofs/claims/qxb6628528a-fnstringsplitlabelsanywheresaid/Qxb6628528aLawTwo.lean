import Derived.Test.Qxb6628528aLawOne
namespace Go.Proofs.Qxb6628528a
open Go.RowKit

theorem LabIn.take {w : World} {g n cap : Nat} {L : List Lab} (h : LabIn w (some ⟨g, 0, none⟩) n cap L) (k : Nat) (hk : k ≤ n) : LabIn w (some ⟨g, 0, none⟩) k cap (L.take k) := by
  rcases h with ⟨h0, rfl⟩ | ⟨b, off, e, h2, h3, h5, h4⟩
  · exact .inl ⟨by omega, by simp⟩
  · obtain ⟨rfl, rfl⟩ : g = b ∧ 0 = off := by simpa using e
    refine .inr ⟨g, 0, rfl, by rw [List.length_take]; omega, h3, by omega, fun j hj => ?_⟩
    have : lab (L.take k) j = lab L j := by simp [lab, List.getElem?_take_of_lt hj]
    rw [this]; exact h4 j (by omega)
theorem LabIn.drop {w : World} {g n cap : Nat} {L : List Lab} (h : LabIn w (some ⟨g, 0, none⟩) n cap L) (k : Nat) (hk : k < n) : LabIn w (some ⟨g, k * 2, none⟩) (n - k) (cap - k) (L.drop k) := by
  rcases h with ⟨h0, rfl⟩ | ⟨b, off, e, h2, h3, h5, h4⟩
  · omega
  · obtain ⟨rfl, rfl⟩ : g = b ∧ 0 = off := by simpa using e
    refine .inr ⟨g, k * 2, rfl, by rw [List.length_drop]; omega, h3, by omega, fun j hj => ?_⟩
    have : lab (L.drop k) j = lab L (k + j) := by simp [lab]
    rw [this]
    have := h4 (k + j) (by omega)
    rw [Nat.zero_add, show (k + j) * 2 = k * 2 + j * 2 by omega] at this
    exact this
theorem wt_take (L : List Lab) (k : Nat) : wt (L.take k) ≤ wt L := wt_take_le L k
theorem wt_drop (L : List Lab) (k : Nat) : wt (L.drop k) ≤ wt L := by
  have := wt_append (L.take k) (L.drop k)
  rw [List.take_append_drop] at this
  omega
/-- The whole, out of its two parts. -/
theorem str_parts (nm : ByteArray) (A B : List Lab) (hA : A ≠ []) (hB : B ≠ []) :
    strOf nm (A ++ B) = (strOf nm A).extract 0 ((strOf nm A).size - 1) ++ ⟨#[44, 32]⟩ ++ (strOf nm B).extract (nm ++ ⟨#[32, 40]⟩ : ByteArray).size (strOf nm B).size := by
  have e : (strOf nm A).extract 0 ((strOf nm A).size - 1) = nm ++ ⟨#[32, 40]⟩ ++ joinL A := by
    unfold strOf
    rw [size_append', show ((⟨#[41]⟩ : ByteArray)).size = 1 from rfl, Nat.add_sub_cancel]
    exact extract_left _ _
  have e2 : (strOf nm B).extract (nm ++ ⟨#[32, 40]⟩ : ByteArray).size (strOf nm B).size = joinL B ++ ⟨#[41]⟩ := by
    unfold strOf; rw [ba_assoc (nm ++ ⟨#[32, 40]⟩)]; exact extract_right _ _
  rw [e, e2]
  unfold strOf
  rw [joinL_append A B hA hB]
  simp only [ba_assoc]

set_option maxHeartbeats 1000000 in
set_option maxRecDepth 1000000 in
theorem law2_out (nm id : ByteArray) (a : Option Addr) (n c : Nat) (L : List Lab) (k : Int) (w : World) (hin : LabIn w a n c L) (hout : k < 0 ∨ (n : Int) < k) :
    Calls Try.prog 4 #[.string nm, .string id, .slice a n c, .int .i64 k] w fun e w' => e = .returned (.bool true) ∧ Below w.heap.size w w' := by
  have hL := hide hin.len
  by_cases h1 : k < 0
  · clear hout
    go_enter Try.func4, Try.ntmps4
    go_wp2_with fail
    refine (bytes10 nm id a n c L k _ hin).mono ?_
    rintro e w' ⟨⟨b, rfl, hb⟩, rfl⟩
    cases b
    · go_wp2
      go_ret
      exact ⟨rfl, Below.refl _ _⟩
    · obtain ⟨b1, b2, b3, b4⟩ := hb rfl
      clear hb
      go_wp2_with fail
      all_goals first
        | (go_ret; exact ⟨rfl, Below.refl _ _⟩)
        | skip
      refine (fit6 _ a n c L _ (by omega) (by omega) b3 hin b4).mono ?_
      rintro e w' ⟨⟨b, rfl, hb⟩, rfl⟩
      cases b
      all_goals
        go_wp2
        go_ret
        exact ⟨rfl, Below.refl _ _⟩
  · have h2 : (n : Int) < k := by omega
    clear hout
    go_enter Try.func4, Try.ntmps4
    go_wp2_with fail
    refine (bytes10 nm id a n c L k _ hin).mono ?_
    rintro e w' ⟨⟨b, rfl, hb⟩, rfl⟩
    cases b
    · go_wp2
      go_ret
      exact ⟨rfl, Below.refl _ _⟩
    · obtain ⟨b1, b2, b3, b4⟩ := hb rfl
      clear hb
      go_wp2_with fail
      all_goals first
        | (go_ret; exact ⟨rfl, Below.refl _ _⟩)
        | skip
      refine (fit6 _ a n c L _ (by omega) (by omega) b3 hin b4).mono ?_
      rintro e w' ⟨⟨b, rfl, hb⟩, rfl⟩
      cases b
      all_goals
        go_wp2
        go_ret
        exact ⟨rfl, Below.refl _ _⟩

set_option maxHeartbeats 1000000 in
set_option maxRecDepth 1000000 in
theorem law2_in (nm id : ByteArray) (a : Option Addr) (n c : Nat) (L : List Lab) (k : Nat) (w : World) (hin : LabIn w a n c L) (hk : k ≤ n) :
    Calls Try.prog 4 #[.string nm, .string id, .slice a n c, .int .i64 k] w fun e w' => e = .returned (.bool true) ∧ Below w.heap.size w w' := by
  have hL := hide hin.len
  have hk0 : (0 : Int) ≤ (k : Int) := by omega
  have hk1 : (k : Int) ≤ (n : Int) := by omega
  go_enter Try.func4, Try.ntmps4
  go_wp2_with fail
  refine (bytes10 nm id a n c L k _ hin).mono ?_
  rintro e w' ⟨⟨b, rfl, hb⟩, rfl⟩
  cases b
  · go_wp2
    go_ret
    exact ⟨rfl, Below.refl _ _⟩
  · obtain ⟨b1, b2, b3, b4⟩ := hb rfl
    clear hb
    go_wp2_with fail
    all_goals first
      | (go_ret; exact ⟨rfl, Below.refl _ _⟩)
      | skip
    refine (fit6 _ a n c L _ (by omega) (by omega) b3 hin b4).mono ?_
    rintro e w' ⟨⟨b, rfl, hb⟩, rfl⟩
    cases b
    · go_wp2
      go_ret
      exact ⟨rfl, Below.refl _ _⟩
    · have hwt := hb rfl
      have hwt1 := wt_take L k
      have hwt2 := wt_drop L k
      clear hb b4
      go_wp2_with fail
      refine (to7 a n c L _ b3 hin).mono ?_
      rintro e w1 ⟨rfl, hown1, hbel1⟩
      have hs1 := hbel1.size
      have LA := hide (owns_lab hown1)
      have HB1 := hide hbel1
      clear hown1 hbel1 hin
      go_wp2_with fail
      refine (str8 nm id _ n n L _ (by omega) LA.out (by omega) (by omega)).mono ?_
      rintro e w2 ⟨rfl, hb2⟩
      have LA2 := hide (LA.out.below hb2)
      have HB2 := hide (HB1.out.trans (hb2.mono hs1))
      have hs2 := hb2.size
      clear LA HB1 hb2
      by_cases h0 : n = 0
      · subst h0
        obtain rfl : k = 0 := by omega
        rw [if_pos rfl]
        go_wp2_with fail
        refine (str8 nm _ _ 0 _ [] _ (by omega) (.inl ⟨rfl, rfl⟩) (by simp [wt]) (by omega)).mono ?_
        rintro e w3 ⟨rfl, hb3⟩
        have HB3 := hide (HB2.out.trans (hb3.mono (by omega)))
        have hs3 := hb3.size
        rw [if_pos rfl]
        clear HB2 hb3
        go_wp2_with fail
        refine (str8 nm _ _ 0 _ [] _ (by omega) (.inl ⟨rfl, rfl⟩) (by simp [wt]) (by omega)).mono ?_
        rintro e w4 ⟨rfl, hb4⟩
        have HB4 := hide (HB3.out.trans (hb4.mono (by omega)))
        rw [if_pos rfl]
        clear HB3 hb4
        go_wp2
        go_ret
        exact ⟨rfl, HB4.out⟩
      · rw [if_neg h0]
        have hne0 : ((n : Int) == 0) = false := by rw [beq_eq_false_iff_ne]; omega
        have hLn : L ≠ [] := fun e => h0 (by rw [← hL.out, e]; rfl)
        by_cases hk00 : k = 0
        · subst hk00
          go_wp2_with fail
          refine (str8 nm _ _ 0 _ [] _ (by omega) (.inl ⟨rfl, rfl⟩) (by simp [wt]) (by omega)).mono ?_
          rintro e w3 ⟨rfl, hb3⟩
          have HB3 := hide (HB2.out.trans (hb3.mono (by omega)))
          have LA3 := hide (LA2.out.below hb3)
          have hs3 := hb3.size
          rw [if_pos rfl]
          clear HB2 hb3 LA2
          go_wp2_with fail
          refine (str8 nm _ _ _ _ L _ (by omega) LA3.out (by omega) (by omega)).mono ?_
          rintro e w4 ⟨rfl, hb4⟩
          have HB4 := hide (HB3.out.trans (hb4.mono (by omega)))
          rw [if_neg h0]
          clear HB3 hb4 LA3
          go_wp2
          go_ret
          exact ⟨rfl, HB4.out⟩
        · have hkz : ((k : Int) == 0) = false := by rw [beq_eq_false_iff_ne]; omega
          have LT := hide (LA2.out.take k hk)
          by_cases hkn : k = n
          · subst hkn
            go_wp2_with fail
            refine (str8 nm _ _ _ _ (L.take k) _ (by omega) LT.out (by omega) (by omega)).mono ?_
            rintro e w3 ⟨rfl, hb3⟩
            have HB3 := hide (HB2.out.trans (hb3.mono (by omega)))
            have hs3 := hb3.size
            rw [if_neg h0, List.take_of_length_le (by rw [hL.out]; exact Nat.le_refl _)]
            clear HB2 hb3 LA2 LT
            go_wp2_with fail
            refine (str8 nm _ _ 0 _ [] _ (by omega) (.inl ⟨rfl, rfl⟩) (by simp [wt]) (by omega)).mono ?_
            rintro e w4 ⟨rfl, hb4⟩
            have HB4 := hide (HB3.out.trans (hb4.mono (by omega)))
            rw [if_pos rfl]
            clear HB3 hb4
            go_wp2
            go_ret
            exact ⟨rfl, HB4.out⟩
          · have hlt : k < n := by omega
            have hnk : ¬ n = k := by omega
            have hkz2 : ((k : Int) == (n : Int)) = false := by rw [beq_eq_false_iff_ne]; omega
            have hA : L.take k ≠ [] := fun e => hk00 (by have := congrArg List.length e; rw [List.length_take, hL.out] at this; simp at this; omega)
            have hB : L.drop k ≠ [] := fun e => by have := congrArg List.length e; rw [List.length_drop, hL.out] at this; simp at this; omega
            have hparts := str_parts nm (L.take k) (L.drop k) hA hB
            rw [List.take_append_drop] at hparts
            have hpre := str_prefix nm (L.take k)
            have hsize := str_size nm (L.take k)
            have hjs := joinL_size (L.take k)
            have hlast := str_last nm (L.take k)
            have hpreB := str_prefix nm (L.drop k)
            have hsizeB := str_size nm (L.drop k)
            have hjsB := joinL_size (L.drop k)
            have LD := hide (LA2.out.drop k hlt)
            have hkk : ¬ n - k = 0 := by omega
            obtain ⟨PA, hPA⟩ : ∃ P, Hid (strOf nm (L.take k) = P) := ⟨_, rfl⟩
            obtain ⟨PB, hPB⟩ : ∃ P, Hid (strOf nm (L.drop k) = P) := ⟨_, rfl⟩
            rw [hPA.out] at hparts hpre hsize hlast
            rw [hPB.out] at hparts hpreB hsizeB
            rw [hparts]
            have hA1 : nm.size + 3 ≤ PA.size := by omega
            have hA2 : PA.size ≤ 4000000 := by omega
            have hB1 : nm.size + 3 ≤ PB.size := by omega
            have hB2 : PB.size ≤ 4000000 := by omega
            have hltA : PA.size - 1 < PA.size := by omega
            have hlast' : ((PA[PA.size - 1]'hltA).toNat : Int) = 41 := by rw [hlast hltA]; rfl
            have HPRE := hide hpre
            have HPREB := hide hpreB
            clear hparts hpre hsize hlast hpreB hsizeB hjs hjsB hA hB hLn
            go_wp2_with fail
            refine (str8 nm _ _ _ _ (L.take k) _ (by omega) LT.out (by omega) (by omega)).mono ?_
            rintro e w3 ⟨rfl, hb3⟩
            have HB3 := hide (HB2.out.trans (hb3.mono (by omega)))
            have LD3 := hide (LD.out.below hb3)
            have hs3 := hb3.size
            rw [if_neg hk00, hPA.out]
            clear HB2 hb3 LA2 LT LD
            go_wp2_with fail
            refine (str8 nm _ _ _ _ (L.drop k) _ (by omega) LD3.out (by omega) (by omega)).mono ?_
            rintro e w4 ⟨rfl, hb4⟩
            have HB4 := hide (HB3.out.trans (hb4.mono (by omega)))
            rw [if_neg hkk, hPB.out]
            clear HB3 hb4 LD3
            go_wp2_with fail
            refine (has9 _ _ _ (by rw [size_append']; show nm.size + 2 ≤ _; omega) HPRE.out).mono ?_
            rintro e w6 ⟨rfl, rfl⟩
            go_wp2_with fail
            refine (has9 _ _ _ (by rw [size_append']; show nm.size + 2 ≤ _; omega) HPREB.out).mono ?_
            rintro e w6 ⟨rfl, rfl⟩
            go_wp2
            have q1 : (0 : Int) ≤ (PA.size : Int) - 1 := by omega
            have q2 : (PA.size : Int) - 1 ≤ (PA.size : Int) := by omega
            have q3 : (nm.size : Int) + 2 ≤ (PB.size : Int) := by omega
            have q4 : (0 : Int) ≤ (nm.size : Int) + 2 := by omega
            go_region
            all_goals (go_wp2; go_ret; exact ⟨rfl, HB4.out.drew⟩)

theorem law2_main (nm id : ByteArray) (a : Option Addr) (n c : Nat) (L : List Lab) (k : Int) (w : World) (hin : LabIn w a n c L) :
    Calls Try.prog 4 #[.string nm, .string id, .slice a n c, .int .i64 k] w fun e w' => e = .returned (.bool true) ∧ Below w.heap.size w w' := by
  by_cases hout : k < 0 ∨ (n : Int) < k
  · exact law2_out nm id a n c L k w hin hout
  · obtain ⟨kn, rfl⟩ := Int.eq_ofNat_of_zero_le (show 0 ≤ k by omega)
    exact law2_in nm id a n c L kn w hin (by omega)
end Go.Proofs.Qxb6628528a
