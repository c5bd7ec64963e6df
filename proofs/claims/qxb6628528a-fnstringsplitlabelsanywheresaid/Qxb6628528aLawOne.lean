import Derived.Test.Qxb6628528aPlain
namespace Go.Proofs.Qxb6628528a
open Go.RowKit

/-- An owned row of labels, read. -/
theorem owns_lab {w : World} {base n g cap : Nat} {L : List Lab} (h : w.ownsRow base 28 2 (.slice (some ⟨g, 0, none⟩) n cap) n (LC L)) : LabIn w (some ⟨g, 0, none⟩) n cap L := by
  have hl : L.length = n := by have := h.1; rw [LC_len] at this; omega
  have hb : g < w.heap.size := (h.lt g rfl).2
  have hcap : n ≤ cap := by
    rcases h.2 with ⟨h', _⟩ | ⟨g', cap', cur, h', _, _, hnc, _⟩
    · simp at h'
    · simp only [Value.slice.injEq, Option.some.injEq, Addr.mk.injEq, and_true, true_and] at h'
      obtain ⟨_, rfl⟩ := h'
      exact hnc
  refine .inr ⟨g, 0, rfl, hl, hb, hcap, fun j hj => ?_⟩
  have e := LC_get L j (by omega)
  rw [Nat.zero_add, h.cellAt (j * 2) (by omega), h.cellAt (j * 2 + 1) (by omega)]
  exact e

theorem owns_below {w w' : World} {base : Nat} {e : TypeId} {size : Nat} {v : Value} {n : Nat} {xs : List Value} (h : w.ownsRow base e size v n xs) (hb : Below w.heap.size w w') : w'.ownsRow base e size v n xs := by
  obtain ⟨h1, h2⟩ := h
  refine ⟨h1, ?_⟩
  rcases h2 with h2 | ⟨g, cap, cur, hv, hg, hh, r⟩
  · exact .inl h2
  · refine .inr ⟨g, cap, cur, hv, hg, ?_, r⟩
    rw [hb.block g (Array.getElem?_eq_some_iff.1 hh).1]; exact hh
theorem lab_left (L : List Lab) (x : Lab) (k : Nat) (h : k < L.length) : lab (L ++ [x]) k = lab L k := by
  simp [lab, List.getElem?_append_left h]
theorem lab_last (L : List Lab) (x : Lab) (n : Nat) (h : L.length = n) : lab (L ++ [x]) n = x := by
  simp [lab, ← h]

/-- With no label: what the second String answers. -/
theorem str_one (nm ln lv : ByteArray) : strOf nm [(ln, lv)] = nm ++ ⟨#[32, 40]⟩ ++ (ln ++ ⟨#[61]⟩ ++ lv) ++ ⟨#[41]⟩ := by
  unfold strOf; rw [joinL_one]; rfl
/-- With labels: the new item stands just ahead of the closing parenthesis. -/
theorem str_more (nm ln lv : ByteArray) (L : List Lab) (hL : L ≠ []) : strOf nm (L ++ [(ln, lv)]) = (strOf nm L).extract 0 ((strOf nm L).size - 1) ++ ⟨#[44, 32]⟩ ++ (ln ++ ⟨#[61]⟩ ++ lv) ++ ⟨#[41]⟩ := by
  have e : (strOf nm L).extract 0 ((strOf nm L).size - 1) = nm ++ ⟨#[32, 40]⟩ ++ joinL L := by
    unfold strOf
    rw [size_append', show ((⟨#[41]⟩ : ByteArray)).size = 1 from rfl, Nat.add_sub_cancel]
    exact extract_left _ _
  rw [e]
  unfold strOf
  rw [joinL_append L [(ln, lv)] hL (by simp), joinL_one]
  simp only [item, ba_assoc]
theorem str_prefix (nm : ByteArray) (L : List Lab) : (strOf nm L).extract 0 (nm ++ ⟨#[32, 40]⟩ : ByteArray).size = nm ++ ⟨#[32, 40]⟩ := by
  unfold strOf; rw [ba_assoc]; exact extract_left _ _
theorem str_size (nm : ByteArray) (L : List Lab) : (strOf nm L).size = nm.size + 2 + (joinL L).size + 1 := by
  unfold strOf; rw [size_append', size_append', size_append']; rfl
theorem str_last (nm : ByteArray) (L : List Lab) (h : (strOf nm L).size - 1 < (strOf nm L).size) : (strOf nm L)[(strOf nm L).size - 1] = 41 := by
  have e : (strOf nm L).size - 1 = (nm ++ ⟨#[32, 40]⟩ ++ joinL L : ByteArray).size := by
    unfold strOf; rw [size_append']; rfl
  have : ∀ (i : Nat) (hi : i < (strOf nm L).size), i = (nm ++ ⟨#[32, 40]⟩ ++ joinL L : ByteArray).size → (strOf nm L)[i] = 41 := by
    intro i hi hie
    subst hie
    exact last_byte _ 41 hi
  exact this _ h e

set_option maxHeartbeats 1000000 in
set_option maxRecDepth 1000000 in
theorem law1_main (nm id : ByteArray) (a : Option Addr) (n c : Nat) (L : List Lab) (ln lv : ByteArray) (w : World) (hin : LabIn w a n c L) :
    Calls Try.prog 3 #[.string nm, .string id, .slice a n c, .string ln, .string lv] w fun e w' => e = .returned (.bool true) ∧ Below w.heap.size w w' := by
  obtain ⟨i0, hi, hz0, hz1, hz2⟩ := info_parts Try.info28
  have hL := hide hin.len
  go_enter Try.func3, Try.ntmps3
  go_wp2_with fail
  refine (bytes5 nm id a n c L ln lv _ hin).mono ?_
  rintro e w' ⟨⟨b, rfl, hb⟩, rfl⟩
  cases b
  · go_wp2
    go_ret
    exact ⟨rfl, Below.refl _ _⟩
  · obtain ⟨b1, b2, b3, b4, b5, b6⟩ := hb rfl
    clear hb
    go_wp2_with fail
    all_goals first
      | (go_ret; exact ⟨rfl, Below.refl _ _⟩)
      | skip
    refine (fit6 _ a n c L _ (by omega) (by omega) b3 hin b4).mono ?_
    rintro e w' ⟨⟨b, rfl, hb⟩, rfl⟩
    cases b
    · go_wp2
      go_ret
      exact ⟨rfl, Below.refl _ _⟩
    · have hwt := hb rfl
      clear hb b4
      go_wp2_with fail
      refine (to7 a n c L _ b3 hin).mono ?_
      rintro e w1 ⟨rfl, hown1, hbel1⟩
      have hs1 := hbel1.size
      have hbl1 := (hown1.lt _ rfl).2
      have H1 := hide hown1
      have HB1 := hide hbel1
      clear hown1 hbel1
      go_wp2_with (at_make; refine wpList_make_full _ rfl _ _ 25 rfl w1.heap.size 28 i0 (.agg #[.string ⟨#[]⟩, .string ⟨#[]⟩]) 2 Try.underlying25 hi hz0 hz1 _ _ _ _ (n + 1) rfl rfl (by omega) (by omega) (by rw [hz2]; omega) (by unfold maxLen; omega) (Nat.le_refl _) ?_; intro w2 hown2 hgrow2)
      have hp0 : w2.ownsRow w1.heap.size 28 2 (.slice (some ⟨w1.heap.size, 0, none⟩) (n + 1) (n + 1)) (n + 1) (part (L ++ [(ln, lv)]) (n + 1) 0) := by
        unfold part; rw [made_two] at hown2; simpa [LC] using hown2
      clear hown2
      go_loopw [14] (fun i wr => ∃ k : Nat, k ≤ n ∧ i = .int .i64 k ∧ wr.ownsRow w1.heap.size 28 2 (.slice (some ⟨w1.heap.size, 0, none⟩) (n + 1) (n + 1)) (n + 1) (part (L ++ [(ln, lv)]) (n + 1) k) ∧ Below w1.heap.size w1 wr) (fun i _ => n - (intOf i).toNat)
      case atStart => exact ⟨0, Nat.zero_le _, rfl, hp0, (Below.refl _ _).grown hgrow2 (Nat.le_refl _) (fun k h => by cases h)⟩
      case round =>
        obtain ⟨k, hk, rfl, hown, hnx⟩ := hrel
        have hbl2 := (hown.lt _ rfl).2
        by_cases hlt : k < n
        · obtain ⟨g, o, x1, x2, e, hx, c1, c2⟩ := (owns_lab (owns_below H1.out hnx)).at hlt
          obtain ⟨rfl, rfl⟩ : w.heap.size = g ∧ 0 = o := by simpa using e
          rw [Nat.zero_add] at c1 c2
          have f1 := hown.frozenAt (k * 2)
          have f2 := hown.frozenAt (k * 2 + 1)
          obtain ⟨o1, ho1⟩ : ∃ old, wr.cell? ⟨w1.heap.size, k * 2, none⟩ = some old := by
            rw [hown.cellAt (k * 2) (by omega)]; exact ⟨_, List.getElem?_eq_getElem (by rw [hown.1]; omega)⟩
          obtain ⟨o2, ho2⟩ : ∃ old, wr.cell? ⟨w1.heap.size, k * 2 + 1, none⟩ = some old := by
            rw [hown.cellAt (k * 2 + 1) (by omega)]; exact ⟨_, List.getElem?_eq_getElem (by rw [hown.1]; omega)⟩
          have hst := (hown.stored (k * 2) (.string x1)).1.stored (k * 2 + 1) (.string x2)
          rw [part_set (L ++ [(ln, lv)]) (n + 1) k (by simp [hL.out]) (by omega) x1 x2 (by rw [lab_left L _ k (by rw [hL.out]; exact hlt)]; exact hx)] at hst
          have HS := hide hst.1
          have HB := hide ((hnx.setCell (p := ⟨w1.heap.size, k * 2, none⟩) (Nat.le_refl _) (.string x1)).setCell (p := ⟨w1.heap.size, k * 2 + 1, none⟩) (Nat.le_refl _) (.string x2))
          clear hst hx hnx hown hp0 hgrow2 e
          go_wp2
          go_roundw
          case rel => exact ⟨k + 1, by omega, by go_num, HS.out, HB.out⟩
          case measure => simp [intOf]; omega
        · have hkn : k = n := by omega
          subst hkn
          have f1 := hown.frozenAt (k * 2)
          have f2 := hown.frozenAt (k * 2 + 1)
          obtain ⟨o1, ho1⟩ : ∃ old, wr.cell? ⟨w1.heap.size, k * 2, none⟩ = some old := by
            rw [hown.cellAt (k * 2) (by omega)]; exact ⟨_, List.getElem?_eq_getElem (by rw [hown.1]; omega)⟩
          obtain ⟨o2, ho2⟩ : ∃ old, wr.cell? ⟨w1.heap.size, k * 2 + 1, none⟩ = some old := by
            rw [hown.cellAt (k * 2 + 1) (by omega)]; exact ⟨_, List.getElem?_eq_getElem (by rw [hown.1]; omega)⟩
          have hst := (hown.stored (k * 2) (.string ln)).1.stored (k * 2 + 1) (.string lv)
          rw [part_set (L ++ [(ln, lv)]) (k + 1) k (by simp [hL.out]) (by omega) ln lv (lab_last L _ k hL.out), part_all _ _ (by simp [hL.out])] at hst
          have HS := hide hst.1
          have HB := hide ((hnx.setCell (p := ⟨w1.heap.size, k * 2, none⟩) (Nat.le_refl _) (.string ln)).setCell (p := ⟨w1.heap.size, k * 2 + 1, none⟩) (Nat.le_refl _) (.string lv))
          clear hst hnx hown hp0 hgrow2 hlt
          have hwl : wt (L ++ [(ln, lv)]) ≤ 4000000 := by rw [wt_append]; simp only [wt]; omega
          go_wp2_with fail
          generalize hw3 : ((wr.setCell { block := w1.heap.size, off := k * 2 } (Value.string ln)).setCell { block := w1.heap.size, off := k * 2 + 1 } (Value.string lv)) = w3 at HS HB ⊢
          clear hw3 ho1 ho2 f1 f2
          have hs3 := HB.out.size
          have L1 := hide (owns_lab (owns_below H1.out HB.out))
          have L2 := hide (owns_lab HS.out)
          have HB3 := hide (HB1.out.trans (HB.out.mono hs1))
          clear H1 HS HB HB1 hin hi hz0 hz1 hz2 hbl1 hbl2
          refine (str8 nm id _ k k L w3 (by omega) L1.out (by omega) (by omega)).mono ?_
          rintro e w4 ⟨rfl, hb4⟩
          have L3 := hide (L2.out.below hb4)
          have HB4 := hide (HB3.out.trans (hb4.mono (by omega)))
          have hs4 := hb4.size
          clear L1 L2 HB3 hb4
          by_cases h0 : k = 0
          · rw [if_pos h0]
            subst h0
            obtain rfl : L = [] := List.eq_nil_of_length_eq_zero hL.out
            go_wp2_with fail
            refine (str8 nm id _ _ _ _ _ (by omega) L3.out hwl (by omega)).mono ?_
            rintro e w5 ⟨rfl, hb5⟩
            rw [if_neg (by omega), List.nil_append, str_one]
            have HB5 := hide (HB4.out.trans (hb5.mono (by omega)))
            clear L3 hb5 HB4
            go_wp2
            go_ret
            exact ⟨rfl, HB5.out⟩
          · rw [if_neg h0]
            have hLn : L ≠ [] := fun e => h0 (by rw [← hL.out, e]; rfl)
            have hmore := str_more nm ln lv L hLn
            have hpre := str_prefix nm L
            have hsize := str_size nm L
            have hjs := joinL_size L
            have hlast := str_last nm L
            generalize strOf nm L = P at hmore hpre hsize hlast ⊢
            have hP1 : nm.size + 3 ≤ P.size := by omega
            have hP2 : P.size ≤ 4000000 := by omega
            have hlt : P.size - 1 < P.size := by omega
            have hlast' : ((P[P.size - 1]'hlt).toNat : Int) = 41 := by rw [hlast hlt]; rfl
            have hne : ((P.size : Int) == 0) = false := by rw [beq_eq_false_iff_ne]; omega
            have hk0 : ((k : Int) == 0) = false := by simp; omega
            have HM := hide hmore
            have HPRE := hide hpre
            clear hmore hpre hsize hlast hjs
            go_wp2_with fail
            refine (str8 nm id _ _ _ _ _ (by omega) L3.out hwl (by omega)).mono ?_
            rintro e w5 ⟨rfl, hb5⟩
            rw [if_neg (by omega), HM.out]
            have HB5 := hide (HB4.out.trans (hb5.mono (by omega)))
            clear L3 hb5 HB4
            go_wp2_with fail
            refine (has9 _ _ _ (by rw [size_append']; show nm.size + 2 ≤ _; omega) HPRE.out).mono ?_
            rintro e w6 ⟨rfl, rfl⟩
            go_wp2
            go_ret
            exact ⟨rfl, HB5.out⟩
end Go.Proofs.Qxb6628528a
