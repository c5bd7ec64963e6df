import Derived.Test.Qxb6628570aLawOne
namespace Go.Proofs.Qxb6628570a
open Go.RowKit

theorem owns_below {w w' : World} {base : Nat} {e : TypeId} {size : Nat} {v : Value} {n : Nat} {xs : List Value} (h : w.ownsRow base e size v n xs) (hb : Below w.heap.size w w') : w'.ownsRow base e size v n xs := by
  obtain ⟨h1, h2⟩ := h
  refine ⟨h1, ?_⟩
  rcases h2 with h2 | ⟨g, cap, cur, hv, hg, hh, r⟩
  · exact .inl h2
  · refine .inr ⟨g, cap, cur, hv, hg, ?_, r⟩
    rw [hb.block g (Array.getElem?_eq_some_iff.1 hh).1]; exact hh
theorem CC_one (L : List Col) : ∀ u ∈ CC L, u.oneCell' = true := by
  induction L with
  | nil => intro u hu; simp [CC] at hu
  | cons x r ih =>
    intro u hu
    simp only [CC, cc, List.mem_append, List.mem_cons, List.not_mem_nil, or_false] at hu
    rcases hu with (rfl | rfl | rfl | rfl) | hu
    · rfl
    · rfl
    · rfl
    · rfl
    · exact ih u hu
theorem cc_new (W : World) (t : TypeId) (x : Col) : ∀ j u, (cc x)[j]? = some u → (W.alloc (.cells #[.string x.1, .int .u8 x.2.1, .int .i64 x.2.2.1, .bool x.2.2.2] t)).cell? ((⟨W.heap.size, 0, none⟩ : Addr).add j) = some u := by
  intro j u hu
  have hj : j < 4 := (List.getElem?_eq_some_iff.1 hu).1
  rw [Addr.add_lit]
  match j, hj with
  | 0, _ => simp [cc] at hu ⊢; exact hu
  | 1, _ => simp [cc] at hu ⊢; exact hu
  | 2, _ => simp [cc] at hu ⊢; exact hu
  | 3, _ => simp [cc] at hu ⊢; exact hu
theorem CC_split (L : List Col) (p : Nat) : CC L = CC (L.take p) ++ CC (L.drop p) := by rw [← CC_append, List.take_append_drop]
/-- The cells of a part of an owned row. -/
theorem cells_take {w : World} {base n g cap p : Nat} {L : List Col} (h : w.ownsRow base 34 4 (.slice (some ⟨g, 0, none⟩) n cap) n (CC L)) :
    ∀ ad, some (⟨g, 0, none⟩ : Addr) = some ad → ∀ j u, (CC (L.take p))[j]? = some u → w.cell? (ad.add j) = some u := by
  intro ad had j u hu
  obtain rfl := Option.some.inj had
  refine h.cells (g := g) rfl j u ?_
  rw [CC_split L p, List.getElem?_append_left (List.getElem?_eq_some_iff.1 hu).1]
  exact hu
theorem cells_drop {w : World} {base n g cap p : Nat} {L : List Col} (h : w.ownsRow base 34 4 (.slice (some ⟨g, 0, none⟩) n cap) n (CC L)) (hp : p ≤ n) :
    ∀ ad, some (⟨g, p * 4, none⟩ : Addr) = some ad → ∀ j u, (CC (L.drop p))[j]? = some u → w.cell? (ad.add j) = some u := by
  intro ad had j u hu
  obtain rfl := Option.some.inj had
  have hl : L.length = n := by have := h.1; rw [CC_len] at this; omega
  have := h.cells (g := g) rfl (p * 4 + j) u (by
    rw [CC_split L p, List.getElem?_append_right (by rw [CC_len, List.length_take]; omega), CC_len, List.length_take, Nat.min_eq_left (by omega), show p * 4 + j - p * 4 = j by omega]
    exact hu)
  rw [Addr.add_lit] at this ⊢
  rw [Nat.zero_add] at this
  exact this
/-- The list with the column put in. -/
theorem ins_some {nm : ByteArray} {L : List Col} {p a : Nat} {c : Col} (h : fi nm (L.take p) = some a) : fi nm (L.take p ++ (c :: L.drop p)) = some a := by
  rw [fi_append, h]
theorem ins_none {nm : ByteArray} {L : List Col} {p : Nat} {c : Col} (hp : p ≤ L.length) (h : fi nm (L.take p) = none) (hc : hit nm c = true) : fi nm (L.take p ++ (c :: L.drop p)) = some p := by
  rw [fi_append, h, fi_first hc]
  simp [hp]
theorem hit_self (nm : ByteArray) (y z : Int) (t : Bool) : hit nm (nm, y, z, t) = true := by simp [hit]

set_option maxHeartbeats 400000 in
theorem law2_early (a : Option Addr) (n c : Nat) (L : List Col) (nm : ByteArray) (p kd ln : Int) (nn : Bool) (w : World) (hin : ColIn w a n c L) (hout : 65536 < n ∨ 65536 < nm.size ∨ p < 0 ∨ (n : Int) < p) :
    Calls Try.prog 4 #[.slice a n c, .string nm, .int .i64 p, .int .u8 kd, .int .i64 ln, .bool nn] w fun e w' => e = .returned (.bool true) ∧ Below w.heap.size w w' := by
  by_cases h1 : 65536 < n
  · clear hout
    go_enter Try.func4, Try.ntmps4
    go_wp2_with fail
    refine (bytes9 a n c L nm p kd ln nn _ hin).mono ?_
    rintro e w' ⟨⟨b, rfl⟩, rfl⟩
    cases b
    all_goals
      go_wp2
      go_ret
      exact ⟨rfl, Below.refl _ _⟩
  · by_cases h2 : 65536 < nm.size
    · clear hout
      go_enter Try.func4, Try.ntmps4
      go_wp2_with fail
      refine (bytes9 a n c L nm p kd ln nn _ hin).mono ?_
      rintro e w' ⟨⟨b, rfl⟩, rfl⟩
      cases b
      all_goals
        go_wp2
        go_ret
        exact ⟨rfl, Below.refl _ _⟩
    · by_cases h3 : p < 0
      · clear hout
        go_enter Try.func4, Try.ntmps4
        go_wp2_with fail
        refine (bytes9 a n c L nm p kd ln nn _ hin).mono ?_
        rintro e w' ⟨⟨b, rfl⟩, rfl⟩
        cases b
        · go_wp2
          go_ret
          exact ⟨rfl, Below.refl _ _⟩
        · go_wp2_with fail
          refine (fit6 a n c L nm _ (by omega) hin).mono ?_
          rintro e w' ⟨⟨b, rfl⟩, rfl⟩
          cases b
          all_goals
            go_wp2
            go_ret
            exact ⟨rfl, Below.refl _ _⟩
      · have h4 : (n : Int) < p := by omega
        clear hout
        go_enter Try.func4, Try.ntmps4
        go_wp2_with fail
        refine (bytes9 a n c L nm p kd ln nn _ hin).mono ?_
        rintro e w' ⟨⟨b, rfl⟩, rfl⟩
        cases b
        · go_wp2
          go_ret
          exact ⟨rfl, Below.refl _ _⟩
        · go_wp2_with fail
          refine (fit6 a n c L nm _ (by omega) hin).mono ?_
          rintro e w' ⟨⟨b, rfl⟩, rfl⟩
          cases b
          all_goals
            go_wp2
            go_ret
            exact ⟨rfl, Below.refl _ _⟩

set_option maxHeartbeats 2000000 in
set_option maxRecDepth 1000000 in
theorem law2_mid (x : Addr) (n c : Nat) (L : List Col) (nm : ByteArray) (p : Nat) (kd ln : Int) (nn : Bool) (w : World) (hn : n ≤ 65536) (hnm : nm.size ≤ 65536) (hin : ColIn w (some x) n c L) (hpn : p < n) :
    Calls Try.prog 4 #[.slice (some x) n c, .string nm, .int .i64 p, .int .u8 kd, .int .i64 ln, .bool nn] w fun e w' => e = .returned (.bool true) ∧ Below w.heap.size w w' := by
  obtain ⟨i0, hi, hz0, hz1, hz2⟩ := info_parts Try.info34
  have hL := hide hin.len
  have hk0 : (0 : Int) ≤ (p : Int) := by omega
  have hk1 : (p : Int) < (n : Int) := by omega
  have hnk : ¬ n = p := by omega
  go_enter Try.func4, Try.ntmps4
  go_wp2_with fail
  refine (bytes9 _ n c L nm _ kd ln nn _ hin).mono ?_
  rintro e w' ⟨⟨b, rfl⟩, rfl⟩
  cases b
  · go_wp2
    go_ret
    exact ⟨rfl, Below.refl _ _⟩
  · go_wp2_with fail
    refine (fit6 _ n c L nm _ (by omega) hin).mono ?_
    rintro e w' ⟨⟨b, rfl⟩, rfl⟩
    cases b
    · go_wp2
      go_ret
      exact ⟨rfl, Below.refl _ _⟩
    · go_wp2_with fail
      refine (to7 x n c L _ (by omega) hin).mono ?_
      rintro e w1 ⟨rfl, hown1, hbel1⟩
      have hs1 := hbel1.size
      have H1 := hide hown1
      have HB1 := hide hbel1
      clear hown1 hbel1
      have hl1 : (CC (L.take p)).length = p * 4 := by rw [CC_len, List.length_take, hL.out, Nat.min_eq_left (by omega)]
      have hl2 : (CC (L.drop p)).length = (n - p) * 4 := by rw [CC_len, List.length_drop, hL.out]
      go_wp2_with (first
        | (at_make; refine wpList_make_own _ rfl _ _ 25 rfl w1.heap.size 34 i0 (.agg #[.string ⟨#[]⟩, .int .u8 0, .int .i64 0, .bool false]) 4 Try.underlying25 hi hz0 hz1 _ _ _ (n + 1) rfl rfl (by omega) (by rw [hz2]; omega) (by unfold maxLen; omega) (Nat.le_refl _) ?_; intro w2 hown2 hgrow2; have HB2 := hide ((Below.refl w1.heap.size w1).grown hgrow2 (Nat.le_refl _) (fun k h => by cases h)); have H2 := hide (owns_below H1.out HB2.out); clear hgrow2)
        | (at_builtin; refine wpList_append_fits_any _ rfl (.tmp 51) (.tmp 54) 25 rfl w1.heap.size 34 i0 4 Try.underlying25 hi hz1 w1.heap.size 0 (n + 1) _ rfl hown2 _ p _ (CC (L.take p)) rfl hl1 (by intro h; cases h) (cells_take H2.out) (CC_one _) (by omega) ?_; intro w3 hown3 hgrow3))
      simp only [Nat.zero_add, List.nil_append] at hown3
      have hbl : w.heap.size < w1.heap.size := (H1.out.lt _ rfl).2
      have H3 := hide (H2.out.kept hgrow3 (.inr (by intro e; have := Option.some.inj e; simp at this; omega)))
      have HB3 := hide (HB2.out.grown hgrow3 HB2.out.size (fun k h => by cases h; exact Nat.le_refl _))
      have hs3 := HB3.out.size
      clear hown2 H1 H2 HB2 hgrow3
      refine (col10 nm kd ln nn _).mono ?_
      rintro e w' ⟨rfl, o, rfl⟩
      go_wp2_with (at_builtin; refine wpList_append_fits _ rfl (.tmp 56) (.tmp 62) 25 rfl w1.heap.size 34 i0 4 Try.underlying25 hi hz1 w1.heap.size p (n + 1) _ rfl ((hown3.alloc o).alloc _) ⟨w3.heap.size + 1, 0, none⟩ 1 1 (cc (nm, kd, ln, nn)) rfl rfl ?c1 ?c2 (by omega) ?_)
      case c1 => have := cc_new (w3.alloc o) 34 (nm, kd, ln, nn); rw [World.size_alloc] at this; exact this
      case c2 => exact fun u hu => CC_one [(nm, kd, ln, nn)] u (by simpa [CC] using hu)
      · intro w4 hown4 hgrow4
        have H4 := hide (((H3.out.alloc o).alloc _).kept hgrow4 (.inr (by intro e; have := Option.some.inj e; simp at this; omega)))
        have HB4 := hide (((HB3.out.alloc hs3 o).alloc (by simp; omega) _).grown hgrow4 (by simp; omega) (fun k h => by cases h; exact Nat.le_refl _))
        have hs4 := HB4.out.size
        clear hown3 H3 HB3 hgrow4
        go_wp2_with (at_builtin; refine wpList_append_fits_any _ rfl (.tmp 64) (.tmp 67) 25 rfl w1.heap.size 34 i0 4 Try.underlying25 hi hz1 w1.heap.size (p + 1) (n + 1) _ rfl hown4 _ (n - p) _ (CC (L.drop p)) rfl hl2 (by intro h; cases h) (cells_drop H4.out (by omega)) (CC_one _) (by omega) ?_; intro w5 hown5 hgrow5)
        have H5 := hide (H4.out.kept hgrow5 (.inr (by intro e; have := Option.some.inj e; simp at this; omega)))
        have HB5 := hide (HB4.out.grown hgrow5 hs4 (fun k h => by cases h; exact Nat.le_refl _))
        have hs5 := HB5.out.size
        have hnn : p + 1 + (n - p) = n + 1 := by omega
        have hC : CC (L.take p) ++ cc (nm, kd, ln, nn) ++ CC (L.drop p) = CC (L.take p ++ ((nm, kd, ln, nn) :: L.drop p)) := by rw [CC_append, List.append_assoc]; rfl
        rw [hC, hnn] at hown5
        have C1 := hide (owns_col H5.out)
        have C2 := hide (owns_col hown5)
        have HBw := hide (HB1.out.trans (HB5.out.mono hs1))
        clear hown4 hown5 H4 H5 HB4 HB5 hgrow5 HB1 hl1 hl2 hC hi hz0 hz1 hz2
        refine (idx8 _ n n L nm _ (by omega) C1.out).mono ?_
        rintro e w6 ⟨rfl, hb6⟩
        have C3 := hide (C2.out.below hb6)
        have HB6 := hide (HBw.out.trans (hb6.mono (by omega)))
        have hs6 := hb6.size
        clear C1 C2 hb6 HBw
        go_wp2_with fail
        refine (idx8 _ _ _ _ nm _ (by omega) C3.out).mono ?_
        rintro e w7 ⟨rfl, hb7⟩
        have HB7 := hide (HB6.out.trans (hb7.mono (by omega)))
        clear C3 HB6 hb7
        cases hA : fi nm (L.take p) with
        | some i =>
          have hi0 := take_lt hA
          have hT := cut_some hA
          have hJ := ins_some (c := (nm, kd, ln, nn)) hA
          obtain ⟨hi1, hi2⟩ := fi_some hT
          rw [hL.out] at hi1
          obtain ⟨b, off, rfl, hc⟩ := hin.name HB7.out hi1
          have hi2' : ((col L i).1.toList == nm.toList) = true := hi2
          generalize (col L i).1 = y' at hc hi2'
          rw [hJ, hT]
          clear hin hi2 hA hT hJ
          go_wp2
          go_ret
          exact ⟨rfl, HB7.out⟩
        | none =>
          have hJ := ins_none (c := (nm, kd, ln, nn)) (by rw [hL.out]; omega) hA (hit_self nm kd ln nn)
          have hT := cut_none (by rw [hL.out]; omega) hA
          cases hB : fi nm (L.drop p) with
          | some i =>
            rw [hB] at hT
            simp only [Option.map_some] at hT
            obtain ⟨hi1, hi2⟩ := fi_some hT
            rw [hL.out] at hi1
            obtain ⟨b, off, rfl, hc⟩ := hin.name HB7.out hi1
            have hi2' : ((col L (p + i)).1.toList == nm.toList) = true := hi2
            generalize (col L (p + i)).1 = y' at hc hi2'
            rw [hJ, hT]
            clear hin hi2 hA hB hT hJ
            go_wp2
            go_ret
            exact ⟨rfl, HB7.out⟩
          | none =>
            rw [hB] at hT
            simp only [Option.map_none] at hT
            rw [hJ, hT]
            clear hin hA hB hT hJ
            go_wp2
            go_ret
            exact ⟨rfl, HB7.out⟩

set_option maxHeartbeats 2000000 in
set_option maxRecDepth 1000000 in
theorem law2_end (x : Addr) (n c : Nat) (L : List Col) (nm : ByteArray) (kd ln : Int) (nn : Bool) (w : World) (hn : n ≤ 65536) (hnm : nm.size ≤ 65536) (hin : ColIn w (some x) n c L) :
    Calls Try.prog 4 #[.slice (some x) n c, .string nm, .int .i64 n, .int .u8 kd, .int .i64 ln, .bool nn] w fun e w' => e = .returned (.bool true) ∧ Below w.heap.size w w' := by
  obtain ⟨i0, hi, hz0, hz1, hz2⟩ := info_parts Try.info34
  have hL := hide hin.len
  have hk0 : (0 : Int) ≤ (n : Int) := by omega
  go_enter Try.func4, Try.ntmps4
  go_wp2_with fail
  refine (bytes9 _ n c L nm _ kd ln nn _ hin).mono ?_
  rintro e w' ⟨⟨b, rfl⟩, rfl⟩
  cases b
  · go_wp2
    go_ret
    exact ⟨rfl, Below.refl _ _⟩
  · go_wp2_with fail
    refine (fit6 _ n c L nm _ (by omega) hin).mono ?_
    rintro e w' ⟨⟨b, rfl⟩, rfl⟩
    cases b
    · go_wp2
      go_ret
      exact ⟨rfl, Below.refl _ _⟩
    · go_wp2_with fail
      refine (to7 x n c L _ (by omega) hin).mono ?_
      rintro e w1 ⟨rfl, hown1, hbel1⟩
      have hs1 := hbel1.size
      have H1 := hide hown1
      have HB1 := hide hbel1
      clear hown1 hbel1
      have hLt : L.take n = L := List.take_of_length_le (by rw [hL.out]; exact Nat.le_refl _)
      have hl1 : (CC (L.take n)).length = n * 4 := by rw [hLt, CC_len, hL.out]
      go_wp2_with (first
        | (at_make; refine wpList_make_own _ rfl _ _ 25 rfl w1.heap.size 34 i0 (.agg #[.string ⟨#[]⟩, .int .u8 0, .int .i64 0, .bool false]) 4 Try.underlying25 hi hz0 hz1 _ _ _ (n + 1) rfl rfl (by omega) (by rw [hz2]; omega) (by unfold maxLen; omega) (Nat.le_refl _) ?_; intro w2 hown2 hgrow2; have HB2 := hide ((Below.refl w1.heap.size w1).grown hgrow2 (Nat.le_refl _) (fun k h => by cases h)); have H2 := hide (owns_below H1.out HB2.out); clear hgrow2)
        | (at_builtin; refine wpList_append_fits_any _ rfl (.tmp 51) (.tmp 54) 25 rfl w1.heap.size 34 i0 4 Try.underlying25 hi hz1 w1.heap.size 0 (n + 1) _ rfl hown2 _ n _ (CC (L.take n)) rfl hl1 (by intro h; cases h) (cells_take H2.out) (CC_one _) (by omega) ?_; intro w3 hown3 hgrow3))
      simp only [Nat.zero_add, List.nil_append] at hown3
      have hbl : w.heap.size < w1.heap.size := (H1.out.lt _ rfl).2
      have H3 := hide (H2.out.kept hgrow3 (.inr (by intro e; have := Option.some.inj e; simp at this; omega)))
      have HB3 := hide (HB2.out.grown hgrow3 HB2.out.size (fun k h => by cases h; exact Nat.le_refl _))
      have hs3 := HB3.out.size
      clear hown2 H1 H2 HB2 hgrow3
      refine (col10 nm kd ln nn _).mono ?_
      rintro e w' ⟨rfl, o, rfl⟩
      go_wp2_with (at_builtin; refine wpList_append_fits _ rfl (.tmp 56) (.tmp 62) 25 rfl w1.heap.size 34 i0 4 Try.underlying25 hi hz1 w1.heap.size n (n + 1) _ rfl ((hown3.alloc o).alloc _) ⟨w3.heap.size + 1, 0, none⟩ 1 1 (cc (nm, kd, ln, nn)) rfl rfl ?c1 ?c2 (by omega) ?_)
      case c1 => have := cc_new (w3.alloc o) 34 (nm, kd, ln, nn); rw [World.size_alloc] at this; exact this
      case c2 => exact fun u hu => CC_one [(nm, kd, ln, nn)] u (by simpa [CC] using hu)
      · intro w4 hown4 hgrow4
        have H4 := hide (((H3.out.alloc o).alloc _).kept hgrow4 (.inr (by intro e; have := Option.some.inj e; simp at this; omega)))
        have HB4 := hide (((HB3.out.alloc hs3 o).alloc (by simp; omega) _).grown hgrow4 (by simp; omega) (fun k h => by cases h; exact Nat.le_refl _))
        have hs4 := HB4.out.size
        clear hown3 H3 HB3 hgrow4
        go_wp2_with (at_builtin; refine wpList_append_fits_any _ rfl (.tmp 64) (.tmp 67) 25 rfl w1.heap.size 34 i0 4 Try.underlying25 hi hz1 w1.heap.size (n + 1) (n + 1) _ rfl hown4 _ 0 _ [] rfl rfl (by intro h; cases h) (by intro ad _ j u hu; simp at hu) (by intro u hu; simp at hu) (by omega) ?_; intro w5 hown5 hgrow5)
        have H5 := hide (H4.out.kept hgrow5 (.inr (by intro e; have := Option.some.inj e; simp at this; omega)))
        have HB5 := hide (HB4.out.grown hgrow5 hs4 (fun k h => by cases h; exact Nat.le_refl _))
        have hs5 := HB5.out.size
        have hC : CC L ++ cc (nm, kd, ln, nn) ++ [] = CC (L ++ [(nm, kd, ln, nn)]) := by rw [CC_append]; simp [CC]
        rw [hC, Nat.add_zero] at hown5
        have C1 := hide (owns_col H5.out)
        have C2 := hide (owns_col hown5)
        have HBw := hide (HB1.out.trans (HB5.out.mono hs1))
        clear hown4 hown5 H4 H5 HB4 HB5 hgrow5 HB1 hl1 hC hLt hi hz0 hz1 hz2
        refine (idx8 _ n n L nm _ (by omega) C1.out).mono ?_
        rintro e w6 ⟨rfl, hb6⟩
        have C3 := hide (C2.out.below hb6)
        have HB6 := hide (HBw.out.trans (hb6.mono (by omega)))
        have hs6 := hb6.size
        clear C1 C2 hb6 HBw
        go_wp2_with fail
        refine (idx8 _ _ _ _ nm _ (by omega) C3.out).mono ?_
        rintro e w7 ⟨rfl, hb7⟩
        have HB7 := hide (HB6.out.trans (hb7.mono (by omega)))
        clear C3 HB6 hb7
        cases hA : fi nm L with
        | some i =>
          have hJ : fi nm (L ++ [(nm, kd, ln, nn)]) = some i := by rw [fi_append, hA]
          obtain ⟨hi1, hi2⟩ := fi_some hA
          rw [hL.out] at hi1
          obtain ⟨b, off, rfl, hc⟩ := hin.name HB7.out hi1
          have hi2' : ((col L i).1.toList == nm.toList) = true := hi2
          generalize (col L i).1 = y' at hc hi2'
          rw [hJ]
          clear hin hi2 hA hJ
          go_wp2
          go_ret
          exact ⟨rfl, HB7.out⟩
        | none =>
          have hJ : fi nm (L ++ [(nm, kd, ln, nn)]) = some n := by rw [fi_append, hA, fi_first (hit_self nm kd ln nn)]; simp [hL.out]
          rw [hJ]
          clear hin hA hJ
          go_wp2
          go_ret
          exact ⟨rfl, HB7.out⟩


set_option maxHeartbeats 2000000 in
set_option maxRecDepth 1000000 in
theorem law2_nil (nm : ByteArray) (kd ln : Int) (nn : Bool) (w : World) (hnm : nm.size ≤ 65536) :
    Calls Try.prog 4 #[.slice none 0 0, .string nm, .int .i64 0, .int .u8 kd, .int .i64 ln, .bool nn] w fun e w' => e = .returned (.bool true) ∧ Below w.heap.size w w' := by
  obtain ⟨i0, hi, hz0, hz1, hz2⟩ := info_parts Try.info34
  have hin : ColIn w none 0 0 [] := .inl ⟨rfl, rfl⟩
  go_enter Try.func4, Try.ntmps4
  go_wp2_with fail
  refine (bytes9 none 0 0 [] nm 0 kd ln nn _ hin).mono ?_
  rintro e w' ⟨⟨b, rfl⟩, rfl⟩
  cases b
  · go_wp2
    go_ret
    exact ⟨rfl, Below.refl _ _⟩
  · go_wp2_with fail
    refine (fit6 none 0 0 [] nm _ (by omega) hin).mono ?_
    rintro e w' ⟨⟨b, rfl⟩, rfl⟩
    cases b
    · go_wp2
      go_ret
      exact ⟨rfl, Below.refl _ _⟩
    · go_wp2_with fail
      refine (to7_nil _).mono ?_
      rintro e w1 ⟨rfl, hw⟩
      obtain rfl : w = w1 := hw.symm
      clear hw
      go_wp2_with (first
        | (at_make; refine wpList_make_own _ rfl _ _ 25 rfl w.heap.size 34 i0 (.agg #[.string ⟨#[]⟩, .int .u8 0, .int .i64 0, .bool false]) 4 Try.underlying25 hi hz0 hz1 _ _ _ 1 rfl rfl (by omega) (by rw [hz2]; omega) (by unfold maxLen; omega) (Nat.le_refl _) ?_; intro w2 hown2 hgrow2; have HB2 := hide ((Below.refl w.heap.size w).grown hgrow2 (Nat.le_refl _) (fun k h => by cases h)); clear hgrow2)
        | (at_builtin; refine wpList_append_fits_any _ rfl (.tmp 51) (.tmp 54) 25 rfl w.heap.size 34 i0 4 Try.underlying25 hi hz1 w.heap.size 0 1 _ rfl hown2 _ 0 _ [] rfl rfl (by intro _; exact ⟨rfl, rfl⟩) (by intro ad _ j u hu; simp at hu) (by intro u hu; simp at hu) (by omega) ?_; intro w3 hown3 hgrow3))
      simp only [Nat.zero_add, List.nil_append] at hown3
      have HB3 := hide (HB2.out.grown hgrow3 HB2.out.size (fun k h => by cases h; exact Nat.le_refl _))
      have hs3 := HB3.out.size
      clear hown2 HB2 hgrow3
      refine (col10 nm kd ln nn _).mono ?_
      rintro e w' ⟨rfl, o, rfl⟩
      go_wp2_with (at_builtin; refine wpList_append_fits _ rfl (.tmp 56) (.tmp 62) 25 rfl w.heap.size 34 i0 4 Try.underlying25 hi hz1 w.heap.size 0 1 _ rfl ((hown3.alloc o).alloc _) ⟨w3.heap.size + 1, 0, none⟩ 1 1 (cc (nm, kd, ln, nn)) rfl rfl ?c1 ?c2 (by omega) ?_)
      case c1 => have := cc_new (w3.alloc o) 34 (nm, kd, ln, nn); rw [World.size_alloc] at this; exact this
      case c2 => exact fun u hu => CC_one [(nm, kd, ln, nn)] u (by simpa [CC] using hu)
      · intro w4 hown4 hgrow4
        have HB4 := hide (((HB3.out.alloc hs3 o).alloc (by simp; omega) _).grown hgrow4 (by simp; omega) (fun k h => by cases h; exact Nat.le_refl _))
        have hs4 := HB4.out.size
        clear hown3 HB3 hgrow4
        go_wp2_with (at_builtin; refine wpList_append_fits_any _ rfl (.tmp 64) (.tmp 67) 25 rfl w.heap.size 34 i0 4 Try.underlying25 hi hz1 w.heap.size 1 1 _ rfl hown4 _ 0 _ [] rfl rfl (by intro _; exact ⟨rfl, rfl⟩) (by intro ad _ j u hu; simp at hu) (by intro u hu; simp at hu) (by omega) ?_; intro w5 hown5 hgrow5)
        have HB5 := hide (HB4.out.grown hgrow5 hs4 (fun k h => by cases h; exact Nat.le_refl _))
        have hs5 := HB5.out.size
        have hC : cc (nm, kd, ln, nn) ++ [] = CC [(nm, kd, ln, nn)] := rfl
        rw [hC, Nat.add_zero] at hown5
        have C2 := hide (owns_col hown5)
        clear hown4 hown5 HB4 hgrow5 hC hi hz0 hz1 hz2
        refine (idx8 none 0 0 [] nm _ (by omega) (.inl ⟨rfl, rfl⟩)).mono ?_
        rintro e w6 ⟨rfl, hb6⟩
        have C3 := hide (C2.out.below hb6)
        have HB6 := hide (HB5.out.trans (hb6.mono (by omega)))
        have hs6 := hb6.size
        clear C2 hb6 HB5
        rw [show fi nm ([] : List Col) = none from rfl]
        go_wp2_with fail
        refine (idx8 _ _ _ _ nm _ (by omega) C3.out).mono ?_
        rintro e w7 ⟨rfl, hb7⟩
        have HB7 := hide (HB6.out.trans (hb7.mono (by omega)))
        clear C3 HB6 hb7
        rw [fi_first (r := []) (hit_self nm kd ln nn)]
        go_wp2
        go_ret
        exact ⟨rfl, HB7.out⟩

theorem law2_nonnil (x : Addr) (n c : Nat) (L : List Col) (nm : ByteArray) (p kd ln : Int) (nn : Bool) (w : World) (hin : ColIn w (some x) n c L) :
    Calls Try.prog 4 #[.slice (some x) n c, .string nm, .int .i64 p, .int .u8 kd, .int .i64 ln, .bool nn] w fun e w' => e = .returned (.bool true) ∧ Below w.heap.size w w' := by
  by_cases hout : 65536 < n ∨ 65536 < nm.size ∨ p < 0 ∨ (n : Int) < p
  · exact law2_early (some x) n c L nm p kd ln nn w hin hout
  · obtain ⟨pn, rfl⟩ := Int.eq_ofNat_of_zero_le (show 0 ≤ p by omega)
    by_cases hpn : pn < n
    · exact law2_mid x n c L nm pn kd ln nn w (by omega) (by omega) hin hpn
    · obtain rfl : pn = n := by omega
      exact law2_end x pn c L nm kd ln nn w (by omega) (by omega) hin
theorem law2_none (nm : ByteArray) (p kd ln : Int) (nn : Bool) (w : World) :
    Calls Try.prog 4 #[.slice none 0 0, .string nm, .int .i64 p, .int .u8 kd, .int .i64 ln, .bool nn] w fun e w' => e = .returned (.bool true) ∧ Below w.heap.size w w' := by
  by_cases hout : 65536 < 0 ∨ 65536 < nm.size ∨ p < 0 ∨ ((0 : Nat) : Int) < p
  · exact law2_early none 0 0 [] nm p kd ln nn w (.inl ⟨rfl, rfl⟩) hout
  · obtain rfl : p = 0 := by omega
    exact law2_nil nm kd ln nn w (by omega)
end Go.Proofs.Qxb6628570a
