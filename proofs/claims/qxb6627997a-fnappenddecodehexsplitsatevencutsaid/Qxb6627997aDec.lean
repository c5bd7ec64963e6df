import Derived.Test.Qxb6627997aMem
namespace Go.Proofs.Qxb6627997a
open Go.RowKit

/-- 'append' onto a row of the call's own: the value lies behind it in the block where it lay, or in a new one. -/
theorem wpList_append_own2 {P : Program} (w : World) {ops : Array Oper} {rest : List Oper} {o : Oper} {a : Act} {Q : Exit → Act → World → Prop}
    (hg : o.guard = none) (s x : Operand) (t : TypeId) (hop : o.op = Op.call { callee := Callee.builtin Builtin.append, args := #[s, x], argTypes := #[t, t] })
    (base : Nat) (e : TypeId) (i : TypeInfo) (z : Value) (size bytes : Nat) (h1 : P.underlying t = some (.slice e)) (h2 : P.info? e = some i) (h3 : i.zero = some z) (h4 : i.size = size) (h5 : i.bytes = bytes) (h6 : z.cells.size = size) (h7 : 0 < size)
    (v : Value) (n : Nat) (xs : List Value) (hs : a.eval s = v) (hown : w.ownsRow base e size v n xs)
    (ad : Addr) (m c : Nat) (news : List Value) (hx : a.eval x = .slice (some ad) m c) (hn : news.length = m * size) (hc : ∀ j u, news[j]? = some u → w.cell? (ad.add j) = some u) (h1c : ∀ u ∈ news, u.oneCell' = true)
    (hm : 0 < m) (b1 : n + m ≤ maxLen) (b2 : (n + m) * bytes ≤ 140737488355328) (hbase : base ≤ w.heap.size)
    (hK : ∀ v' w', w'.ownsRow base e size v' (n + m) (xs ++ news) → w.grownBy w' v.ownBlock → (∀ g, v'.ownBlock = some g → some g = v.ownBlock ∨ w.heap.size ≤ g) → wpList P ops Q rest (a.put o.dst v') w') :
    wpList P ops Q (o :: rest) a w := by
  have grows : ∀ (ao : Option Addr) (cap : Nat), v = .slice ao n cap → (ao = none → n = 0 ∧ cap = 0) → (∀ b, ao = some b → ∀ j u, xs[j]? = some u → w.cell? (b.add j) = some u) → cap < n + m → wpList P ops Q (o :: rest) a w := by
    intro ao cap hv hnone holds hfull
    refine wpList_append_grows w hg s x t hop e i z size bytes h1 h2 h3 h4 h5 h6 h7 ao n cap xs (hs.trans hv) hnone hown.1 holds ad m c news hx hn hc h1c hfull b1 b2 fun v' w' r1 r2 => ?_
    refine hK v' w' (owns_base r1 hbase) ⟨r2.os, r2.tape, r2.output, r2.size, fun k hk _ => r2.block k hk (by simp)⟩ fun g hgv => .inr (r1.lt g hgv).1
  rcases hown.2 with ⟨rfl, rfl⟩ | ⟨g, cap, cur, rfl, hbg, hh, hnc, hcm, hcs, htake⟩
  · exact grows none 0 rfl (fun _ => ⟨rfl, rfl⟩) (fun b h => by cases h) (by omega)
  · by_cases hroom : n + m ≤ cap
    · exact wpList_append_fits w hg s x t hop base e i size h1 h2 h4 g n cap xs hs hown ad m c news hx hn hc h1c hroom fun w' r1 r2 => hK _ w' r1 r2 fun g' hg' => .inl hg'.symm
    · exact grows (some ⟨g, 0, none⟩) cap rfl (fun h => by cases h) (fun b hb => by cases hb; exact hown.cells (g := g) rfl) (by omega)

/-- Since w: only the block of v, and new blocks, have turned; the value d lies in one of those. -/
def Since (w wr : World) (v d : Value) : Prop := w.grownBy wr v.ownBlock ∧ ∀ g, d.ownBlock = some g → some g = v.ownBlock ∨ w.heap.size ≤ g
theorem Since.start (w : World) (v : Value) : Since w w v v := ⟨World.grownBy.refl _ _, fun _ h => .inl h.symm⟩
theorem Since.next {w wr w1 : World} {v d d' : Value} {o : Obj} (h : Since w wr v d) (hg : (wr.alloc o).grownBy w1 d.ownBlock) (hd : ∀ g, d'.ownBlock = some g → some g = d.ownBlock ∨ wr.heap.size + 1 ≤ g) : Since w w1 v d' := by
  obtain ⟨h1, h2⟩ := h
  refine ⟨⟨hg.os.trans h1.os, hg.tape.trans h1.tape, hg.output.trans h1.output, ?_, ?_⟩, ?_⟩
  · have a := hg.size; have b := h1.size; simp at a; omega
  · intro k hk hne
    have b := h1.size
    have hne' : some k ≠ d.ownBlock := by
      intro e
      rcases h2 k e.symm with h | h
      · exact hne h
      · omega
    have a := hg.block k (by simp; omega) hne'
    rw [a, Below.heap_alloc _ _ _ (by omega)]
    exact h1.block k hk hne
  · intro g hgd
    rcases hd g hgd with e | h
    · exact h2 g e.symm
    · right; have b := h1.size; omega

set_option maxHeartbeats 400000 in
theorem adh_odd (v : Value) (s : ByteArray) (w : World) (hs : s.size ≤ 524288) (ho : (s.size : Int) % 2 = 1) :
    Calls Try.prog 8 #[v, .string s] w fun e w' => e = .returned (.tuple #[v, .bool false]) ∧ w' = w := by
  go_enter Try.func8, Try.ntmps8
  go_wp2
  go_ret2
  exact ⟨rfl, rfl⟩

set_option maxHeartbeats 1000000 in
set_option maxRecDepth 1000000 in
theorem adh_even (base n : Nat) (v : Value) (zs : List Int) (s : ByteArray) (w : World) (hown0 : w.ownsRow base 5 1 v n (U zs)) (hb : base ≤ w.heap.size) (hn : n ≤ 1048576) (hs : s.size ≤ 524288) (he : (s.size : Int) % 2 = 0) :
    Calls Try.prog 8 #[v, .string s] w fun e w' => ∃ v', e = .returned (.tuple #[v', .bool (decN (pr s) 0 (s.size / 2)).2]) ∧ w'.ownsRow base 5 1 v' (n + (decN (pr s) 0 (s.size / 2)).1.length) (U (zs ++ (decN (pr s) 0 (s.size / 2)).1)) ∧ w.grownBy w' v.ownBlock := by
  obtain ⟨i0, hi, hz0, hz1, hz2⟩ := info_parts Try.info5
  obtain ⟨D, HD⟩ : ∃ D, Hid (decN (pr s) 0 (s.size / 2) = D) := ⟨_, rfl⟩
  rw [HD.out]
  go_enter Try.func8, Try.ntmps8
  go_wp2
  have hN1 : 2 * (s.size / 2) ≤ s.size := by omega
  have hN2 : s.size ≤ 2 * (s.size / 2) := by omega
  clear he
  go_loopw [0, 6] (fun d i wr => ∃ (k m : Nat) (acc : List Int), 2 * k ≤ s.size ∧ i = .int .i64 (2 * (k : Int)) ∧ m = n + k ∧ wr.ownsRow base 5 1 d m (U (zs ++ acc)) ∧ Since w wr v d ∧ acc.length = k ∧ acc ++ (decN (pr s) k (s.size / 2 - k)).1 = D.1 ∧ (decN (pr s) k (s.size / 2 - k)).2 = D.2) (fun _ i _ => s.size - (intOf i).toNat)
  case atStart => exact ⟨0, n, [], by omega, rfl, rfl, by simpa using hown0, Since.start _ _, rfl, by simp [HD.out], by simp [HD.out]⟩
  case round =>
    obtain ⟨k, m, acc, hk, rfl, hm, hown, hsin, hal, hd1, hd2⟩ := hrel
    have HM := hide hm
    have HL := hide hal
    have H1 := hide hd1
    have H2 := hide hd2
    have hmb : m ≤ 2000000 := by omega
    clear hm hal hd1 hd2 hown0
    by_cases hlt : 2 * k < s.size
    · have hlt1 : 2 * k + 1 < s.size := by omega
      have b0 := s[2 * k].toNat_lt
      have b1 := s[2 * k + 1].toNat_lt
      have PR := hide (pr_eq s k hlt hlt1)
      cases ha : dig (s[2 * k].toNat : Int) with
      | none =>
        have F := hide (dec_stop (f := pr s) (k := k) (N := s.size / 2) (by omega) (PR.out.trans (spell_none_l ha)) H1.out H2.out)
        go_wp2_with (go_at_call 14; refine (digit14 _ _ (by omega) (by omega)).mono ?_; rintro e w' ⟨rfl, rfl⟩)
        go_ret2
        refine ⟨u0, by rw [F.out.2]; rfl, ?_, hsin.1⟩
        rw [F.out.1, HL.out, ← HM.out]; exact hown
      | some x =>
        have hx := dig_bd ha
        cases hb : dig (s[2 * k + 1].toNat : Int) with
        | none =>
          have F := hide (dec_stop (f := pr s) (k := k) (N := s.size / 2) (by omega) (PR.out.trans (spell_none_r hb)) H1.out H2.out)
          go_wp2_with (go_at_call 14; refine (digit14 _ _ (by omega) (by omega)).mono ?_; rintro e w' ⟨rfl, rfl⟩)
          go_ret2
          refine ⟨u0, by rw [F.out.2]; rfl, ?_, hsin.1⟩
          rw [F.out.1, HL.out, ← HM.out]; exact hown
        | some y =>
          have F := hide (dec_step (f := pr s) (k := k) (N := s.size / 2) (by omega) (PR.out.trans (spell_some ha hb)) H1.out H2.out)
          have hy := dig_bd hb
          have hor := or4 x y hx.1 hx.2 hy.1 hy.2
          obtain ⟨hx0, hx1⟩ := hx
          go_wp2_with (first
            | (go_at_call 14; refine (digit14 _ _ (by omega) (by omega)).mono ?_; rintro e w' ⟨rfl, rfl⟩)
            | (at_builtin; refine wpList_append_own2 _ rfl (.tmp 44) (.tmp 49) 22 rfl base 5 i0 (.int .u8 0) 1 1 Try.underlying22 hi hz0 hz1 hz2 rfl (by decide) _ _ _ rfl (hown.alloc _) ⟨wr.heap.size, 0, none⟩ 1 1 [.int .u8 (16 * x + y)] rfl rfl ?c1 ?c2 (by decide) ?c3 ?c4 ?c5 ?_))
          case c1 => exact (cell_one_new _ _ _)
          case c2 => intro u hu; simp at hu; subst hu; rfl
          case c3 => unfold maxLen; omega
          case c4 => omega
          case c5 => have := hsin.1.size; simp; omega
          · intro v' w1 hown' hgrow hnew
            have S1 := hide (hsin.next hgrow hnew)
            have O1 : Hid (w1.ownsRow base 5 1 v' (m + 1) (U (zs ++ (acc ++ [16 * x + y])))) := by
              rw [← List.append_assoc, U_append]; exact hown'
            clear hown' hgrow hnew hown hsin hor
            go_wp2
            go_roundw
            case rel => exact ⟨k + 1, m + 1, acc ++ [16 * x + y], by omega, by go_num, by rw [HM.out]; omega, O1.out, S1.out, by rw [List.length_append, HL.out]; rfl, F.out.1, F.out.2⟩
            case measure => simp [intOf]; omega
    · have F := hide (dec_end (f := pr s) (k := k) (N := s.size / 2) (by omega) H1.out H2.out)
      go_wp2
      go_ret2
      refine ⟨u0, by rw [F.out.2]; rfl, ?_, hsin.1⟩
      rw [F.out.1, HL.out, ← HM.out]; exact hown

theorem adh_any (base n : Nat) (v : Value) (zs : List Int) (s : ByteArray) (w : World) (hown : w.ownsRow base 5 1 v n (U zs)) (hb : base ≤ w.heap.size) (hn : n ≤ 1048576) (hs : s.size ≤ 524288) :
    Calls Try.prog 8 #[v, .string s] w fun e w' => ∃ v', e = .returned (.tuple #[v', .bool (decode s).2]) ∧ w'.ownsRow base 5 1 v' (n + (decode s).1.length) (U (zs ++ (decode s).1)) ∧ w.grownBy w' v.ownBlock := by
  unfold decode
  by_cases he : s.size % 2 = 0
  · rw [if_pos he]
    exact adh_even base n v zs s w hown hb hn hs (by omega)
  · rw [if_neg he]
    refine (adh_odd v s w hs (by omega)).mono ?_
    rintro e w' ⟨rfl, rfl⟩
    exact ⟨v, rfl, by simpa using hown, World.grownBy.refl _ _⟩
end Go.Proofs.Qxb6627997a
