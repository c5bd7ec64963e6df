import Derived.Test.Qxb6627997aLeaf
import Derived.Deep.QuietTactic
import Derived.BigQuiet
namespace Go.Proofs.Qxb6627997a
open Go.RowKit

theorem Try.info5 : (Try.prog.info? 5).map (fun i => (i.zero, i.size, i.bytes)) = some (some (.int .u8 0), 1, 1) := by kernel_rfl

/-- The cells of a row of bytes. -/
def U (zs : List Int) : List Value := zs.map (Value.int .u8)
theorem U_len (zs : List Int) : (U zs).length = zs.length := by simp [U]
theorem U_append (xs ys : List Int) : U (xs ++ ys) = U xs ++ U ys := by simp [U]
theorem U_get {zs : List Int} {k : Nat} (h : k < zs.length) : (U zs)[k]? = some (.int .u8 (zs.getD k 0)) := by
  simp [U, h]

/-- What is owned stays owned where the blocks that were there have not turned. -/
theorem owns_below {w w' : World} {base : Nat} {e : TypeId} {size : Nat} {v : Value} {n : Nat} {xs : List Value} (h : w.ownsRow base e size v n xs) (hb : Below w.heap.size w w') : w'.ownsRow base e size v n xs := by
  obtain ⟨h1, h2⟩ := h
  refine ⟨h1, ?_⟩
  rcases h2 with h2 | ⟨g, cap, cur, hv, hg, hh, r⟩
  · exact .inl h2
  · refine .inr ⟨g, cap, cur, hv, hg, ?_, r⟩
    rw [hb.block g (Array.getElem?_eq_some_iff.1 hh).1]; exact hh
theorem owns_base {w : World} {base base' : Nat} {e : TypeId} {size : Nat} {v : Value} {n : Nat} {xs : List Value} (h : w.ownsRow base e size v n xs) (hb : base' ≤ base) : w.ownsRow base' e size v n xs := by
  obtain ⟨h1, h2⟩ := h
  refine ⟨h1, ?_⟩
  rcases h2 with h2 | ⟨g, cap, cur, hv, hg, r⟩
  · exact .inl h2
  · exact .inr ⟨g, cap, cur, hv, Nat.le_trans hb hg, r⟩

/-- The first k bytes are laid, the rest is nought. -/
def part (zs : List Int) (k : Nat) : List Value := U (zs.take k) ++ List.replicate (zs.length - k) (.int .u8 0)
theorem part_zero (zs : List Int) : part zs 0 = List.replicate zs.length (.int .u8 0) := by simp [part, U]
theorem part_all (zs : List Int) : part zs zs.length = U zs := by simp [part]
theorem part_set (zs : List Int) (k : Nat) (h : k < zs.length) : (part zs k).set k (.int .u8 (zs[k]?.getD 0)) = part zs (k + 1) := by
  have hl : (U (zs.take k)).length = k := by simp [U]; omega
  unfold part
  rw [List.set_append_right _ _ (by omega), hl, Nat.sub_self, show zs.length - k = (zs.length - (k + 1)) + 1 by omega, List.replicate_succ, List.set_cons_zero, List.take_succ_eq_append_getElem h, U_append, List.append_assoc]
  simp [U, h]

set_option maxHeartbeats 400000 in
theorem copy_nil (w : World) :
    Calls Try.prog 6 #[.slice none 0 0] w fun e w' => ∃ v, e = .returned v ∧ w'.ownsRow w.heap.size 5 1 v 0 (U []) ∧ Below w.heap.size w w' := by
  have q22 : ∀ (w : World) (a : Option Addr) (n c n' c' : Nat), (binOp .eql 22 (.slice a n c) (.slice none n' c')).run Try.prog w = .ok (.bool a.isNone) w := fun w a n c n' c' => Lib.run_eql_slice_nil w _ _ a n c n' c' Try.underlying22
  go_enter Try.func6, Try.ntmps6
  go_wp2
  go_ret
  exact ⟨_, rfl, World.ownsRow_nil _ _ _ _, Below.refl _ _⟩

set_option maxHeartbeats 400000 in
theorem copy_empty (x : Addr) (c : Nat) (w : World) :
    Calls Try.prog 6 #[.slice (some x) 0 c] w fun e w' => ∃ v, e = .returned v ∧ w'.ownsRow w.heap.size 5 1 v 0 (U []) ∧ Below w.heap.size w w' := by
  obtain ⟨i0, hi, hz0, hz1, hz2⟩ := info_parts Try.info5
  have q22 : ∀ (w : World) (a : Option Addr) (n c n' c' : Nat), (binOp .eql 22 (.slice a n c) (.slice none n' c')).run Try.prog w = .ok (.bool a.isNone) w := fun w a n c n' c' => Lib.run_eql_slice_nil w _ _ a n c n' c' Try.underlying22
  go_enter Try.func6, Try.ntmps6
  go_wp2_with (at_make; refine wpList_make_full _ rfl _ _ 22 rfl w.heap.size 5 i0 (.int .u8 0) 1 Try.underlying22 hi hz0 hz1 _ _ _ _ 0 rfl rfl (by omega) (by omega) (by omega) (by unfold maxLen; omega) (Nat.le_refl _) ?_; intro w0 hown0 hgrow0)
  go_loopw [4] (fun i wr => i = .int .i64 0 ∧ wr = w0) (fun _ _ => 0)
  case atStart => exact ⟨rfl, rfl⟩
  case round =>
    obtain ⟨rfl, rfl⟩ := hrel
    go_wp2
    go_ret
    exact ⟨_, rfl, by simpa [U, madeCells] using hown0, (Below.refl _ _).grown hgrow0 (Nat.le_refl _) (fun k h => by cases h)⟩

set_option maxHeartbeats 400000 in
set_option maxRecDepth 1000000 in
theorem copy_row (b off n cap : Nat) (zs : List Int) (w : World) (hz : zs.length = n) (hn : n ≤ 524288) (hb : b < w.heap.size) (hc : ∀ j, j < n → w.cell? ⟨b, off + j, none⟩ = some (.int .u8 (zs.getD j 0))) :
    Calls Try.prog 6 #[.slice (some ⟨b, off, none⟩) n cap] w fun e w' => ∃ v, e = .returned v ∧ w'.ownsRow w.heap.size 5 1 v n (U zs) ∧ Below w.heap.size w w' := by
  obtain ⟨i0, hi, hz0, hz1, hz2⟩ := info_parts Try.info5
  have q22 : ∀ (w : World) (a : Option Addr) (n c n' c' : Nat), (binOp .eql 22 (.slice a n c) (.slice none n' c')).run Try.prog w = .ok (.bool a.isNone) w := fun w a n c n' c' => Lib.run_eql_slice_nil w _ _ a n c n' c' Try.underlying22
  go_enter Try.func6, Try.ntmps6
  go_wp2_with (at_make; refine wpList_make_full _ rfl _ _ 22 rfl w.heap.size 5 i0 (.int .u8 0) 1 Try.underlying22 hi hz0 hz1 _ _ _ _ n rfl rfl (by omega) (by omega) (by rw [hz2]; omega) (by unfold maxLen; omega) (Nat.le_refl _) ?_; intro w0 hown0 hgrow0)
  have hp0 : w0.ownsRow w.heap.size 5 1 (.slice (some ⟨w.heap.size, 0, none⟩) n n) n (part zs 0) := by
    rw [part_zero, hz, ← toList_madeCells_one]; rw [Nat.mul_one] at hown0; exact hown0
  clear hown0
  go_loopw [4] (fun i wr => ∃ k : Nat, k ≤ n ∧ i = .int .i64 k ∧ wr.ownsRow w.heap.size 5 1 (.slice (some ⟨w.heap.size, 0, none⟩) n n) n (part zs k) ∧ Below w.heap.size w wr) (fun i _ => n - (intOf i).toNat)
  case atStart => exact ⟨0, Nat.zero_le _, rfl, hp0, (Below.refl _ _).grown hgrow0 (Nat.le_refl _) (fun k h => by cases h)⟩
  case round =>
    obtain ⟨k, hk, rfl, hown, hnx⟩ := hrel
    by_cases hlt : k < n
    · obtain ⟨z, HZ⟩ : ∃ z, Hid (z = zs[k]?.getD 0) := ⟨_, rfl⟩
      have hcx : wr.cell? ⟨b, off + k, none⟩ = some (.int .u8 z) := by rw [HZ.out, ← List.getD_eq_getElem?_getD]; exact (hnx.cell (by exact hb)).trans (hc k hlt)
      obtain ⟨old, hold⟩ : ∃ old, wr.cell? ⟨w.heap.size, k, none⟩ = some old := by
        rw [hown.cellAt k (by omega)]; exact ⟨_, List.getElem?_eq_getElem (by rw [hown.1]; omega)⟩
      have hfz := hown.frozenAt k
      have hst := hown.stored k (.int .u8 z)
      rw [HZ.out, part_set zs k (by omega), ← HZ.out] at hst
      have HS := hide hst.1
      have HB := hide (hnx.setCell (p := ⟨w.heap.size, k, none⟩) (Nat.le_refl _) (.int .u8 z))
      clear hst hnx hc hown hp0 hgrow0
      go_wp2
      go_roundw
      case rel => exact ⟨k + 1, by omega, by go_num, HS.out, HB.out⟩
      case measure => simp [intOf]; omega
    · have hkn : k = n := by omega
      subst hkn
      go_wp2
      go_ret
      exact ⟨_, rfl, by rw [← hz, part_all] at hown; rw [hz] at hown; exact hown, hnx⟩

/-- A slice value of bytes, as a walk reads it: nil; or empty; or its cells at a plain address. -/
def RowIn (w : World) (a : Option Addr) (len cap : Nat) (zs : List Int) : Prop :=
  (a = none ∧ len = 0 ∧ cap = 0 ∧ zs = []) ∨ (∃ x, a = some x ∧ len = 0 ∧ zs = []) ∨
  ∃ b off, a = some ⟨b, off, none⟩ ∧ zs.length = len ∧ b < w.heap.size ∧ ∀ j, j < len → w.cell? ⟨b, off + j, none⟩ = some (.int .u8 (zs.getD j 0))
theorem RowIn.len {w : World} {a : Option Addr} {len cap : Nat} {zs : List Int} (h : RowIn w a len cap zs) : zs.length = len := by
  rcases h with ⟨_, h, _, rfl⟩ | ⟨_, _, h, rfl⟩ | ⟨_, _, _, h, _⟩
  · simp [h]
  · simp [h]
  · exact h
theorem copy_any (a : Option Addr) (n cap : Nat) (zs : List Int) (w : World) (h : RowIn w a n cap zs) (hn : n ≤ 524288) :
    Calls Try.prog 6 #[.slice a n cap] w fun e w' => ∃ v, e = .returned v ∧ w'.ownsRow w.heap.size 5 1 v n (U zs) ∧ Below w.heap.size w w' := by
  rcases h with ⟨rfl, rfl, rfl, rfl⟩ | ⟨x, rfl, rfl, rfl⟩ | ⟨b, off, rfl, hz, hb, hc⟩
  · exact copy_nil w
  · exact copy_empty x cap w
  · exact copy_row b off n cap zs w hz hn hb hc
/-- An owned row, read. -/
theorem owns_row {w : World} {base n : Nat} {v : Value} {zs : List Int} (h : w.ownsRow base 5 1 v n (U zs)) : ∃ a cap, v = .slice a n cap ∧ RowIn w a n cap zs := by
  have hl : zs.length = n := by have := h.1; simpa [U] using this
  rcases h.2 with ⟨rfl, rfl⟩ | ⟨g, cap, cur, rfl, hg, hh, r⟩
  · exact ⟨none, 0, rfl, .inl ⟨rfl, rfl, rfl, List.eq_nil_of_length_eq_zero hl⟩⟩
  · refine ⟨_, cap, rfl, .inr (.inr ⟨g, 0, rfl, hl, (Array.getElem?_eq_some_iff.1 hh).1, fun j hj => ?_⟩)⟩
    rw [Nat.zero_add, h.cellAt j (by omega), U_get (by omega)]
theorem RowIn.below {w w' : World} {a : Option Addr} {len cap : Nat} {zs : List Int} (h : RowIn w a len cap zs) (hb : Below w.heap.size w w') : RowIn w' a len cap zs := by
  rcases h with h | h | ⟨b, off, h1, h2, h3, h4⟩
  · exact .inl h
  · exact .inr (.inl h)
  · exact .inr (.inr ⟨b, off, h1, h2, Nat.lt_of_lt_of_le h3 hb.size, fun j hj => (hb.cell (p := ⟨b, off + j, none⟩) h3).trans (h4 j hj)⟩)

set_option maxHeartbeats 400000 in
theorem equal_empty (a a' : Option Addr) (c c' : Nat) (w : World) :
    Calls Try.prog 9 #[.slice a 0 c, .slice a' 0 c'] w fun e w' => e = .returned (.bool true) ∧ ∃ q, w' = w.drewN q := by
  go_enter Try.func9, Try.ntmps9
  go_wp2
  go_loop [5] (fun i => i = .int .i64 0) (fun _ => 0)
  case atStart => rfl
  case round =>
    subst hrel
    go_wp2
    go_ret
    exact ⟨rfl, 0, rfl⟩

set_option maxHeartbeats 400000 in
set_option maxRecDepth 1000000 in
theorem equal_row (b off b' off' n c c' : Nat) (zs : List Int) (w : World) (hn : n ≤ 2097152)
    (h1 : ∀ j, j < n → w.cell? ⟨b, off + j, none⟩ = some (.int .u8 (zs.getD j 0))) (h2 : ∀ j, j < n → w.cell? ⟨b', off' + j, none⟩ = some (.int .u8 (zs.getD j 0))) :
    Calls Try.prog 9 #[.slice (some ⟨b, off, none⟩) n c, .slice (some ⟨b', off', none⟩) n c'] w fun e w' => e = .returned (.bool true) ∧ ∃ q, w' = w.drewN q := by
  go_enter Try.func9, Try.ntmps9
  go_wp2
  go_loopw [5] (fun i wr => ∃ k q : Nat, k ≤ n ∧ i = .int .i64 k ∧ wr = w.drewN q) (fun i _ => n - (intOf i).toNat)
  case atStart => exact ⟨0, 0, Nat.zero_le _, rfl, rfl⟩
  case round =>
    obtain ⟨k, q, hk, rfl, rfl⟩ := hrel
    by_cases hlt : k < n
    · obtain ⟨z, HZ⟩ : ∃ z, Hid (z = zs.getD k 0) := ⟨_, rfl⟩
      have g1 : w.cell? ⟨b, off + k, none⟩ = some (.int .u8 z) := by rw [HZ.out]; exact h1 k hlt
      have g2 : w.cell? ⟨b', off' + k, none⟩ = some (.int .u8 z) := by rw [HZ.out]; exact h2 k hlt
      clear h1 h2
      have hkn : (k : Int) < (n : Int) := by omega
      go_wp2
      go_quiet (fail)
      go_wp2
      go_roundw
      case rel => exact ⟨k + 1, q + nq, by omega, by go_num, rfl⟩
      case measure => simp [intOf]; omega
    · go_wp2
      go_ret
      exact ⟨rfl, q, rfl⟩

theorem equal_any (a a' : Option Addr) (n c n' c' : Nat) (zs : List Int) (w : World) (h : RowIn w a n c zs) (h' : RowIn w a' n' c' zs) (hn : n ≤ 2097152) :
    Calls Try.prog 9 #[.slice a n c, .slice a' n' c'] w fun e w' => e = .returned (.bool true) ∧ ∃ q, w' = w.drewN q := by
  have e : n = n' := h.len.symm.trans h'.len
  subst e
  by_cases h0 : n = 0
  · subst h0; exact equal_empty a a' c c' w
  · rcases h with ⟨_, h1, _⟩ | ⟨_, _, h1, _⟩ | ⟨b, off, rfl, _, _, h1⟩
    · omega
    · omega
    · rcases h' with ⟨_, h2, _⟩ | ⟨_, _, h2, _⟩ | ⟨b', off', rfl, _, _, h2⟩
      · omega
      · omega
      · exact equal_row b off b' off' n c c' zs w hn h1 h2

set_option maxHeartbeats 400000 in
theorem prefix_empty (a a' : Option Addr) (n c c' : Nat) (w : World) (_hn : n ≤ 2097152) :
    Calls Try.prog 12 #[.slice a n c, .slice a' 0 c'] w fun e w' => e = .returned (.bool true) ∧ ∃ q, w' = w.drewN q := by
  go_enter Try.func12, Try.ntmps12
  go_wp2
  go_loop [5] (fun i => i = .int .i64 0) (fun _ => 0)
  case atStart => rfl
  case round =>
    subst hrel
    go_wp2
    go_ret
    exact ⟨rfl, 0, rfl⟩

set_option maxHeartbeats 400000 in
set_option maxRecDepth 1000000 in
theorem prefix_row (b off b' off' n n' c c' : Nat) (zs ys : List Int) (w : World) (hn : n ≤ 2097152) (hnn : n' ≤ n) (hzy : ∀ j, j < n' → zs.getD j 0 = ys.getD j 0)
    (h1 : ∀ j, j < n → w.cell? ⟨b, off + j, none⟩ = some (.int .u8 (zs.getD j 0))) (h2 : ∀ j, j < n' → w.cell? ⟨b', off' + j, none⟩ = some (.int .u8 (ys.getD j 0))) :
    Calls Try.prog 12 #[.slice (some ⟨b, off, none⟩) n c, .slice (some ⟨b', off', none⟩) n' c'] w fun e w' => e = .returned (.bool true) ∧ ∃ q, w' = w.drewN q := by
  have HZY := hide hzy
  clear hzy
  go_enter Try.func12, Try.ntmps12
  go_wp2
  go_loopw [5] (fun i wr => ∃ k q : Nat, k ≤ n' ∧ i = .int .i64 k ∧ wr = w.drewN q) (fun i _ => n' - (intOf i).toNat)
  case atStart => exact ⟨0, 0, Nat.zero_le _, rfl, rfl⟩
  case round =>
    obtain ⟨k, q, hk, rfl, rfl⟩ := hrel
    by_cases hlt : k < n'
    · obtain ⟨z, HZ⟩ : ∃ z, Hid (z = zs.getD k 0) := ⟨_, rfl⟩
      have g1 : w.cell? ⟨b, off + k, none⟩ = some (.int .u8 z) := by rw [HZ.out]; exact h1 k (by omega)
      have g2 : w.cell? ⟨b', off' + k, none⟩ = some (.int .u8 z) := by rw [HZ.out, HZY.out k hlt]; exact h2 k hlt
      clear h1 h2
      have hkn : (k : Int) < (n : Int) := by omega
      have hkn' : (k : Int) < (n' : Int) := by omega
      go_wp2
      go_quiet (fail)
      go_wp2
      go_roundw
      case rel => exact ⟨k + 1, q + nq, by omega, by go_num, rfl⟩
      case measure => simp [intOf]; omega
    · go_wp2
      go_ret
      exact ⟨rfl, q, rfl⟩

theorem prefix_any (a a' : Option Addr) (n c n' c' : Nat) (zs ys : List Int) (w : World) (h : RowIn w a n c (ys ++ zs)) (h' : RowIn w a' n' c' ys) (hn : n ≤ 2097152) :
    Calls Try.prog 12 #[.slice a n c, .slice a' n' c'] w fun e w' => e = .returned (.bool true) ∧ ∃ q, w' = w.drewN q := by
  have e1 := h.len
  have e2 := h'.len
  simp only [List.length_append] at e1
  by_cases h0 : n' = 0
  · subst h0; exact prefix_empty a a' n c c' w hn
  · rcases h with ⟨_, h1, _⟩ | ⟨_, _, h1, _⟩ | ⟨b, off, rfl, _, _, h1⟩
    · omega
    · omega
    · rcases h' with ⟨_, h2, _⟩ | ⟨_, _, h2, _⟩ | ⟨b', off', rfl, _, _, h2⟩
      · omega
      · omega
      · exact prefix_row b off b' off' n n' c c' _ ys w hn (by omega) (fun j hj => by simp [List.getElem?_append_left (show j < ys.length by omega)]) h1 h2

end Go.Proofs.Qxb6627997a
