import Derived.Test.Qxb6628570aLeaf
import Derived.RegionTactic
import Derived.BigRegion
import Derived.Deep.RegionHeld3
namespace Go.Proofs.Qxb6628570a
open Go.RowKit

theorem Try.info34 : (Try.prog.info? 34).map (fun i => (i.zero, i.size, i.bytes)) = some (some (.agg #[.string ⟨#[]⟩, .int .u8 0, .int .i64 0, .bool false]), 4, 40) := by kernel_rfl

/-- The cells of one column. -/
def cc (x : Col) : List Value := [.string x.1, .int .u8 x.2.1, .int .i64 x.2.2.1, .bool x.2.2.2]
/-- The cells of a row of columns. -/
def CC : List Col → List Value
  | [] => []
  | x :: r => cc x ++ CC r
theorem CC_len (L : List Col) : (CC L).length = L.length * 4 := by
  induction L with
  | nil => rfl
  | cons x r ih => simp only [CC, cc, List.length_append, List.length_cons, List.length_nil, ih]; omega
theorem CC_append (l r : List Col) : CC (l ++ r) = CC l ++ CC r := by
  induction l with
  | nil => rfl
  | cons x l ih => simp [CC, ih]
theorem CC_get (L : List Col) (k t : Nat) (h : k < L.length) (ht : t < 4) : (CC L)[k * 4 + t]? = (cc (col L k))[t]? := by
  induction L generalizing k with
  | nil => simp at h
  | cons x r ih =>
    cases k with
    | zero => simp only [CC]; rw [List.getElem?_append_left (by simp [cc]; omega)]; simp [col]
    | succ k =>
      have := ih k (by simpa using h)
      simp only [CC]
      rw [List.getElem?_append_right (by simp [cc]; omega), show (k + 1) * 4 + t - (cc x).length = k * 4 + t by simp [cc]; omega, this]
      simp [col]
/-- The zero column. -/
def zc : Col := (⟨#[]⟩, 0, 0, false)
/-- The first k columns are laid, the rest is nought. -/
def part (L : List Col) (n k : Nat) : List Value := CC (L.take k ++ List.replicate (n - k) zc)
theorem set4 (A B : List Col) (x y : Col) (k : Nat) (h : A.length = k) :
    ((((CC (A ++ y :: B)).set (k * 4) (.string x.1)).set (k * 4 + 1) (.int .u8 x.2.1)).set (k * 4 + 2) (.int .i64 x.2.2.1)).set (k * 4 + 3) (.bool x.2.2.2) = CC (A ++ x :: B) := by
  have hl : (CC A).length = k * 4 := by rw [CC_len, h]
  rw [CC_append, CC_append]
  simp only [CC, cc]
  rw [List.set_append_right _ _ (by omega), List.set_append_right _ _ (by omega), List.set_append_right _ _ (by omega), List.set_append_right _ _ (by omega), hl,
    Nat.sub_self, show k * 4 + 1 - k * 4 = 1 by omega, show k * 4 + 2 - k * 4 = 2 by omega, show k * 4 + 3 - k * 4 = 3 by omega]
  simp
theorem part_set (L : List Col) (n k : Nat) (hL : L.length = n) (h : k < n) (x : Col) (hx : col L k = x) :
    ((((part L n k).set (k * 4) (.string x.1)).set (k * 4 + 1) (.int .u8 x.2.1)).set (k * 4 + 2) (.int .i64 x.2.2.1)).set (k * 4 + 3) (.bool x.2.2.2) = part L n (k + 1) := by
  unfold part
  rw [show n - k = n - (k + 1) + 1 by omega, List.replicate_succ, set4 _ _ x zc k (by rw [List.length_take]; omega), List.take_succ_eq_append_getElem (by omega)]
  have : L[k]'(by omega) = x := by rw [← hx]; simp [col, show k < L.length by omega]
  rw [this]
  simp
theorem part_all (L : List Col) (n : Nat) (hL : L.length = n) : part L n n = CC L := by simp [part, ← hL]

theorem CC_replicate (n : Nat) (j : Nat) (h : j < n * 4) : (CC (List.replicate n zc))[j]? = (cc zc)[j % 4]? := by
  have := CC_get (List.replicate n zc) (j / 4) (j % 4) (by simp; omega) (by omega)
  rw [show j / 4 * 4 + j % 4 = j by omega] at this
  rw [this]
  congr 2
  simp [col, show j / 4 < n by omega]
theorem made_four (n : Nat) : (madeCells (Value.agg #[.string ⟨#[]⟩, .int .u8 0, .int .i64 0, .bool false]).cells (n * 4)).toList = CC (List.replicate n zc) := by
  show (madeCells #[.string ⟨#[]⟩, .int .u8 0, .int .i64 0, .bool false] (n * 4)).toList = _
  apply List.ext_getElem?
  intro j
  by_cases hj : j < n * 4
  · rw [CC_replicate n j hj]
    have h2 : j % 4 = 0 ∨ j % 4 = 1 ∨ j % 4 = 2 ∨ j % 4 = 3 := by omega
    rcases h2 with h2 | h2 | h2 | h2 <;> simp [madeCells, hj, h2, cc, zc]
  · have e : (CC (List.replicate n zc))[j]? = none := List.getElem?_eq_none (by rw [CC_len]; simp; omega)
    rw [e]
    simp [madeCells, hj]

theorem keep4 (wr : World) (S : Nat) (v0 v1 v2 v3 : Value) (i0 i1 i2 i3 : Nat) (o : Obj) (b j : Nat) (hb : b < S) (hS : S < wr.heap.size) :
    ((((((wr.setCell ⟨S, i0, none⟩ v0).setCell ⟨S, i1, none⟩ v1).setCell ⟨S, i2, none⟩ v2).setCell ⟨S, i3, none⟩ v3).alloc o).drew).cell? ⟨b, j, none⟩ = wr.cell? ⟨b, j, none⟩ := by
  have h : Below S wr (((((wr.setCell ⟨S, i0, none⟩ v0).setCell ⟨S, i1, none⟩ v1).setCell ⟨S, i2, none⟩ v2).setCell ⟨S, i3, none⟩ v3).alloc o).drew :=
    ((((((Below.refl S wr).setCell (p := ⟨S, i0, none⟩) (Nat.le_refl _) v0).setCell (p := ⟨S, i1, none⟩) (Nat.le_refl _) v1).setCell (p := ⟨S, i2, none⟩) (Nat.le_refl _) v2).setCell (p := ⟨S, i3, none⟩) (Nat.le_refl _) v3).alloc (by simp; omega) o).drew
  exact h.cell (p := ⟨b, j, none⟩) hb

set_option maxHeartbeats 400000 in
theorem to7_nil (w : World) :
    Calls Try.prog 7 #[.slice none 0 0] w fun e w' => e = .returned (.slice none 0 0) ∧ w' = w := by
  have q22 : ∀ (w : World) (a : Option Addr) (n c n' c' : Nat), (binOp .eql 22 (.slice a n c) (.slice none n' c')).run Try.prog w = .ok (.bool a.isNone) w := fun w a n c n' c' => Lib.run_eql_slice_nil w _ _ a n c n' c' Try.underlying22
  go_enter Try.func7, Try.ntmps7
  go_wp2
  go_ret
  exact ⟨rfl, rfl⟩

set_option maxHeartbeats 1000000 in
set_option maxRecDepth 1000000 in
theorem to7 (x : Addr) (n c : Nat) (L : List Col) (w : World) (hn : n ≤ 65536) (hin : ColIn w (some x) n c L) :
    Calls Try.prog 7 #[.slice (some x) n c] w fun e w' => e = .returned (.slice (some ⟨w.heap.size, 0, none⟩) n n) ∧ w'.ownsRow w.heap.size 34 4 (.slice (some ⟨w.heap.size, 0, none⟩) n n) n (CC L) ∧ Below w.heap.size w w' := by
  obtain ⟨i0, hi, hz0, hz1, hz2⟩ := info_parts Try.info34
  have hL := hide hin.len
  have HIN := hide hin
  clear hin
  have q22 : ∀ (w : World) (a : Option Addr) (n c n' c' : Nat), (binOp .eql 22 (.slice a n c) (.slice none n' c')).run Try.prog w = .ok (.bool a.isNone) w := fun w a n c n' c' => Lib.run_eql_slice_nil w _ _ a n c n' c' Try.underlying22
  go_enter Try.func7, Try.ntmps7
  go_wp2_with (at_make; refine wpList_make_full _ rfl _ _ 25 rfl w.heap.size 34 i0 (.agg #[.string ⟨#[]⟩, .int .u8 0, .int .i64 0, .bool false]) 4 Try.underlying25 hi hz0 hz1 _ _ _ _ n rfl rfl (by omega) (by omega) (by rw [hz2]; omega) (by unfold maxLen; omega) (Nat.le_refl _) ?_; intro w0 hown0 hgrow0)
  have hp0 : w0.ownsRow w.heap.size 34 4 (.slice (some ⟨w.heap.size, 0, none⟩) n n) n (part L n 0) := by
    unfold part; rw [made_four] at hown0; simpa using hown0
  clear hown0 q22
  go_loopw [4] (fun i wr => ∃ k : Nat, k ≤ n ∧ i = .int .i64 k ∧ wr.ownsRow w.heap.size 34 4 (.slice (some ⟨w.heap.size, 0, none⟩) n n) n (part L n k) ∧ Below w.heap.size w wr) (fun i _ => n - (intOf i).toNat)
  case atStart => exact ⟨0, Nat.zero_le _, rfl, hp0, (Below.refl _ _).grown hgrow0 (Nat.le_refl _) (fun k h => by cases h)⟩
  case round =>
    obtain ⟨k, hk, rfl, hown, hnx⟩ := hrel
    by_cases hlt : k < n
    · obtain ⟨b, off, x1, x2, x3, x4, e, hbw, hx, d1, d2, d3, d4⟩ := HIN.out.at hlt
      obtain rfl : x = ⟨b, off, none⟩ := by simpa using e
      clear e
      have c1 : wr.cell? ⟨b, off + k * 4, none⟩ = some (.string x1) := (hnx.cell (p := ⟨b, off + k * 4, none⟩) hbw).trans d1
      have c2 : wr.cell? ⟨b, off + k * 4 + 1, none⟩ = some (.int .u8 x2) := (hnx.cell (p := ⟨b, off + k * 4 + 1, none⟩) hbw).trans d2
      have c3 : wr.cell? ⟨b, off + k * 4 + 2, none⟩ = some (.int .i64 x3) := (hnx.cell (p := ⟨b, off + k * 4 + 2, none⟩) hbw).trans d3
      have c4 : wr.cell? ⟨b, off + k * 4 + 3, none⟩ = some (.bool x4) := (hnx.cell (p := ⟨b, off + k * 4 + 3, none⟩) hbw).trans d4
      clear d1 d2 d3 d4
      have hkn : (k : Int) < (n : Int) := by omega
      have hbl : w.heap.size < wr.heap.size := (hown.lt _ rfl).2
      have hbne : ¬ b = w.heap.size := by omega
      have f0 := hown.frozenAt (k * 4)
      have f1 := hown.frozenAt (k * 4 + 1)
      have f2 := hown.frozenAt (k * 4 + 2)
      have f3 := hown.frozenAt (k * 4 + 3)
      have hold : ∀ j, j < n * 4 → ∃ old, wr.cell? ⟨w.heap.size, j, none⟩ = some old := fun j hj => by
        rw [hown.cellAt j (by omega)]; exact ⟨_, List.getElem?_eq_getElem (by rw [hown.1]; omega)⟩
      obtain ⟨o0, ho0⟩ := hold (k * 4) (by omega)
      obtain ⟨o1, ho1⟩ := hold (k * 4 + 1) (by omega)
      obtain ⟨o2, ho2⟩ := hold (k * 4 + 2) (by omega)
      obtain ⟨o3, ho3⟩ := hold (k * 4 + 3) (by omega)
      have hst := ((((hown.stored (k * 4) (.string x1)).1.stored (k * 4 + 1) (.int .u8 x2)).1.stored (k * 4 + 2) (.int .i64 x3)).1.stored (k * 4 + 3) (.bool x4)).1
      rw [part_set L n k hL.out hlt (x1, x2, x3, x4) hx] at hst
      have HS := hide hst
      have HB := hide ((((hnx.setCell (p := ⟨w.heap.size, k * 4, none⟩) (Nat.le_refl _) (.string x1)).setCell (p := ⟨w.heap.size, k * 4 + 1, none⟩) (Nat.le_refl _) (.int .u8 x2)).setCell (p := ⟨w.heap.size, k * 4 + 2, none⟩) (Nat.le_refl _) (.int .i64 x3)).setCell (p := ⟨w.heap.size, k * 4 + 3, none⟩) (Nat.le_refl _) (.bool x4))
      clear hst hold hown hnx hx hp0 hgrow0
      go_wp2
      go_region_held3 (fun w' => w'.cell? ⟨b, off + k * 4, none⟩ = some (.string x1) ∧ w'.cell? ⟨b, off + k * 4 + 1, none⟩ = some (.int .u8 x2) ∧ w'.cell? ⟨b, off + k * 4 + 2, none⟩ = some (.int .i64 x3) ∧ w'.cell? ⟨b, off + k * 4 + 3, none⟩ = some (.bool x4)) (first | (refine ⟨?_, ?_, ?_, ?_⟩ <;> (rw [keep4 _ _ _ _ _ _ _ _ _ _ _ _ _ hbw hbl]; assumption)) | go_keep)
        (first | (go_at_call 10; refine (col10 _ _ _ _ _).mono ?_; rintro e w' ⟨rfl, o, rfl⟩))
      have HS2 := hide (HS.out.alloc o).drew
      have HB2 := hide (HB.out.alloc (by simp; omega) o).drew
      clear HS HB c1 c2 c3 c4 f0 f1 f2 f3 ho0 ho1 ho2 ho3
      rename_i hHeld
      clear hHeld
      go_wp2
      go_roundw
      case rel => exact ⟨k + 1, by omega, by go_num, HS2.out, HB2.out⟩
      case measure => simp [intOf]; omega
    · have hkn : k = n := by omega
      subst hkn
      go_wp2
      go_ret
      exact ⟨rfl, by rw [part_all L k hL.out] at hown; exact hown, hnx⟩
end Go.Proofs.Qxb6628570a
