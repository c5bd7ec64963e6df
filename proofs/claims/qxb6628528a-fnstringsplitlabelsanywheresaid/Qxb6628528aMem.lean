import Derived.Test.Qxb6628528aLeaf
import Derived.RegionTactic
import Derived.BigRegion
namespace Go.Proofs.Qxb6628528a
open Go.RowKit

theorem Try.info28 : (Try.prog.info? 28).map (fun i => (i.zero, i.size, i.bytes)) = some (some (.agg #[.string ⟨#[]⟩, .string ⟨#[]⟩]), 2, 32) := by kernel_rfl

/-- The cells of a row of labels. -/
def LC : List Lab → List Value
  | [] => []
  | x :: r => .string x.1 :: .string x.2 :: LC r
theorem LC_len (L : List Lab) : (LC L).length = L.length * 2 := by
  induction L with
  | nil => rfl
  | cons x r ih => simp only [LC, List.length_cons, ih]; omega
theorem LC_append (l r : List Lab) : LC (l ++ r) = LC l ++ LC r := by
  induction l with
  | nil => rfl
  | cons x l ih => simp [LC, ih]
theorem LC_get (L : List Lab) (k : Nat) (h : k < L.length) : (LC L)[k * 2]? = some (.string (lab L k).1) ∧ (LC L)[k * 2 + 1]? = some (.string (lab L k).2) := by
  induction L generalizing k with
  | nil => simp at h
  | cons x r ih =>
    cases k with
    | zero => simp [LC, lab]
    | succ k =>
      have := ih k (by simpa using h)
      simp only [LC]
      rw [show (k + 1) * 2 = k * 2 + 1 + 1 by omega]
      simpa [lab] using this

/-- The first k labels are laid, the rest is empty. -/
def part (L : List Lab) (n k : Nat) : List Value := LC (L.take k) ++ List.replicate ((n - k) * 2) (.string ⟨#[]⟩)
theorem part_set (L : List Lab) (n k : Nat) (hL : L.length = n) (h : k < n) (x1 x2 : ByteArray) (hx : lab L k = (x1, x2)) : ((part L n k).set (k * 2) (.string x1)).set (k * 2 + 1) (.string x2) = part L n (k + 1) := by
  have hl : (LC (L.take k)).length = k * 2 := by rw [LC_len, List.length_take]; congr 1; omega
  unfold part
  rw [List.set_append_right _ _ (by omega), List.set_append_right _ _ (by omega), hl, Nat.sub_self, show k * 2 + 1 - k * 2 = 1 by omega, show (n - k) * 2 = (n - (k + 1)) * 2 + 1 + 1 by omega, List.replicate_succ, List.replicate_succ, List.set_cons_zero, List.set_cons_succ, List.set_cons_zero,
    List.take_succ_eq_append_getElem (by omega), LC_append, List.append_assoc]
  have : L[k]'(by omega) = (x1, x2) := by rw [← hx]; simp [lab, show k < L.length by omega]
  rw [this]
  simp [LC]
theorem part_all (L : List Lab) (n : Nat) (hL : L.length = n) : part L n n = LC L := by simp [part, ← hL]

theorem made_two (n : Nat) : (madeCells (Value.agg #[.string ⟨#[]⟩, .string ⟨#[]⟩]).cells (n * 2)).toList = List.replicate (n * 2) (.string ⟨#[]⟩) := by
  show (madeCells #[.string ⟨#[]⟩, .string ⟨#[]⟩] (n * 2)).toList = _
  apply List.ext_getElem?
  intro j
  by_cases hj : j < n * 2
  · have h2 : j % 2 = 0 ∨ j % 2 = 1 := by omega
    rcases h2 with h2 | h2 <;> simp [madeCells, hj, h2]
  · simp [madeCells, hj]

set_option maxHeartbeats 400000 in
set_option maxRecDepth 1000000 in
theorem to7 (a : Option Addr) (n c : Nat) (L : List Lab) (w : World) (hn : n ≤ 1048576) (hin : LabIn w a n c L) :
    Calls Try.prog 7 #[.slice a n c] w fun e w' => e = .returned (.slice (some ⟨w.heap.size, 0, none⟩) n n) ∧ w'.ownsRow w.heap.size 28 2 (.slice (some ⟨w.heap.size, 0, none⟩) n n) n (LC L) ∧ Below w.heap.size w w' := by
  obtain ⟨i0, hi, hz0, hz1, hz2⟩ := info_parts Try.info28
  have hL := hide hin.len
  have HIN := hide hin
  clear hin
  go_enter Try.func7, Try.ntmps7
  go_wp2_with (at_make; refine wpList_make_full _ rfl _ _ 25 rfl w.heap.size 28 i0 (.agg #[.string ⟨#[]⟩, .string ⟨#[]⟩]) 2 Try.underlying25 hi hz0 hz1 _ _ _ _ n rfl rfl (by omega) (by omega) (by rw [hz2]; omega) (by unfold maxLen; omega) (Nat.le_refl _) ?_; intro w0 hown0 hgrow0)
  have hp0 : w0.ownsRow w.heap.size 28 2 (.slice (some ⟨w.heap.size, 0, none⟩) n n) n (part L n 0) := by
    unfold part; rw [made_two] at hown0; simpa [LC] using hown0
  clear hown0
  go_loopw [4] (fun i wr => ∃ k : Nat, k ≤ n ∧ i = .int .i64 k ∧ wr.ownsRow w.heap.size 28 2 (.slice (some ⟨w.heap.size, 0, none⟩) n n) n (part L n k) ∧ Below w.heap.size w wr) (fun i _ => n - (intOf i).toNat)
  case atStart => exact ⟨0, Nat.zero_le _, rfl, hp0, (Below.refl _ _).grown hgrow0 (Nat.le_refl _) (fun k h => by cases h)⟩
  case round =>
    obtain ⟨k, hk, rfl, hown, hnx⟩ := hrel
    by_cases hlt : k < n
    · obtain ⟨b, off, x1, x2, rfl, hx, c1, c2⟩ := (HIN.out.below hnx).at hlt
      have hkn : (k : Int) < (n : Int) := by omega
      have f1 := hown.frozenAt (k * 2)
      have f2 := hown.frozenAt (k * 2 + 1)
      obtain ⟨o1, ho1⟩ : ∃ old, wr.cell? ⟨w.heap.size, k * 2, none⟩ = some old := by
        rw [hown.cellAt (k * 2) (by omega)]; exact ⟨_, List.getElem?_eq_getElem (by rw [hown.1]; omega)⟩
      obtain ⟨o2, ho2⟩ : ∃ old, wr.cell? ⟨w.heap.size, k * 2 + 1, none⟩ = some old := by
        rw [hown.cellAt (k * 2 + 1) (by omega)]; exact ⟨_, List.getElem?_eq_getElem (by rw [hown.1]; omega)⟩
      have hst := (hown.stored (k * 2) (.string x1)).1.stored (k * 2 + 1) (.string x2)
      rw [part_set L n k hL.out hlt x1 x2 hx] at hst
      have HS := hide hst.1.drew
      have HB := hide ((hnx.setCell (p := ⟨w.heap.size, k * 2, none⟩) (Nat.le_refl _) (.string x1)).setCell (p := ⟨w.heap.size, k * 2 + 1, none⟩) (Nat.le_refl _) (.string x2)).drew
      clear hst hx hnx hown hp0 hgrow0
      go_wp2
      go_region
      go_wp2
      go_roundw
      case rel => exact ⟨k + 1, by omega, by go_num, HS.out, HB.out⟩
      case measure => simp [intOf]; omega
    · have hkn : k = n := by omega
      subst hkn
      go_wp2
      go_ret
      exact ⟨rfl, by rw [part_all L k hL.out] at hown; exact hown, hnx⟩
end Go.Proofs.Qxb6628528a
