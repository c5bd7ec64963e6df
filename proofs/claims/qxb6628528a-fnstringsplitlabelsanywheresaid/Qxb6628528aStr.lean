import Derived.Test.Qxb6628528aMem
import Derived.Test.Qxb6628528aShelf
import Derived.Deep.RegionWith
namespace Go.Proofs.Qxb6628528a
open Go.RowKit

theorem Try.info9 : (Try.prog.info? 9).map (fun i => (i.zero, i.size, i.bytes)) = some (some (.string ⟨#[]⟩), 1, 16) := by kernel_rfl

set_option maxHeartbeats 400000 in
theorem str8_none (nm id : ByteArray) (a : Option Addr) (c : Nat) (w : World) :
    Calls Try.prog 8 #[.agg #[.string nm, .string id, .slice a 0 c]] w fun e w' => e = .returned (.string nm) ∧ Below w.heap.size w w' := by
  go_enter Try.func8, Try.ntmps8
  go_wp2
  go_ret
  exact ⟨rfl, (Below.refl _ _).alloc (Nat.le_refl _) _⟩

/-- name=value -/
def item (x : Lab) : ByteArray := x.1 ++ ⟨#[61]⟩ ++ x.2
/-- The cells of the items. -/
def IC (L : List Lab) : List Value := L.map fun x => .string (item x)
def ipart (L : List Lab) (n k : Nat) : List Value := IC (L.take k) ++ List.replicate (n - k) (.string ⟨#[]⟩)
theorem ipart_set (L : List Lab) (n k : Nat) (hL : L.length = n) (h : k < n) (x1 x2 : ByteArray) (hx : lab L k = (x1, x2)) : (ipart L n k).set k (.string (x1 ++ ⟨#[61]⟩ ++ x2)) = ipart L n (k + 1) := by
  have hl : (IC (L.take k)).length = k := by simp [IC]; omega
  unfold ipart
  rw [List.set_append_right _ _ (by omega), hl, Nat.sub_self, show n - k = n - (k + 1) + 1 by omega, List.replicate_succ, List.set_cons_zero, List.take_succ_eq_append_getElem (by omega)]
  have : L[k]'(by omega) = (x1, x2) := by rw [← hx]; simp [lab, show k < L.length by omega]
  rw [this]
  simp [IC, item]
theorem ipart_all (L : List Lab) (n : Nat) (hL : L.length = n) : ipart L n n = IC L := by simp [ipart, ← hL]

/-- The items, joined. -/
def joinL (L : List Lab) : ByteArray := ⟨(Lib.join ((L.map item).map (·.data.toList)) [44, 32]).toArray⟩
/-- What String answers. -/
def strOf (nm : ByteArray) (L : List Lab) : ByteArray := nm ++ ⟨#[32, 40]⟩ ++ joinL L ++ ⟨#[41]⟩
theorem size_append' (a b : ByteArray) : (a ++ b).size = a.size + b.size := ByteArray.size_append
theorem lens_items (L : List Lab) : Lib.lens ((L.map item).map (·.data.toList)) + 31 * L.length = wt L := by
  induction L with
  | nil => rfl
  | cons x r ih =>
    simp only [List.map_cons, List.length_cons, wt, Lib.lens, List.sum_cons] at ih ⊢
    have : (item x).data.toList.length = x.1.size + 1 + x.2.size := by
      have h : (item x).size = x.1.size + 1 + x.2.size := by unfold item; rw [size_append', size_append']; rfl
      exact h
    rw [this]
    omega
theorem join_len (L : List Lab) : (Lib.join ((L.map item).map (·.data.toList)) [44, 32]).length ≤ wt L := by
  cases L with
  | nil => simp [Lib.join]
  | cons x r =>
    have h := lens_items (x :: r)
    simp only [List.map_cons, List.length_cons] at h ⊢
    rw [Lib.join_length]
    simp only [List.length_cons, List.length_nil, List.length_map]
    omega
theorem joinL_size (L : List Lab) : (joinL L).size ≤ wt L := join_len L

theorem lab_le (L : List Lab) (k : Nat) (h : k < L.length) : (lab L k).1.size + (lab L k).2.size ≤ wt L := by
  have h1 := wt_take_succ L k h
  have h2 := wt_take_le L (k + 1)
  omega

theorem box_kept {w w' : World} {x0 x1 x2 : Value} {t : TypeId} (h : Below (w.heap.size + 1) (w.alloc (.cells #[x0, x1, x2] t)) w') : w'.cell? ⟨w.heap.size, 0, none⟩ = some x0 ∧ w'.cell? ⟨w.heap.size, 2, none⟩ = some x2 := by
  rw [h.cell (p := ⟨w.heap.size, 0, none⟩) (Nat.lt_succ_self _), h.cell (p := ⟨w.heap.size, 2, none⟩) (Nat.lt_succ_self _)]
  simp

set_option maxHeartbeats 1000000 in
set_option maxRecDepth 1000000 in
theorem str8_some (nm id : ByteArray) (b off n c : Nat) (L : List Lab) (w : World) (hn0 : 0 < n) (hn : n ≤ 1048577) (hin : LabIn w (some ⟨b, off, none⟩) n c L) (hwt : wt L ≤ 4000000) (hnm : nm.size ≤ 4000000) :
    Calls Try.prog 8 #[.agg #[.string nm, .string id, .slice (some ⟨b, off, none⟩) n c]] w fun e w' => e = .returned (.string (strOf nm L)) ∧ Below w.heap.size w w' := by
  obtain ⟨i0, hi, hz0, hz1, hz2⟩ := info_parts Try.info9
  have hL := hide hin.len
  have HIN := hide hin
  clear hin
  have hne : ((n : Int) == 0) = false := by simp; omega
  go_enter Try.func8, Try.ntmps8
  go_wp2_with (at_make; refine wpList_make_full _ rfl _ _ 37 rfl (w.heap.size + 1) 9 i0 (.string ⟨#[]⟩) 1 Try.underlying37 hi hz0 hz1 _ _ _ _ n rfl rfl (by omega) (by omega) (by rw [hz2]; omega) (by unfold maxLen; omega) ?_ ?_; (simp); intro w0 hown0 hgrow0; have hB0 := hide ((Below.refl (w.heap.size + 1) _).grown hgrow0 (by simp) (fun k h => by cases h)); obtain ⟨cb0, cb2⟩ := box_kept hB0.out)
  have hp0 : w0.ownsRow (w.heap.size + 1) 9 1 (.slice (some ⟨w.heap.size + 1, 0, none⟩) n n) n (ipart L n 0) := by
    have e : ipart L n 0 = (madeCells #[.string ⟨#[]⟩] n).toList := by rw [toList_madeCells_one]; simp [ipart, IC]
    rw [e]; rw [Nat.mul_one, World.size_alloc] at hown0; exact hown0
  clear hown0 hgrow0 cb0 cb2
  go_loopw [19] (fun i wr => ∃ k : Nat, k ≤ n ∧ i = .int .i64 k ∧ wr.ownsRow (w.heap.size + 1) 9 1 (.slice (some ⟨w.heap.size + 1, 0, none⟩) n n) n (ipart L n k) ∧ Below (w.heap.size + 1) (w.alloc (.cells #[.string nm, .string id, .slice (some ⟨b, off, none⟩) n c] 31)) wr) (fun i _ => n - (intOf i).toNat)
  case atStart => exact ⟨0, Nat.zero_le _, rfl, hp0, hB0.out⟩
  case round =>
    obtain ⟨k, hk, rfl, hown, hnx⟩ := hrel
    have hsz := hnx.size
    rw [World.size_alloc] at hsz
    obtain ⟨cb0, cb2⟩ := box_kept hnx
    have hbw : Below w.heap.size w wr := ((Below.refl w.heap.size w).alloc (Nat.le_refl _) _).trans (hnx.mono (Nat.le_succ _))
    by_cases hlt : k < n
    · obtain ⟨b', off', x1, x2, e, hx, c1, c2⟩ := (HIN.out.below hbw).at hlt
      obtain ⟨rfl, rfl⟩ : b = b' ∧ off = off' := by simpa using e
      clear e
      have hxs := lab_le L k (by rw [hL.out]; exact hlt)
      rw [hx] at hxs
      simp only at hxs
      have hbl : w.heap.size + 1 < wr.heap.size := (hown.lt _ rfl).2
      have f1 := hown.frozenAt k
      obtain ⟨o1, ho1⟩ : ∃ old, wr.cell? ⟨w.heap.size + 1, k, none⟩ = some old := by
        rw [hown.cellAt k (by omega)]; exact ⟨_, List.getElem?_eq_getElem (by rw [hown.1]; omega)⟩
      have hst := hown.stored k (.string (x1 ++ ⟨#[61]⟩ ++ x2))
      rw [ipart_set L n k hL.out hlt x1 x2 hx] at hst
      have HS := hide hst.1
      have HB := hide (hnx.setCell (p := ⟨w.heap.size + 1, k, none⟩) (Nat.le_refl _) (.string (x1 ++ ⟨#[61]⟩ ++ x2)))
      clear hst hx hbw hnx hown hp0
      go_wp2
      go_roundw
      case rel => exact ⟨k + 1, by omega, by go_num, HS.out.alloc _, HB.out.alloc (by simp; omega) _⟩
      case measure => simp [intOf]; omega
    · have hkn : k = n := by omega
      subst hkn
      rw [ipart_all L k hL.out] at hown
      have hbl : w.heap.size + 1 < wr.heap.size := (hown.lt _ rfl).2
      have hjl := join_len L
      have key : ∀ W : World, W.heap = wr.heap → Calls Try.prog 11 #[.slice (some ⟨w.heap.size + 1, 0, none⟩) k k, .string ⟨#[44, 32]⟩] W fun e w' => e = .returned (.string (joinL L)) ∧ Below W.heap.size W w' := by
        intro W hW
        have := Try.strings_Join (w.heap.size + 1) 0 k (L.map item) ⟨#[44, 32]⟩ W (fun j x hj => by
          have hjk : j < L.length := by have := (List.getElem?_eq_some_iff.1 hj).1; simpa using this
          have e1 := hown.cellAt j (by rw [← hL.out]; omega)
          rw [World.cell?_of_block (w := wr) (by rw [hW]), Nat.zero_add, e1]
          simp only [IC, List.getElem?_map] at hj ⊢
          rw [List.getElem?_eq_getElem hjk] at hj ⊢
          simp at hj ⊢
          exact hj) (by rw [hW]; exact hbl) (by simp; have := hL.out; omega) (by simp; have := hL.out; omega) (by show (Lib.join ((L.map item).map (·.data.toList)) [44, 32]).length ≤ _; omega)
        rw [List.length_map, hL.out] at this
        exact this
      have KEY := hide key
      have HW := hide hbw
      have hjs := joinL_size L
      clear key hown hnx hbw hp0 hjl
      go_wp2
      go_region_with (go_at_call 11; refine (KEY.out _ ?_).mono ?_; rfl; rintro e w3 ⟨rfl, hb3⟩; have cb3 : w3.cell? ⟨w.heap.size, 0, none⟩ = some (.string nm) := (hb3.cell (p := ⟨w.heap.size, 0, none⟩) (by simp; omega)).trans cb0)
      all_goals (go_wp2; go_ret; exact ⟨rfl, HW.out.drew.trans (hb3.mono (by simp; omega))⟩)

/-- The dependency's String, whatever its labels. -/
theorem str8 (nm id : ByteArray) (a : Option Addr) (n c : Nat) (L : List Lab) (w : World) (hn : n ≤ 1048577) (hin : LabIn w a n c L) (hwt : wt L ≤ 4000000) (hnm : nm.size ≤ 4000000) :
    Calls Try.prog 8 #[.agg #[.string nm, .string id, .slice a n c]] w fun e w' => e = .returned (.string (if n = 0 then nm else strOf nm L)) ∧ Below w.heap.size w w' := by
  by_cases h0 : n = 0
  · subst h0
    rw [if_pos rfl]
    exact str8_none nm id a c w
  · rw [if_neg h0]
    rcases (show LabIn w a n c L from hin) with ⟨h, _⟩ | ⟨b, off, rfl, _⟩
    · exact absurd h h0
    · exact str8_some nm id b off n c L w (by omega) hn hin hwt hnm
end Go.Proofs.Qxb6628528a
