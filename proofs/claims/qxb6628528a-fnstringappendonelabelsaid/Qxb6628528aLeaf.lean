import Derived.Test.Qxb6628528aProg
import Derived.WalkKit
import Derived.WalkSpells
import Derived.WalkLawsBesides
import Derived.Below
import Derived.Deep.QuietTactic
import Derived.BigQuiet
namespace Go.Proofs.Qxb6628528a
open Go.RowKit

theorem ret_bool {a b : Bool} (h : a = b) : Ending.returned (.bool a) = .returned (.bool b) := by rw [h]
theorem hide {p : Prop} (h : p) : Hid p := h

/-- The answer is a bool; where it is true, p holds. -/
def Fits (e : Ending) (p : Prop) : Prop := ∃ b : Bool, e = .returned (.bool b) ∧ (b = true → p)

theorem fits_no (p : Prop) : Fits (.returned (.bool false)) p := ⟨false, rfl, fun h => absurd h (by decide)⟩
theorem fits_yes {p : Prop} (h : p) : Fits (.returned (.bool true)) p := ⟨true, rfl, fun _ => h⟩

/-- A label: a name and a value. -/
abbrev Lab := ByteArray × ByteArray
/-- Label j. -/
def lab (L : List Lab) (j : Nat) : Lab := L.getD j (ByteArray.empty, ByteArray.empty)
/-- The bytes of the labels, 32 for each element besides. -/
def wt : List Lab → Nat
  | [] => 0
  | x :: r => 32 + x.1.size + x.2.size + wt r
theorem wt_append (l r : List Lab) : wt (l ++ r) = wt l + wt r := by
  induction l with
  | nil => simp [wt]
  | cons x l ih => simp only [List.cons_append, wt, ih]; omega
theorem wt_take_succ (L : List Lab) (k : Nat) (h : k < L.length) : wt (L.take (k + 1)) = wt (L.take k) + 32 + (lab L k).1.size + (lab L k).2.size := by
  rw [List.take_succ_eq_append_getElem h, wt_append]
  simp [wt, lab, h]
  omega
theorem wt_take_le (L : List Lab) (k : Nat) : wt (L.take k) ≤ wt L := by
  have := wt_append (L.take k) (L.drop k)
  rw [List.take_append_drop] at this
  omega

/-- A slice of labels, as a walk reads it. -/
def LabIn (w : World) (a : Option Addr) (len cap : Nat) (L : List Lab) : Prop :=
  (len = 0 ∧ L = []) ∨
  ∃ b off, a = some ⟨b, off, none⟩ ∧ L.length = len ∧ b < w.heap.size ∧ len ≤ cap ∧ ∀ j, j < len → w.cell? ⟨b, off + j * 2, none⟩ = some (.string (lab L j).1) ∧ w.cell? ⟨b, off + j * 2 + 1, none⟩ = some (.string (lab L j).2)
theorem LabIn.len {w : World} {a : Option Addr} {len cap : Nat} {L : List Lab} (h : LabIn w a len cap L) : L.length = len := by
  rcases h with ⟨h, rfl⟩ | ⟨_, _, _, h, _⟩
  · simp [h]
  · exact h
theorem LabIn.below {w w' : World} {a : Option Addr} {len cap : Nat} {L : List Lab} (h : LabIn w a len cap L) (hb : Below w.heap.size w w') : LabIn w' a len cap L := by
  rcases h with h | ⟨b, off, h1, h2, h3, h5, h4⟩
  · exact .inl h
  · exact .inr ⟨b, off, h1, h2, Nat.lt_of_lt_of_le h3 hb.size, h5, fun j hj => ⟨(hb.cell (p := ⟨b, off + j * 2, none⟩) h3).trans (h4 j hj).1, (hb.cell (p := ⟨b, off + j * 2 + 1, none⟩) h3).trans (h4 j hj).2⟩⟩

/-- The cells of label k, where there is one. -/
theorem LabIn.at {w : World} {a : Option Addr} {n c : Nat} {L : List Lab} (h : LabIn w a n c L) {k : Nat} (hk : k < n) :
    ∃ b off x1 x2, a = some ⟨b, off, none⟩ ∧ lab L k = (x1, x2) ∧ w.cell? ⟨b, off + k * 2, none⟩ = some (.string x1) ∧ w.cell? ⟨b, off + k * 2 + 1, none⟩ = some (.string x2) := by
  rcases h with ⟨h0, _⟩ | ⟨b, off, rfl, h2, h3, h5, h4⟩
  · omega
  · exact ⟨b, off, (lab L k).1, (lab L k).2, rfl, rfl, (h4 k hk).1, (h4 k hk).2⟩
/-- Every string of the labels has at most 2^20 bytes. -/
def Small (L : List Lab) (n : Nat) : Prop := ∀ j, j < n → (lab L j).1.size ≤ 1048576 ∧ (lab L j).2.size ≤ 1048576
theorem Small.next {L : List Lab} {k : Nat} {x1 x2 : ByteArray} (h : Small L k) (hx : lab L k = (x1, x2)) (h1 : x1.size ≤ 1048576) (h2 : x2.size ≤ 1048576) : Small L (k + 1) := by
  intro j hj
  by_cases e : j = k
  · subst e; rw [hx]; exact ⟨h1, h2⟩
  · exact h j (by omega)

set_option maxHeartbeats 400000 in
set_option maxRecDepth 1000000 in
theorem fit6 (st : Int) (a : Option Addr) (n c : Nat) (L : List Lab) (w : World) (h0 : 0 ≤ st) (h1 : st ≤ 10000000) (hn : n ≤ 1048576) (hin : LabIn w a n c L) (hsz : Small L n) :
    Calls Try.prog 6 #[.int .i64 st, .slice a n c] w fun e w' => Fits e (st + wt L ≤ 1048576) ∧ w = w' := by
  have hL := hide hin.len
  have HIN := hide hin
  have HSZ := hide hsz
  clear hin hsz
  by_cases hs : 1048576 < st
  · go_enter Try.func6, Try.ntmps6
    go_wp2
    go_ret
    exact ⟨fits_no _, rfl⟩
  · go_enter Try.func6, Try.ntmps6
    go_wp2
    go_loop [5, 6] (fun t i => ∃ (k : Nat) (S : Int), k ≤ n ∧ i = .int .i64 k ∧ t = .int .i64 S ∧ S = st + wt (L.take k) ∧ S ≤ 1048576) (fun _ i => n - (intOf i).toNat)
    case atStart => exact ⟨0, st, Nat.zero_le _, rfl, rfl, by simp [wt], by omega⟩
    case round =>
      obtain ⟨k, S, hk, rfl, rfl, hS, hSb⟩ := hrel
      have hS0 : 0 ≤ S := by omega
      have HS := hide hS
      clear hS
      by_cases hlt : k < n
      · obtain ⟨b, off, x1, x2, rfl, hx, c1, c2⟩ := HIN.out.at hlt
        have hw := wt_take_succ L k (by rw [hL.out]; omega)
        have hszk := HSZ.out k hlt
        rw [hx] at hw hszk
        obtain ⟨s1, s2⟩ := hszk
        simp only at hw s1 s2
        have HW := hide hw
        clear hx hw
        go_wp2
        · go_ret
          exact ⟨fits_no _, rfl⟩
        · go_ret
          exact ⟨fits_no _, rfl⟩
        · go_round
          case rel => exact ⟨k + 1, S + 32 + x1.size + x2.size, by omega, by go_num, rfl, by rw [HW.out, HS.out]; omega, by assumption⟩
          case measure => simp [intOf]; omega
      · go_wp2
        go_ret
        refine ⟨⟨_, rfl, fun _ => ?_⟩, rfl⟩
        have := HS.out
        rw [List.take_of_length_le (by rw [hL.out]; omega)] at this
        omega

set_option maxHeartbeats 400000 in
set_option maxRecDepth 1000000 in
theorem bytes5 (nm id : ByteArray) (a : Option Addr) (n c : Nat) (L : List Lab) (ln lv : ByteArray) (w : World) (hin : LabIn w a n c L) :
    Calls Try.prog 5 #[.string nm, .string id, .slice a n c, .string ln, .string lv] w fun e w' => Fits e (nm.size ≤ 1048576 ∧ id.size ≤ 1048576 ∧ n ≤ 1048576 ∧ Small L n ∧ ln.size ≤ 1048576 ∧ lv.size ≤ 1048576) ∧ w = w' := by
  have HIN := hide hin
  clear hin
  go_enter Try.func5, Try.ntmps5
  go_wp2
  all_goals first
    | (go_ret; exact ⟨fits_no _, rfl⟩)
    | skip
  go_loop [11, 12] (fun t i => ∃ (k : Nat) (S : Int), k ≤ n ∧ i = .int .i64 k ∧ t = .int .i64 S ∧ 0 ≤ S ∧ S ≤ 1048576 ∧ Small L k) (fun _ i => n - (intOf i).toNat)
  case atStart => exact ⟨0, _, Nat.zero_le _, rfl, rfl, by omega, by omega, fun j h => absurd h (Nat.not_lt_zero _)⟩
  case round =>
    obtain ⟨k, S, hk, rfl, rfl, hS0, hS1, hsm⟩ := hrel
    have HSM := hide hsm
    clear hsm
    by_cases hlt : k < n
    · obtain ⟨b, off, x1, x2, rfl, hx, c1, c2⟩ := HIN.out.at hlt
      have HX := hide hx
      clear hx
      go_wp2
      all_goals first
        | (go_ret; exact ⟨fits_no _, rfl⟩)
        | skip
      go_round
      case rel => exact ⟨k + 1, S + x1.size + x2.size, by omega, by go_num, rfl, by omega, by omega, HSM.out.next HX.out (by omega) (by omega)⟩
      case measure => simp [intOf]; omega
    · have hkn : n ≤ k := by omega
      go_wp2
      all_goals first
        | (go_ret; exact ⟨fits_no _, rfl⟩)
        | (go_ret; exact ⟨fits_yes ⟨by omega, by omega, by omega, fun j hj => HSM.out j (by omega), by omega, by omega⟩, rfl⟩)

set_option maxHeartbeats 400000 in
set_option maxRecDepth 1000000 in
theorem bytes10 (nm id : ByteArray) (a : Option Addr) (n c : Nat) (L : List Lab) (k0 : Int) (w : World) (hin : LabIn w a n c L) :
    Calls Try.prog 10 #[.string nm, .string id, .slice a n c, .int .i64 k0] w fun e w' => Fits e (nm.size ≤ 1048576 ∧ id.size ≤ 1048576 ∧ n ≤ 1048576 ∧ Small L n) ∧ w = w' := by
  have HIN := hide hin
  clear hin
  go_enter Try.func10, Try.ntmps10
  go_wp2
  all_goals first
    | (go_ret; exact ⟨fits_no _, rfl⟩)
    | skip
  go_loop [9, 10] (fun t i => ∃ (k : Nat) (S : Int), k ≤ n ∧ i = .int .i64 k ∧ t = .int .i64 S ∧ 0 ≤ S ∧ S ≤ 1048576 ∧ Small L k) (fun _ i => n - (intOf i).toNat)
  case atStart => exact ⟨0, _, Nat.zero_le _, rfl, rfl, by omega, by omega, fun j h => absurd h (Nat.not_lt_zero _)⟩
  case round =>
    obtain ⟨k, S, hk, rfl, rfl, hS0, hS1, hsm⟩ := hrel
    have HSM := hide hsm
    clear hsm
    by_cases hlt : k < n
    · obtain ⟨b, off, x1, x2, rfl, hx, c1, c2⟩ := HIN.out.at hlt
      have HX := hide hx
      clear hx
      go_wp2
      all_goals first
        | (go_ret; exact ⟨fits_no _, rfl⟩)
        | skip
      go_round
      case rel => exact ⟨k + 1, S + x1.size + x2.size, by omega, by go_num, rfl, by omega, by omega, HSM.out.next HX.out (by omega) (by omega)⟩
      case measure => simp [intOf]; omega
    · have hkn : n ≤ k := by omega
      go_wp2
      all_goals first
        | (go_ret; exact ⟨fits_no _, rfl⟩)
        | (go_ret; exact ⟨fits_yes ⟨by omega, by omega, by omega, fun j hj => HSM.out j (by omega)⟩, rfl⟩)

theorem has9 (s p : ByteArray) (w : World) (h : p.size ≤ s.size) (e : s.extract 0 p.size = p) :
    Calls Try.prog 9 #[.string s, .string p] w fun e w' => e = .returned (.bool true) ∧ w = w' := by
  have h' : (p.size : Int) ≤ (s.size : Int) := by omega
  have E := hide e
  clear e
  go_enter Try.func9, Try.ntmps9
  go_wp2
  go_ret
  refine ⟨ret_bool ?_, rfl⟩
  rw [E.out]; simp
end Go.Proofs.Qxb6628528a
