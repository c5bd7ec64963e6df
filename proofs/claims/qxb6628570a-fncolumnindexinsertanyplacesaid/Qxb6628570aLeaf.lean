import Derived.Test.Qxb6628570aProg
import Derived.WalkKit
import Derived.WalkSpells
import Derived.WalkLawsBesides
import Derived.Below
import Derived.Deep.QuietTactic
import Derived.BigQuiet
namespace Go.Proofs.Qxb6628570a
open Go.RowKit

theorem ret_bool {a b : Bool} (h : a = b) : Ending.returned (.bool a) = .returned (.bool b) := by rw [h]
theorem hide {p : Prop} (h : p) : Hid p := h
/-- The answer is a bool. -/
def AnyB (e : Ending) : Prop := ∃ b : Bool, e = .returned (.bool b)
theorem anyB (b : Bool) : AnyB (.returned (.bool b)) := ⟨b, rfl⟩

/-- A column: its name, kind, length, and whether it is not null. -/
abbrev Col := ByteArray × Int × Int × Bool
def col (L : List Col) (j : Nat) : Col := L.getD j (ByteArray.empty, 0, 0, false)

/-- A slice of columns, as a walk reads it. -/
def ColIn (w : World) (a : Option Addr) (len cap : Nat) (L : List Col) : Prop :=
  (len = 0 ∧ L = []) ∨
  ∃ b off, a = some ⟨b, off, none⟩ ∧ L.length = len ∧ b < w.heap.size ∧ len ≤ cap ∧ ∀ j, j < len →
    w.cell? ⟨b, off + j * 4, none⟩ = some (.string (col L j).1) ∧ w.cell? ⟨b, off + j * 4 + 1, none⟩ = some (.int .u8 (col L j).2.1) ∧
    w.cell? ⟨b, off + j * 4 + 2, none⟩ = some (.int .i64 (col L j).2.2.1) ∧ w.cell? ⟨b, off + j * 4 + 3, none⟩ = some (.bool (col L j).2.2.2)
theorem ColIn.len {w : World} {a : Option Addr} {len cap : Nat} {L : List Col} (h : ColIn w a len cap L) : L.length = len := by
  rcases h with ⟨h, rfl⟩ | ⟨_, _, _, h, _⟩
  · simp [h]
  · exact h
theorem ColIn.below {w w' : World} {a : Option Addr} {len cap : Nat} {L : List Col} (h : ColIn w a len cap L) (hb : Below w.heap.size w w') : ColIn w' a len cap L := by
  rcases h with h | ⟨b, off, h1, h2, h3, h5, h4⟩
  · exact .inl h
  · refine .inr ⟨b, off, h1, h2, Nat.lt_of_lt_of_le h3 hb.size, h5, fun j hj => ?_⟩
    have c := h4 j hj
    exact ⟨(hb.cell (p := ⟨b, _, none⟩) h3).trans c.1, (hb.cell (p := ⟨b, _, none⟩) h3).trans c.2.1, (hb.cell (p := ⟨b, _, none⟩) h3).trans c.2.2.1, (hb.cell (p := ⟨b, _, none⟩) h3).trans c.2.2.2⟩
/-- The cells of column k, where there is one. -/
theorem ColIn.at {w : World} {a : Option Addr} {n c : Nat} {L : List Col} (h : ColIn w a n c L) {k : Nat} (hk : k < n) :
    ∃ b off x y z t, a = some ⟨b, off, none⟩ ∧ b < w.heap.size ∧ col L k = (x, y, z, t) ∧ w.cell? ⟨b, off + k * 4, none⟩ = some (.string x) ∧ w.cell? ⟨b, off + k * 4 + 1, none⟩ = some (.int .u8 y) ∧
      w.cell? ⟨b, off + k * 4 + 2, none⟩ = some (.int .i64 z) ∧ w.cell? ⟨b, off + k * 4 + 3, none⟩ = some (.bool t) := by
  rcases h with ⟨h0, _⟩ | ⟨b, off, rfl, h2, h3, h5, h4⟩
  · omega
  · obtain ⟨c1, c2, c3, c4⟩ := h4 k hk
    exact ⟨b, off, _, _, _, _, rfl, h3, rfl, c1, c2, c3, c4⟩

set_option maxHeartbeats 400000 in
set_option maxRecDepth 1000000 in
theorem fit6 (a : Option Addr) (n c : Nat) (L : List Col) (nm : ByteArray) (w : World) (hn : n ≤ 65536) (hin : ColIn w a n c L) :
    Calls Try.prog 6 #[.slice a n c, .string nm] w fun e w' => AnyB e ∧ w = w' := by
  have HIN := hide hin
  clear hin
  go_enter Try.func6, Try.ntmps6
  go_wp2
  all_goals first
    | (go_ret; exact ⟨anyB _, rfl⟩)
    | skip
  go_loop [5, 6] (fun t i => ∃ (k : Nat) (S : Int), k ≤ n ∧ i = .int .i64 k ∧ t = .int .i64 S ∧ 0 ≤ S ∧ S ≤ 1048576) (fun _ i => n - (intOf i).toNat)
  case atStart => exact ⟨0, _, Nat.zero_le _, rfl, rfl, by omega, by omega⟩
  case round =>
    obtain ⟨k, S, hk, rfl, rfl, hS0, hS1⟩ := hrel
    by_cases hlt : k < n
    · obtain ⟨b, off, x, y, z, t, rfl, hb, hx, c1, _⟩ := HIN.out.at hlt
      clear hx
      go_wp2
      all_goals first
        | (go_ret; exact ⟨anyB _, rfl⟩)
        | skip
      go_round
      case rel => exact ⟨k + 1, _, by omega, by go_num, rfl, by omega, by omega⟩
      case measure => simp [intOf]; omega
    · go_wp2
      go_ret
      exact ⟨anyB _, rfl⟩

set_option maxHeartbeats 400000 in
set_option maxRecDepth 1000000 in
theorem bytes5 (a : Option Addr) (n c : Nat) (L : List Col) (nm : ByteArray) (k0 : Int) (w : World) (hin : ColIn w a n c L) :
    Calls Try.prog 5 #[.slice a n c, .string nm, .int .i64 k0] w fun e w' => AnyB e ∧ w = w' := by
  have HIN := hide hin
  clear hin
  go_enter Try.func5, Try.ntmps5
  go_wp2
  all_goals first
    | (go_ret; exact ⟨anyB _, rfl⟩)
    | skip
  go_loop [7, 8] (fun t i => ∃ (k : Nat) (S : Int), k ≤ n ∧ i = .int .i64 k ∧ t = .int .i64 S ∧ 0 ≤ S ∧ S ≤ 1048576) (fun _ i => n - (intOf i).toNat)
  case atStart => exact ⟨0, _, Nat.zero_le _, rfl, rfl, by omega, by omega⟩
  case round =>
    obtain ⟨k, S, hk, rfl, rfl, hS0, hS1⟩ := hrel
    by_cases hlt : k < n
    · obtain ⟨b, off, x, y, z, t, rfl, hb, hx, c1, _⟩ := HIN.out.at hlt
      clear hx
      go_wp2
      all_goals first
        | (go_ret; exact ⟨anyB _, rfl⟩)
        | skip
      go_round
      case rel => exact ⟨k + 1, _, by omega, by go_num, rfl, by omega, by omega⟩
      case measure => simp [intOf]; omega
    · go_wp2
      all_goals (go_ret; exact ⟨anyB _, rfl⟩)

set_option maxHeartbeats 400000 in
set_option maxRecDepth 1000000 in
theorem bytes9 (a : Option Addr) (n c : Nat) (L : List Col) (nm : ByteArray) (k0 kd ln : Int) (nn : Bool) (w : World) (hin : ColIn w a n c L) :
    Calls Try.prog 9 #[.slice a n c, .string nm, .int .i64 k0, .int .u8 kd, .int .i64 ln, .bool nn] w fun e w' => AnyB e ∧ w = w' := by
  have HIN := hide hin
  clear hin
  go_enter Try.func9, Try.ntmps9
  go_wp2
  all_goals first
    | (go_ret; exact ⟨anyB _, rfl⟩)
    | skip
  go_loop [13, 14] (fun t i => ∃ (k : Nat) (S : Int), k ≤ n ∧ i = .int .i64 k ∧ t = .int .i64 S ∧ 0 ≤ S ∧ S ≤ 1048576) (fun _ i => n - (intOf i).toNat)
  case atStart => exact ⟨0, _, Nat.zero_le _, rfl, rfl, by omega, by omega⟩
  case round =>
    obtain ⟨k, S, hk, rfl, rfl, hS0, hS1⟩ := hrel
    by_cases hlt : k < n
    · obtain ⟨b, off, x, y, z, t, rfl, hb, hx, c1, _⟩ := HIN.out.at hlt
      clear hx
      go_wp2
      all_goals first
        | (go_ret; exact ⟨anyB _, rfl⟩)
        | skip
      go_round
      case rel => exact ⟨k + 1, _, by omega, by go_num, rfl, by omega, by omega⟩
      case measure => simp [intOf]; omega
    · go_wp2
      all_goals (go_ret; exact ⟨anyB _, rfl⟩)

theorem col10 (nm : ByteArray) (kd ln : Int) (nn : Bool) (w : World) :
    Calls Try.prog 10 #[.string nm, .int .u8 kd, .int .i64 ln, .bool nn] w fun e w' => e = .returned (.agg #[.string nm, .int .u8 kd, .int .i64 ln, .bool nn]) ∧ ∃ o, w' = w.alloc o := by
  go_enter Try.func10, Try.ntmps10
  go_wp2
  exact bodyPost_ret (v := .agg #[.string nm, .int .u8 kd, .int .i64 ln, .bool nn]) (by simp [results, Try.results10, go_sem]) rfl ⟨rfl, _, rfl⟩
end Go.Proofs.Qxb6628570a
