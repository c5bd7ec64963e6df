import Derived.Test.Qxb6628570aMem
namespace Go.Proofs.Qxb6628570a
open Go.RowKit

/-- The column bears the name. -/
def hit (nm : ByteArray) (c : Col) : Bool := c.1.toList == nm.toList
/-- The first column that bears the name. -/
def fi (nm : ByteArray) : List Col → Option Nat
  | [] => none
  | c :: r => if hit nm c then some 0 else (fi nm r).map (· + 1)
theorem col_zero (c : Col) (r : List Col) : col (c :: r) 0 = c := rfl
theorem col_succ (c : Col) (r : List Col) (k : Nat) : col (c :: r) (k + 1) = col r k := rfl
theorem fi_hit {nm : ByteArray} : ∀ {L : List Col} {k : Nat}, k < L.length → (∀ j, j < k → hit nm (col L j) = false) → hit nm (col L k) = true → fi nm L = some k
  | [], k, h, _, _ => by simp at h
  | c :: r, 0, _, _, h => by rw [col_zero] at h; simp [fi, h]
  | c :: r, k + 1, h, h1, h2 => by
    have h0 := h1 0 (by omega)
    rw [col_zero] at h0
    rw [col_succ] at h2
    have ih := fi_hit (L := r) (k := k) (by simpa using h) (fun j hj => by have := h1 (j + 1) (by omega); rwa [col_succ] at this) h2
    simp [fi, h0, ih]
theorem fi_miss {nm : ByteArray} : ∀ {L : List Col}, (∀ j, j < L.length → hit nm (col L j) = false) → fi nm L = none
  | [], _ => rfl
  | c :: r, h => by
    have h0 := h 0 (by simp)
    rw [col_zero] at h0
    have ih := fi_miss (L := r) (fun j hj => by have := h (j + 1) (by simpa using hj); rwa [col_succ] at this)
    simp [fi, h0, ih]
theorem fi_some {nm : ByteArray} : ∀ {L : List Col} {k : Nat}, fi nm L = some k → k < L.length ∧ hit nm (col L k) = true
  | [], k, h => by simp [fi] at h
  | c :: r, k, h => by
    unfold fi at h
    split at h
    · simp at h; subst h; exact ⟨by simp, by rw [col_zero]; assumption⟩
    · cases e : fi nm r with
      | none => rw [e] at h; simp at h
      | some i =>
        rw [e] at h
        simp at h
        subst h
        have ih := fi_some e
        exact ⟨by simp; exact ih.1, by rw [col_succ]; exact ih.2⟩
theorem fi_append (nm : ByteArray) : ∀ (A B : List Col), fi nm (A ++ B) = match fi nm A with | some i => some i | none => (fi nm B).map (A.length + ·)
  | [], B => by simp [fi]
  | c :: r, B => by
    simp only [List.cons_append, fi]
    by_cases h : hit nm c = true
    · simp [h]
    · rw [fi_append nm r B]
      simp only [h]
      cases fi nm r with
      | some i => simp
      | none =>
        cases fi nm B with
        | none => simp
        | some i => simp; omega
theorem fi_first {nm : ByteArray} {c : Col} {r : List Col} (h : hit nm c = true) : fi nm (c :: r) = some 0 := by simp [fi, h]
theorem fi_first_inv {nm : ByteArray} {c : Col} {r : List Col} (h : fi nm (c :: r) = some 0) : hit nm c = true := by
  have := (fi_some h).2; rwa [col_zero] at this

set_option maxHeartbeats 400000 in
set_option maxRecDepth 1000000 in
theorem idx8 (a : Option Addr) (n c : Nat) (L : List Col) (nm : ByteArray) (w : World) (hn : n ≤ 65537) (hin : ColIn w a n c L) :
    Calls Try.prog 8 #[.slice a n c, .string nm] w fun e w' => e = .returned (.tuple #[.int .i64 (((fi nm L).getD 0 : Nat) : Int), .bool (fi nm L).isSome]) ∧ Below w.heap.size w w' := by
  have hL := hide hin.len
  have HIN := hide hin
  clear hin
  go_enter Try.func8, Try.ntmps8
  go_wp2
  go_loopw [10] (fun i wr => ∃ k : Nat, k ≤ n ∧ i = .int .i64 k ∧ (∀ j, j < k → hit nm (col L j) = false) ∧ Below w.heap.size w wr) (fun i _ => n - (intOf i).toNat)
  case atStart => exact ⟨0, Nat.zero_le _, rfl, fun j h => absurd h (Nat.not_lt_zero _), Below.refl _ _⟩
  case round =>
    obtain ⟨k, hk, rfl, hno, hnx⟩ := hrel
    have HN := hide hno
    have HB := hide hnx
    have hsz := hnx.size
    clear hno
    by_cases hlt : k < n
    · obtain ⟨b, off, x1, x2, x3, x4, rfl, hbw, hx, c1, c2, c3, c4⟩ := (HIN.out.below hnx).at hlt
      have HX := hide hx
      clear hx hnx
      cases h1 : (x1.toList == nm.toList)
      · have hh : hit nm (col L k) = false := by rw [HX.out]; exact h1
        have HH := hide hh
        clear hh
        go_wp2
        go_roundw
        case rel =>
          refine ⟨k + 1, by omega, by go_num, fun j hj => ?_, HB.out.alloc hsz _⟩
          by_cases e : j = k
          · subst e; exact HH.out
          · exact HN.out j (by omega)
        case measure => simp [intOf]; omega
      · have hh : hit nm (col L k) = true := by rw [HX.out]; exact h1
        have F := hide (fi_hit (by rw [hL.out]; exact hlt) HN.out hh)
        clear hh
        go_wp2
        go_ret2
        exact ⟨by rw [F.out]; rfl, HB.out.alloc hsz _⟩
    · have F := hide (fi_miss (nm := nm) (L := L) (fun j hj => HN.out j (by rw [hL.out] at hj; omega)))
      go_wp2
      go_ret2
      exact ⟨by rw [F.out]; rfl, hnx⟩
end Go.Proofs.Qxb6628570a
