import Derived.Test.Qxb6628570aLeaf
import Derived.Deep.Slices
import Derived.ProofKit
import Derived.OpenShut
namespace Go.Proofs.Qxb6628570a
open Go.ChangeShapes Go.WideShapes Go.ChangeAt Go.RowKit

theorem Try.cells30 : Try.prog.cellsOf 30 = 4 := by kernel_rfl
theorem Try.cells9 : Try.prog.cellsOf 9 = 1 := by kernel_rfl
theorem Try.cells5 : Try.prog.cellsOf 5 = 1 := by kernel_rfl
theorem Try.cells3 : Try.prog.cellsOf 3 = 1 := by kernel_rfl
theorem Try.cells4 : Try.prog.cellsOf 4 = 1 := by kernel_rfl

/-- A slice of columns that came in, as the walks read it: nil, or not. -/
theorem cols_open {H : Type} {enc : TypeId × Value → H} {W : World} {fuel : Nat} {a : Option Addr} {len cap : Nat} {x : DataW H × List MemPlace}
    (hf : DataW.trod enc Try.prog W 0 (fun _ => true) true fuel 22 (Value.slice a len cap).cells.toList = some x) : (a = none ∧ len = 0 ∧ cap = 0) ∨ ∃ y L, a = some y ∧ ColIn W (some y) len cap L := by
  rcases Go.Deep.open_slice Try.underlying22 hf with ⟨hcs, _⟩ | ⟨x, l, c, m, n, D, Pl, hcs, _, hl, hm, hmm, _, hc⟩
  · simp [Value.cells] at hcs
    exact .inl hcs
  · simp [Value.cells] at hcs
    obtain ⟨rfl, rfl, rfl⟩ := hcs
    rw [if_pos rfl] at hmm
    subst hmm
    rw [Try.cells30] at hc
    right
    have each : ∀ i, i < len → ∃ y : Col, W.cell? (x.add (i * 4)) = some (.string y.1) ∧ W.cell? (x.add (i * 4 + 1)) = some (.int .u8 y.2.1) ∧ W.cell? (x.add (i * 4 + 2)) = some (.int .i64 y.2.2.1) ∧ W.cell? (x.add (i * 4 + 3)) = some (.bool y.2.2.2) := by
      intro i hi
      obtain ⟨cs', h1, h2⟩ := hc i (by omega)
      obtain ⟨_, hlen, hcell⟩ := World.cells?_some h1
      obtain ⟨xs, k, hk, hxy, _, hxl, hfl⟩ := DataW.trod_struct Try.underlying30 h2
      match cs', hlen with
      | [v0, v1, v2, v3], _ =>
        have e0 := hcell 0 (by omega)
        have e1 := hcell 1 (by omega)
        have e2 := hcell 2 (by omega)
        have e3 := hcell 3 (by omega)
        rw [Go.Deep.add_add] at e0 e1 e2 e3
        have g0 := hfl 0 _ rfl
        have g1 := hfl 1 _ rfl
        have g2 := hfl 2 _ rfl
        have g3 := hfl 3 _ rfl
        match xs, hxl with
        | [y0, y1, y2, y3], _ =>
          simp [Try.cells9] at g0
          simp [Try.cells5] at g1
          simp [Try.cells3] at g2
          simp [Try.cells4] at g3
          obtain ⟨s, q0, _⟩ := DataW.trod_string Try.underlying9 g0
          obtain ⟨kd, q1, _⟩ := DataW.trod_int Try.underlying5 g1
          obtain ⟨ln, q2, _⟩ := DataW.trod_int Try.underlying3 g2
          obtain ⟨nn, q3, _⟩ := DataW.trod_bool Try.underlying4 g3
          simp at q0 q1 q2 q3 e0 e1 e2 e3
          subst q0 q1 q2 q3
          exact ⟨(s, kd, ln, nn), e0, e1, e2, e3⟩
    by_cases h0 : len = 0
    · exact ⟨x, [], rfl, .inl ⟨h0, rfl⟩⟩
    · obtain ⟨F, hF⟩ : ∃ F : Nat → Col, ∀ i, i < len → W.cell? (x.add (i * 4)) = some (.string (F i).1) ∧ W.cell? (x.add (i * 4 + 1)) = some (.int .u8 (F i).2.1) ∧ W.cell? (x.add (i * 4 + 2)) = some (.int .i64 (F i).2.2.1) ∧ W.cell? (x.add (i * 4 + 3)) = some (.bool (F i).2.2.2) :=
        Go.Deep.choose_lt each
      obtain ⟨b, off, spot⟩ := x
      have hspot : spot = none := by simpa [Addr.add] using World.cell?_spot (hF 0 (by omega)).1
      subst hspot
      have hcol : ∀ j, j < len → col ((List.range len).map F) j = F j := fun j hj => by simp [col, hj]
      refine ⟨_, (List.range len).map F, rfl, .inr ⟨b, off, rfl, by simp, ?_, hl, fun j hj => ?_⟩⟩
      · have := block_lt_of_cell (hF 0 (by omega)).1; simpa [Addr.add] using this
      · obtain ⟨h1, h2, h3, h4⟩ := hF j hj
        rw [Addr.add_lit] at h1 h2 h3 h4
        rw [hcol j hj]
        exact ⟨h1, by rw [Nat.add_assoc]; exact h2, by rw [Nat.add_assoc]; exact h3, by rw [Nat.add_assoc]; exact h4⟩
end Go.Proofs.Qxb6628570a
