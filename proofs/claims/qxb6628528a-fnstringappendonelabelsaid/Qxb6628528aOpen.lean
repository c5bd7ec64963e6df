import Derived.Test.Qxb6628528aLeaf
import Derived.Deep.SlicePairs
import Derived.ProofKit
import Derived.OpenShut
namespace Go.Proofs.Qxb6628528a
open Go.ChangeShapes Go.WideShapes Go.ChangeAt Go.RowKit

theorem Try.cells36 : Try.prog.cellsOf 36 = 2 := by kernel_rfl
theorem Try.cells9 : Try.prog.cellsOf 9 = 1 := by kernel_rfl

/-- A slice of labels that came in, as the walks read it. -/
theorem labs_open {H : Type} {enc : TypeId × Value → H} {W : World} {fuel : Nat} {a : Option Addr} {len cap : Nat} {x : DataW H × List MemPlace}
    (hf : DataW.trod enc Try.prog W 0 (fun _ => true) true fuel 22 (Value.slice a len cap).cells.toList = some x) : ∃ L, LabIn W a len cap L := by
  rcases Go.Deep.open_slice_pairs Try.underlying22 Try.underlying36 Try.cells36 rfl rfl Try.cells9 Try.cells9 hf with ⟨hcs, _⟩ | ⟨x, l, c, m, n, V0, V1, D0, D1, P0, P1, hcs, _, hl, hm, hmm, _, hc⟩
  · simp [Value.cells] at hcs
    obtain ⟨rfl, rfl, rfl⟩ := hcs
    exact ⟨[], .inl ⟨rfl, rfl⟩⟩
  · simp [Value.cells] at hcs
    obtain ⟨rfl, rfl, rfl⟩ := hcs
    rw [if_pos rfl] at hmm
    subst hmm
    have each : ∀ i, i < len → ∃ y : Lab, W.cell? (x.add (i * 2)) = some (.string y.1) ∧ W.cell? (x.add (i * 2 + 1)) = some (.string y.2) := by
      intro i hi
      obtain ⟨h1, h2, h3, h4⟩ := hc i (by omega)
      obtain ⟨s1, e1, _, _⟩ := DataW.trod_string Try.underlying9 h3
      obtain ⟨s2, e2, _, _⟩ := DataW.trod_string Try.underlying9 h4
      simp at e1 e2
      exact ⟨(s1, s2), by rw [h1, e1], by rw [h2, e2]⟩
    by_cases h0 : len = 0
    · exact ⟨[], .inl ⟨h0, rfl⟩⟩
    · obtain ⟨F, hF⟩ : ∃ F : Nat → Lab, ∀ i, i < len → W.cell? (x.add (i * 2)) = some (.string (F i).1) ∧ W.cell? (x.add (i * 2 + 1)) = some (.string (F i).2) :=
        Go.Deep.choose_lt each
      obtain ⟨b, off, spot⟩ := x
      have hspot : spot = none := by simpa [Addr.add] using World.cell?_spot (hF 0 (by omega)).1
      subst hspot
      have hlab : ∀ j, j < len → lab ((List.range len).map F) j = F j := fun j hj => by simp [lab, hj]
      refine ⟨(List.range len).map F, .inr ⟨b, off, rfl, by simp, ?_, hl, fun j hj => ?_⟩⟩
      · have := block_lt_of_cell (hF 0 (by omega)).1; simpa [Addr.add] using this
      · have h1 := (hF j hj).1
        have h2 := (hF j hj).2
        rw [Addr.add_lit] at h1 h2
        rw [hlab j hj]
        exact ⟨h1, by rw [Nat.add_assoc]; exact h2⟩
end Go.Proofs.Qxb6628528a
