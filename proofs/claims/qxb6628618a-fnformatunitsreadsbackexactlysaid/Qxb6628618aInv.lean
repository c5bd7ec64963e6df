import Derived.Test.Qxb6628618aProg
import Derived.Test.Qxb6628618aPlain
import Derived.WalkKit
import Derived.WalkSpells
import Derived.WalkLawsBesides
import Derived.Below
import Derived.Laws.BytesArg
namespace Go.Proofs.Qxb6628618a
open Go.RowKit

theorem hide {p : Prop} (h : p) : Hid p := h
theorem Try.info5 : (Try.prog.info? 5).map (fun i => (i.zero, i.size, i.bytes)) = some (some (.int .u8 0), 1, 1) := by kernel_rfl

/-- The cells of a row of bytes. -/
def UB (zs : List Int) : List Value := zs.map (Value.int .u8)
theorem UB_set (i : Nat) (T : List Int) (c : Int) : (UB (List.replicate (i + 1) 0 ++ T)).set i (.int .u8 c) = UB (List.replicate i 0 ++ c :: T) := by
  unfold UB
  rw [← List.map_set, List.replicate_succ', List.append_assoc, List.set_append_right _ _ (by simp)]
  simp
theorem UB_get {zs : List Int} {k : Nat} (h : k < zs.length) : (UB zs)[k]? = some (.int .u8 (zs.getD k 0)) := by simp [UB, h]

/-- Behind d rounds: the buffer's last bytes are the text; the rest is nought. -/
def Inv (P U N base e g : Nat) (w : World) (d i u : Nat) (wr : World) : Prop :=
  u = qd U d ∧ i + (tx P U d).length = N ∧ (∀ j, j < d → Going P U j) ∧ wr.ownsRow base e 1 (.slice (some ⟨g, 0, none⟩) N N) N (UB (List.replicate i 0 ++ tx P U d)) ∧ Below w.heap.size w wr
theorem going_next {P U d : Nat} (h : ∀ j, j < d → Going P U j) (hg : Going P U d) : ∀ j, j < d + 1 → Going P U j := fun j hj => by
  by_cases e : j = d
  · subst e; exact hg
  · exact h j (by omega)
theorem Inv.plain {P U N base e g : Nat} {w wr : World} {d i u : Nat} (h : Inv P U N base e g w d (i + 1) u wr) (hg : Going P U d) (hnd : ¬ (d = P ∧ 0 < P)) (hb : w.heap.size ≤ g) :
    Inv P U N base e g w (d + 1) i (u / 10) (wr.setCell ⟨g, i, none⟩ (.int .u8 (48 + (u : Int) % 10))) := by
  obtain ⟨h1, h2, h3, h4, h5⟩ := h
  have et : tx P U (d + 1) = (48 + (u : Int) % 10) :: tx P U d := by rw [tx, if_neg hnd, h1]
  refine ⟨by rw [qd_succ, h1], by rw [et, List.length_cons]; omega, going_next h3 hg, ?_, h5.setCell (p := ⟨g, i, none⟩) hb _⟩
  have := (h4.stored i (.int .u8 (48 + (u : Int) % 10))).1
  rw [UB_set] at this
  rw [et]; exact this
theorem Inv.dot {P U N base e g : Nat} {w wr : World} {d i u : Nat} (h : Inv P U N base e g w d (i + 2) u wr) (hg : Going P U d) (hd : d = P ∧ 0 < P) (hb : w.heap.size ≤ g) :
    Inv P U N base e g w (d + 1) i (u / 10) ((wr.setCell ⟨g, i + 1, none⟩ (.int .u8 46)).setCell ⟨g, i, none⟩ (.int .u8 (48 + (u : Int) % 10))) := by
  obtain ⟨h1, h2, h3, h4, h5⟩ := h
  have et : tx P U (d + 1) = (48 + (u : Int) % 10) :: 46 :: tx P U d := by rw [tx, if_pos hd, h1]
  refine ⟨by rw [qd_succ, h1], by rw [et, List.length_cons, List.length_cons]; omega, going_next h3 hg, ?_, (h5.setCell (p := ⟨g, i + 1, none⟩) hb _).setCell (p := ⟨g, i, none⟩) hb _⟩
  have := (h4.stored (i + 1) (.int .u8 46)).1
  rw [UB_set] at this
  have := (this.stored i (.int .u8 (48 + (u : Int) % 10))).1
  rw [UB_set] at this
  rw [et]; exact this
/-- What the round may read and write. -/
theorem Inv.cell {P U N base e g : Nat} {w wr : World} {d i u : Nat} (h : Inv P U N base e g w d i u wr) (j : Nat) (hj : j < N) : (∃ old, wr.cell? ⟨g, j, none⟩ = some old) ∧ wr.frozen? ⟨g, j, none⟩ = false := by
  obtain ⟨_, _, _, h4, _⟩ := h
  refine ⟨?_, h4.frozenAt j⟩
  rw [h4.cellAt j (by omega)]
  exact ⟨_, List.getElem?_eq_getElem (by rw [h4.1]; omega)⟩
/-- The room that is left. -/
theorem Inv.room {P U N base e g : Nat} {w wr : World} {d i u : Nat} (h : Inv P U N base e g w d i u wr) (hU : U < 10 ^ 20) (hg : Going P U d) (h48 : 48 ≤ N) (hP : 21 + P ≤ N) : 20 ≤ i := by
  have h2 := h.2.1
  have hl := tx_le P U d
  rcases going_lt hU hg with h | h <;> omega
theorem Inv.room' {P U N base e g : Nat} {w wr : World} {d i u : Nat} (h : Inv P U N base e g w d i u wr) (hU : U < 10 ^ 20) (h48 : 48 ≤ N) (hP : 21 + P ≤ N) : 18 ≤ i := by
  have h2 := h.2.1
  have hl := tx_le P U d
  cases d with
  | zero => simp [tx] at h2; omega
  | succ d => rcases going_lt hU (h.2.2.1 d (by omega)) with h | h <;> omega
/-- The answer. -/
def FmtRes (sg : List Int) (P U : Nat) (e : Ending) : Prop := ∃ d, Stop P U d ∧ e = .returned (.string (strOfNums (sg ++ tx P U d)))
/-- The text, read out of the buffer. -/
theorem conv_text {base e g N i : Nat} {T : List Int} {wr : World} (h : wr.ownsRow base e 1 (.slice (some ⟨g, 0, none⟩) N N) N (UB (List.replicate i 0 ++ T))) (hN : i + T.length = N) :
    (convert 26 9 (.slice (some ⟨g, i, none⟩) (N - i) (N - i))).run Try.prog wr = .ok (.string (strOfNums T)) wr := by
  refine run_convert_bytes_arg wr 26 5 Try.underlying26 Try.underlying5 g i (N - i) (N - i) T (by omega) (fun j hj => ?_) 9 Try.underlying9
  rw [h.cellAt (i + j) (by omega), UB_get (by simp; omega), List.getD_eq_getElem?_getD, List.getElem?_append_right (by simp), List.length_replicate, show i + j - i = j by omega, ← List.getD_eq_getElem?_getD]
end Go.Proofs.Qxb6628618a
