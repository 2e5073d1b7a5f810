import Derived.Test.Qxb6000399aZeros
namespace Go.Proofs.Qxb6000399a
open Go.RowKit
set_option linter.unusedVariables false
set_option linter.unusedSimpArgs false

/-- What is owned stays owned while every old block stands. -/
theorem owns_stay {w w2 : World} {B : Nat} {v : Value} {K : List UInt8} (h : Owns w B v K) (hb : Below w.heap.size w w2) : Owns w2 B v K := by
  obtain ⟨h1, h2⟩ := h
  refine ⟨h1, ?_⟩
  rcases h2 with h2 | ⟨g, cap, cur, hv, hB, hg, h3, h4, h5, h6⟩
  · exact Or.inl h2
  · refine Or.inr ⟨g, cap, cur, hv, hB, ?_, h3, h4, h5, h6⟩
    rw [hb.block g ?_]
    · exact hg
    · rcases Nat.lt_or_ge g w.heap.size with h | h
      · exact h
      · rw [Array.getElem?_eq_none h] at hg; cases hg
/-- An owned row, written out. -/
theorem owns_form {w : World} {B : Nat} {v : Value} {K : List UInt8} (h : Owns w B v K) (hp : 0 < K.length) :
    ∃ g cap, v = .slice (some ⟨g, 0, none⟩) K.length cap ∧ ∀ j, j < K.length → w.cell? ⟨g, j, none⟩ = some (.int .u8 ((K.getD j 0).toNat : Int)) := by
  have hh : w.ownsRow B 5 1 v K.length (Lib.byteCells K) := h
  rcases h.2 with ⟨_, h0⟩ | ⟨g, cap, cur, hv, _, _, hcap, _⟩
  · omega
  · refine ⟨g, cap, hv, fun j hj => ?_⟩
    rw [hv] at hh
    rw [World.ownsRow.cellAt hh j (by omega)]
    unfold Lib.byteCells
    simp [List.getD, hj]
end Go.Proofs.Qxb6000399a
