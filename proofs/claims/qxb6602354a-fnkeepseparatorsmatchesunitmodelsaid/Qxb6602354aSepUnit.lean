import Derived.Test.Qxb6602354aSepLeaf
namespace Go.Proofs.Qxb6602354a
open Go.RowKit
set_option linter.unusedVariables false
set_option linter.unusedSimpArgs false

/-- The text's bytes lie in a row. -/
def RowAt (w : World) (b : Nat) (zs : List Int) : Prop := ∀ k, k < zs.length → w.cell? ⟨b, k, none⟩ = some (.int .u8 (zs.getD k 0))

set_option maxHeartbeats 800000 in
theorem isSep_any (b n cap j : Nat) (zs : List Int) (w : World) (hn : zs.length = n) (hm : n ≤ 1048576) (hj : j < n) (hc : RowAt w b zs) :
    Calls Try.prog 24 #[.slice (some ⟨b, 0, none⟩) n cap, .int .i64 j] w fun e w' => e = .returned (.bool (sepB zs j)) ∧ w' = w := by
  by_cases h6 : j + 6 ≤ n
  · have g0 := hc j (by omega)
    have g1 := hc (j + 1) (by omega)
    have g2 := hc (j + 2) (by omega)
    have g3 := hc (j + 3) (by omega)
    have g4 := hc (j + 4) (by omega)
    have g5 := hc (j + 5) (by omega)
    have hs : sepB zs j = decide (zs.getD j 0 = 92 ∧ zs.getD (j + 1) 0 = 117 ∧ zs.getD (j + 2) 0 = 50 ∧ zs.getD (j + 3) 0 = 48 ∧ zs.getD (j + 4) 0 = 50 ∧ (zs.getD (j + 5) 0 = 56 ∨ zs.getD (j + 5) 0 = 57)) := by
      unfold sepB; rw [hn]; simp [h6]
    rw [hs]
    clear hs hc
    generalize zs.getD j 0 = c0 at *
    generalize zs.getD (j + 1) 0 = c1 at *
    generalize zs.getD (j + 2) 0 = c2 at *
    generalize zs.getD (j + 3) 0 = c3 at *
    generalize zs.getD (j + 4) 0 = c4 at *
    generalize zs.getD (j + 5) 0 = c5 at *
    by_cases e0 : c0 = 92
    · by_cases e1 : c1 = 117
      · by_cases e2 : c2 = 50
        · by_cases e3 : c3 = 48
          · by_cases e4 : c4 = 50
            · by_cases e5 : c5 = 56
              · subst e0 e1 e2 e3 e4 e5
                go_enter Try.func24, Try.ntmps24
                go_wp2
                go_ret
                exact ⟨rfl, rfl⟩
              · have e5' : (c5 == 56) = false := by simpa using e5
                subst e0 e1 e2 e3 e4
                have hd : decide ((92 : Int) = 92 ∧ (117 : Int) = 117 ∧ (50 : Int) = 50 ∧ (48 : Int) = 48 ∧ (50 : Int) = 50 ∧ (c5 = 56 ∨ c5 = 57)) = (c5 == 57) := by
                  rw [Bool.eq_iff_iff]; simp [e5]
                rw [hd]; clear hd
                go_enter Try.func24, Try.ntmps24
                go_wp2
                go_ret
                exact ⟨rfl, rfl⟩
            · have e4' : (c4 == 50) = false := by simpa using e4
              rw [decide_eq_false (by omega)]
              subst e0 e1 e2 e3
              go_enter Try.func24, Try.ntmps24
              go_wp2
              go_ret
              exact ⟨rfl, rfl⟩
          · have e3' : (c3 == 48) = false := by simpa using e3
            rw [decide_eq_false (by omega)]
            subst e0 e1 e2
            go_enter Try.func24, Try.ntmps24
            go_wp2
            go_ret
            exact ⟨rfl, rfl⟩
        · have e2' : (c2 == 50) = false := by simpa using e2
          rw [decide_eq_false (by omega)]
          subst e0 e1
          go_enter Try.func24, Try.ntmps24
          go_wp2
          go_ret
          exact ⟨rfl, rfl⟩
      · have e1' : (c1 == 117) = false := by simpa using e1
        rw [decide_eq_false (by omega)]
        subst e0
        go_enter Try.func24, Try.ntmps24
        go_wp2
        go_ret
        exact ⟨rfl, rfl⟩
    · have e0' : (c0 == 92) = false := by simpa using e0
      rw [decide_eq_false (by omega)]
      go_enter Try.func24, Try.ntmps24
      go_wp2
      go_ret
      exact ⟨rfl, rfl⟩
  · rw [sepB_no (by omega)]
    go_enter Try.func24, Try.ntmps24
    go_wp2
    go_ret
    exact ⟨rfl, rfl⟩
end Go.Proofs.Qxb6602354a
