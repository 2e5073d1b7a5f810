import Derived.Test.Qxb6602354aDoorRead
import Derived.Test.Qxb6602354aDoorModel
namespace Go.Proofs.Qxb6602354aDoor
open Go.RowKit
set_option linter.unusedVariables false
set_option linter.unusedSimpArgs false

set_option maxHeartbeats 400000 in
theorem match_any (s : ByteArray) (w : World) (tp : TypeId) (p : Value) (hvar : w.var? Tryd.prog "strconv.ErrRange" = some #[.iface tp p]) :
    Calls Tryd.prog 3 #[.string s] w fun e w' => e = .returned (.bool true) ∧ Below w.heap.size w w' := by
  by_cases hs : s.size ≤ 1048576
  · have h7 := isExp_any s w hs
    have h6 := bytes6_yes s w hs
    have HV : Hid (w.var? Tryd.prog "strconv.ErrRange" = some #[.iface tp p]) := hvar
    clear hvar
    go_enter Tryd.func3, Tryd.ntmps3
    go_wp2_with (go_at_call 6; refine h6.mono ?_; rintro e w' ⟨rfl, hw⟩; subst w')
    refine h7.mono ?_
    rintro e w' ⟨⟨r, rfl, hr⟩, hw⟩
    subst w'
    cases r
    · go_wp2
      go_ret
      exact ⟨rfl, Below.refl _ _⟩
    · obtain ⟨neg, ds, hsg, hne, hd⟩ := hr rfl
      have h8 := zzread_any s neg ds hs hsg hne hd w tp p HV.out
      have h9 := fun w => model_any s neg ds hs hsg hne hd w
      clear hr hsg hne hd h7 h6 HV
      generalize rdV neg ds = v at h8 h9
      generalize rdB neg ds = b at h8 h9
      go_wp2_with (first | (go_at_call 8; refine h8.mono ?_; rintro e w1 ⟨rfl, hb⟩) | (go_at_call 9; refine (h9 _).mono ?_; rintro e w2 ⟨rfl, hw2⟩; subst w2))
      go_ret
      exact ⟨by simp, hb⟩
  · have h6 := bytes6_no s w hs
    clear hvar
    go_enter Tryd.func3, Tryd.ntmps3
    go_wp2_with (go_at_call 6; refine h6.mono ?_; rintro e w' ⟨rfl, hw⟩; subst w')
    go_ret
    exact ⟨rfl, Below.refl _ _⟩
end Go.Proofs.Qxb6602354aDoor
