import Derived.Test.Qxb6602354aRows
import Derived.Test.Qxb6602354aSepPlain
import Derived.WalkKit
import Derived.WalkSpells
import Derived.WalkLawsBesides
namespace Go.Proofs.Qxb6602354a
open Go.RowKit
set_option linter.unusedVariables false
set_option linter.unusedSimpArgs false

set_option maxHeartbeats 400000 in
theorem bytes8_yes (a : Option Addr) (n cap : Nat) (w : World) (h : n ≤ 1048576) :
    Calls Try.prog 8 #[.slice a n cap] w fun e w' => e = .returned (.bool true) ∧ w' = w := by
  go_enter Try.func8, Try.ntmps8
  go_wp2
  go_ret
  exact ⟨rfl, rfl⟩
set_option maxHeartbeats 400000 in
theorem bytes8_no (a : Option Addr) (n cap : Nat) (w : World) (h : ¬ n ≤ 1048576) :
    Calls Try.prog 8 #[.slice a n cap] w fun e w' => e = .returned (.bool false) ∧ w' = w := by
  go_enter Try.func8, Try.ntmps8
  go_wp2
  go_ret
  exact ⟨rfl, rfl⟩

theorem well_empty (a : Option Addr) (cap : Nat) (w : World) :
    Calls Try.prog 9 #[.slice a 0 cap] w fun e w' => e = .returned (.bool true) ∧ w' = w := by
  go_enter Try.func9, Try.ntmps9
  go_wp2
  refine wp_loop_rounds 1 ?_; rw [rounds_succ]; go_wp2
  go_ret
  exact ⟨rfl, rfl⟩

/-- What zzWellEscaped comes to: a bool, and if it is true the text can be cut into units. -/
def WellEnd (zs : List Int) (e : Ending) : Prop := ∃ r : Bool, e = .returned (.bool r) ∧ (r = true → ∃ us, Units us zs)

set_option maxHeartbeats 400000 in
theorem well_any (b off n cap : Nat) (zs : List Int) (w : World) (hn : zs.length = n) (hm : n ≤ 1048576)
    (hc : ∀ k, k < n → w.cell? ⟨b, off + k, none⟩ = some (.int .u8 (zs.getD k 0))) :
    Calls Try.prog 9 #[.slice (some ⟨b, off, none⟩) n cap] w fun e w' => WellEnd zs e ∧ w' = w := by
  go_enter Try.func9, Try.ntmps9
  go_wp2
  go_loop [3] (fun i => ∃ k : Nat, k ≤ n ∧ i = .int .i64 k ∧ Hid (∃ us, Units us (zs.take k))) (fun i => n - (intOf i).toNat)
  case atStart => exact ⟨0, Nat.zero_le _, rfl, ⟨[], Units.nil⟩⟩
  case round =>
    obtain ⟨k, hk, rfl, HU⟩ := hrel
    by_cases hlt : k < n
    · have hc0 := hc k hlt
      have hc1 : k + 1 < n → w.cell? ⟨b, off + (k + 1), none⟩ = some (.int .u8 (zs.getD (k + 1) 0)) := fun h => hc (k + 1) h
      obtain ⟨c0, e0⟩ : ∃ c, c = zs.getD k 0 := ⟨_, rfl⟩
      obtain ⟨c1, e1⟩ : ∃ c, c = zs.getD (k + 1) 0 := ⟨_, rfl⟩
      rw [← e0] at hc0
      rw [← e1] at hc1
      have HE : Hid (c0 = zs.getD k 0 ∧ c1 = zs.getD (k + 1) 0) := ⟨e0, e1⟩
      clear e0 e1 hc
      by_cases h0 : c0 = 92
      · by_cases h2 : k + 2 ≤ n
        · have hc1 := hc1 (by omega)
          by_cases h1 : c1 = 117
          · by_cases h6 : k + 6 ≤ n
            · subst h0 h1
              go_wp2
              go_round
              case rel => exact ⟨k + 6, by omega, by go_num, by
                obtain ⟨us, hus⟩ := HU.out
                exact step6 hus (by omega) HE.out.1.symm HE.out.2.symm⟩
              case measure => simp [intOf]; omega
            · subst h0 h1
              go_wp2
              go_ret
              exact ⟨⟨false, rfl, fun h => (by cases h)⟩, rfl⟩
          · subst h0
            have h1' : (c1 == 117) = false := by simpa using h1
            go_wp2
            go_round
            case rel => exact ⟨k + 2, by omega, by go_num, by
                obtain ⟨us, hus⟩ := HU.out
                exact step2 hus (by omega) HE.out.1.symm (by rw [← HE.out.2]; simpa using h1')⟩
            case measure => simp [intOf]; omega
        · subst h0
          clear hc1
          go_wp2
          go_ret
          exact ⟨⟨false, rfl, fun h => (by cases h)⟩, rfl⟩
      · have h0' : (c0 == 92) = false := by simpa using h0
        clear hc1
        go_wp2
        go_round
        case rel => exact ⟨k + 1, by omega, by go_num, by
                obtain ⟨us, hus⟩ := HU.out
                exact step1 hus (by omega) (by rw [← HE.out.1]; simpa using h0')⟩
        case measure => simp [intOf]; omega
    · go_wp2
      go_ret
      exact ⟨⟨true, rfl, fun _ => by
        obtain ⟨us, hus⟩ := HU.out
        rw [List.take_of_length_le (by omega)] at hus
        exact ⟨us, hus⟩⟩, rfl⟩
end Go.Proofs.Qxb6602354a
