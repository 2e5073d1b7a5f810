import Derived.Test.Qxb6602354aDoorRows
import Derived.Test.Qxb6602354aDoorPlain
import Derived.Lib.Strings
import Derived.WalkKit
import Derived.WalkSpells
import Derived.WalkLawsBesides
namespace Go.Proofs.Qxb6602354aDoor
open Go.RowKit
set_option linter.unusedVariables false
set_option linter.unusedSimpArgs false

theorem ret_int {k : IntKind} {a b : Int} (h : a = b) : Ending.returned (.int k a) = .returned (.int k b) := by rw [h]

theorem win8 (s : ByteArray) (k : Nat) (h : k + 8 ≤ s.size) (hw : ((s.extract k (k + 8)).toList == [48, 48, 48, 48, 48, 48, 48, 48]) = true) : strip (s.data.toList.drop k) = strip (s.data.toList.drop (k + 8)) := by
  apply strip_eight
  rw [ByteArray.toList_eq, Lib.extract_data] at hw
  simpa using hw

theorem byte_at (s : ByteArray) (j : Nat) (h : j < s.size) : s.data.toList[j]'(by rw [Array.length_toList]; exact h) = s[j] := rfl
theorem byte_48 {c : UInt8} (h : ((c.toNat : Int) == 48) = true) : c = 48 := by
  have h1 : (c.toNat : Int) = 48 := by simpa using h
  exact UInt8.toNat_inj.1 (by show c.toNat = 48; omega)
theorem zero_step (s : ByteArray) (j : Nat) (h : j < s.size) (ht : ((s[j].toNat : Int) == 48) = true) : strip (s.data.toList.drop j) = strip (s.data.toList.drop (j + 1)) :=
  strip_one _ j (by rw [Array.length_toList]; exact h) (by rw [byte_at s j h]; exact byte_48 ht)
theorem zero_stop (s : ByteArray) (j : Nat) (h : j < s.size) (ht : ((s[j].toNat : Int) == 48) = false) : (strip (s.data.toList.drop j)).length = s.size - j := by
  rw [strip_stop _ j (by rw [Array.length_toList]; exact h) (by rw [byte_at s j h]; intro e; rw [e] at ht; exact absurd ht (by decide)), List.length_drop, Array.length_toList]; rfl

set_option maxHeartbeats 400000 in
theorem zeros_any (s : ByteArray) (w : World) (hs : s.size ≤ 1048576) :
    Calls Tryd.prog 14 #[.string s] w fun e w' => e = .returned (.int .i64 ((s.size - (strip s.data.toList).length : Nat) : Int)) ∧ w' = w := by
  have hsz : s.data.toList.length = s.size := Array.length_toList
  have HSZ : Hid (s.data.toList.length = s.size) := hsz
  clear hsz
  go_enter Tryd.func14, Tryd.ntmps14
  go_wp2
  go_loop [3] (fun i => ∃ k : Nat, k ≤ s.size ∧ i = .int .i64 k ∧ Hid (strip s.data.toList = strip (s.data.toList.drop k))) (fun i => s.size - (intOf i).toNat)
  case atStart => exact ⟨0, Nat.zero_le _, rfl, rfl⟩
  case round =>
    obtain ⟨k, hk, rfl, HS⟩ := hrel
    by_cases hh : k + 8 ≤ s.size ∧ ((s.extract k (k + 8)).toList == [48, 48, 48, 48, 48, 48, 48, 48]) = true
    · obtain ⟨h8, hw⟩ := hh
      have HW : Hid (strip (s.data.toList.drop k) = strip (s.data.toList.drop (k + 8))) := win8 s k h8 hw
      go_wp2
      go_round
      case rel => exact ⟨k + 8, by omega, by go_num, HS.out.trans HW.out⟩
      case measure => simp [intOf]; omega
    · have hcase : s.size < k + 8 ∨ (k + 8 ≤ s.size ∧ ((s.extract k (k + 8)).toList == [48, 48, 48, 48, 48, 48, 48, 48]) = false) := by
        by_cases h8 : k + 8 ≤ s.size
        · exact Or.inr ⟨h8, by simpa using fun h => hh ⟨h8, h⟩⟩
        · exact Or.inl (by omega)
      clear hh
      rcases hcase with h8 | ⟨h8, hw⟩
      all_goals
        go_wp2
        go_loop [3] (fun i => ∃ k : Nat, k ≤ s.size ∧ i = .int .i64 k ∧ Hid (strip s.data.toList = strip (s.data.toList.drop k))) (fun i => s.size - (intOf i).toNat)
        case atStart => exact ⟨k, hk, rfl, HS.out⟩
        case round =>
          obtain ⟨j, hj, rfl, HT⟩ := hrel
          by_cases hlt : j < s.size
          · go_wp2
            · have ht : ((s[j].toNat : Int) == 48) = true := by assumption
              go_round
              case rel => exact ⟨j + 1, by omega, by go_num, HT.out.trans (zero_step s j hlt ht)⟩
              case measure => simp [intOf]; omega
            · have ht : ((s[j].toNat : Int) == 48) = false := by assumption
              go_ret
              exact ⟨ret_int (by rw [HT.out, zero_stop s j hlt ht]; omega), rfl⟩
          · go_wp2
            go_ret
            exact ⟨ret_int (by rw [HT.out, List.drop_of_length_le (by rw [HSZ.out]; omega)]; show _ = ((s.size - 0 : Nat) : Int); omega), rfl⟩
end Go.Proofs.Qxb6602354aDoor
