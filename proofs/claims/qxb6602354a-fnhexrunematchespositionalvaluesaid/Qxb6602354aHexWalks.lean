import Derived.Test.Qxb6602354aRows
import Derived.Test.Qxb6602354aHexPlain
import Derived.WalkKit
import Derived.WalkSpells
import Derived.WalkLawsBesides
namespace Go.Proofs.Qxb6602354a
open Go.RowKit
set_option linter.unusedVariables false
set_option linter.unusedSimpArgs false

theorem ret_int {k : IntKind} {a b : Int} (h : a = b) : Ending.returned (.int k a) = .returned (.int k b) := by rw [h]
theorem ret_bool {a b : Bool} (h : a = b) : Ending.returned (.bool a) = .returned (.bool b) := by rw [h]

set_option maxHeartbeats 400000 in
theorem hexChar_any (d : Int) (u : Bool) (w : World) (h0 : 0 ≤ d) (h1 : d < 16) :
    Calls Try.prog 22 #[.int .u8 d, .bool u] w fun e w' => e = .returned (.int .u8 (chrOf d u)) ∧ w' = w := by
  by_cases h : d < 10
  · rw [chrOf_lo u h]
    go_enter Try.func22, Try.ntmps22
    go_wp2
    go_ret
    exact ⟨rfl, rfl⟩
  · cases u
    · rw [chrOf_dn h]
      go_enter Try.func22, Try.ntmps22
      go_wp2
      go_ret
      exact ⟨ret_int (by omega), rfl⟩
    · rw [chrOf_up h]
      go_enter Try.func22, Try.ntmps22
      go_wp2
      go_ret
      exact ⟨ret_int (by omega), rfl⟩

set_option maxHeartbeats 400000 in
theorem hexRune_any (b off n cap : Nat) (zs : List Int) (w : World) (hn : zs.length = n) (hm : n ≤ 9223372036854775807)
    (hx : ∀ k, k < n → IsHex (zs.getD k 0)) (hc : ∀ k, k < n → w.cell? ⟨b, off + k, none⟩ = some (.int .u8 (zs.getD k 0))) :
    Calls Try.prog 26 #[.slice (some ⟨b, off, none⟩) n cap] w fun e w' => e = .returned (.int .i32 (hexFold zs)) ∧ w' = w := by
  go_enter Try.func26, Try.ntmps26
  go_wp2
  go_loop [3, 8] (fun r i => ∃ k : Nat, k ≤ n ∧ i = .int .i64 k ∧ r = .int .i32 (hexFold (zs.take k))) (fun _ i => n - (intOf i).toNat)
  case atStart => exact ⟨0, Nat.zero_le _, rfl, rfl⟩
  case round =>
    obtain ⟨k, hk, rfl, rfl⟩ := hrel
    by_cases hlt : k < n
    · have hcell := hc k hlt
      have hkz : k < zs.length := by omega
      have hhex : IsHex zs[k] := by have := hx k hlt; simpa [hkz] using this
      go_wp2
      · have h1 : zs[k] ≤ 57 := by assumption
        go_round
        case rel => exact ⟨k + 1, by omega, by go_num, by rw [hexFold_take zs k hkz, step_lo _ _ hhex h1]⟩
        case measure => simp [intOf]; omega
      · have h1 : 57 < zs[k] := by assumption
        have h2 : 97 ≤ zs[k] := by assumption
        go_round
        case rel => exact ⟨k + 1, by omega, by go_num, by rw [hexFold_take zs k hkz, step_hi _ _ hhex h1 h2]⟩
        case measure => simp [intOf]; omega
      · have h1 : 57 < zs[k] := by assumption
        have h2 : zs[k] < 97 := by assumption
        go_round
        case rel => exact ⟨k + 1, by omega, by go_num, by rw [hexFold_take zs k hkz, step_mid _ _ hhex h1 h2]⟩
        case measure => simp [intOf]; omega
    · go_wp2
      go_ret
      exact ⟨ret_int (by rw [List.take_of_length_le (by omega)]), rfl⟩

set_option maxHeartbeats 400000 in
theorem zzHexRune_any (b off n cap : Nat) (zs : List Int) (w : World) (hn : zs.length = n) (hm : n ≤ 9223372036854775807)
    (hx : ∀ k, k < n → IsHex (zs.getD k 0)) (hc : ∀ k, k < n → w.cell? ⟨b, off + k, none⟩ = some (.int .u8 (zs.getD k 0))) :
    Calls Try.prog 20 #[.slice (some ⟨b, off, none⟩) n cap] w fun e w' => e = .returned (.int .i32 (hexFold zs)) ∧ w' = w := by
  go_enter Try.func20, Try.ntmps20
  go_wp2_with (go_at_call 26; refine (hexRune_any b off n cap zs _ hn hm hx hc).mono ?_; rintro e w' ⟨rfl, rfl⟩)
  go_ret
  exact ⟨rfl, rfl⟩
end Go.Proofs.Qxb6602354a
