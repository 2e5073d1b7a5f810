import Derived.Test.Qxb6602354aHexWalks
import Derived.Test.Qxb6602354aCopy
namespace Go.Proofs.Qxb6602354a
open Go.RowKit
set_option linter.unusedVariables false
set_option linter.unusedSimpArgs false

set_option maxHeartbeats 400000 in
theorem bytes18_yes (a : Option Addr) (n cap : Nat) (w : World) (h : n ≤ 1048576) :
    Calls Try.prog 18 #[.slice a n cap] w fun e w' => e = .returned (.bool true) ∧ w' = w := by
  go_enter Try.func18, Try.ntmps18
  go_wp2
  go_ret
  exact ⟨rfl, rfl⟩
set_option maxHeartbeats 400000 in
theorem bytes18_no (a : Option Addr) (n cap : Nat) (w : World) (h : ¬ n ≤ 1048576) :
    Calls Try.prog 18 #[.slice a n cap] w fun e w' => e = .returned (.bool false) ∧ w' = w := by
  go_enter Try.func18, Try.ntmps18
  go_wp2
  go_ret
  exact ⟨rfl, rfl⟩

set_option maxHeartbeats 400000 in
theorem hexValue_yes (c : Int) (w : World) (h : IsHex c) :
    Calls Try.prog 21 #[.int .u8 c] w fun e w' => e = .returned (.tuple #[.int .u32 (hexd c), .bool true]) ∧ w' = w := by
  rcases h with ⟨h1, h2⟩ | ⟨h1, h2⟩ | ⟨h1, h2⟩
  · have e : hexd c = c - 48 := by unfold hexd; rw [if_pos h2]
    rw [e]; clear e
    go_enter Try.func21, Try.ntmps21
    go_wp2
    go_ret2
    exact ⟨rfl, rfl⟩
  · have e : hexd c = c - 97 + 10 := by unfold hexd; rw [if_neg (by omega), if_pos h1]; omega
    rw [e]; clear e
    go_enter Try.func21, Try.ntmps21
    go_wp2
    go_ret2
    exact ⟨rfl, rfl⟩
  · have e : hexd c = c - 65 + 10 := by unfold hexd; rw [if_neg (by omega), if_neg (by omega)]; omega
    rw [e]; clear e
    go_enter Try.func21, Try.ntmps21
    go_wp2
    go_ret2
    exact ⟨rfl, rfl⟩
set_option maxHeartbeats 400000 in
theorem hexValue_no (c : Int) (w : World) (h0 : 0 ≤ c) (h1 : c ≤ 255) (h : ¬ IsHex c) :
    Calls Try.prog 21 #[.int .u8 c] w fun e w' => e = .returned (.tuple #[.int .u32 0, .bool false]) ∧ w' = w := by
  have hh : c < 48 ∨ (57 < c ∧ c < 65) ∨ (70 < c ∧ c < 97) ∨ 102 < c := by unfold IsHex at h; omega
  clear h
  rcases hh with h | ⟨h2, h3⟩ | ⟨h2, h3⟩ | h
  all_goals
    go_enter Try.func21, Try.ntmps21
    go_wp2
    go_ret2
    exact ⟨rfl, rfl⟩

theorem isHex_empty (a : Option Addr) (cap : Nat) (w : World) :
    Calls Try.prog 19 #[.slice a 0 cap] w fun e w' => e = .returned (.bool true) ∧ w' = w := by
  go_enter Try.func19, Try.ntmps19
  go_wp2
  refine wp_loop_rounds 1 ?_; rw [rounds_succ]; go_wp2
  go_ret
  exact ⟨rfl, rfl⟩

/-- What zzIsHexDigits comes to: a bool, and if it is true every byte is a digit. -/
def HexEnd (zs : List Int) (n : Nat) (e : Ending) : Prop := ∃ r : Bool, e = .returned (.bool r) ∧ (r = true → ∀ k, k < n → IsHex (zs.getD k 0))

set_option maxHeartbeats 400000 in
theorem isHex_any (b off n cap : Nat) (zs : List Int) (w : World) (hn : zs.length = n) (hm : n ≤ 1048576)
    (hx : ∀ k, k < n → 0 ≤ zs.getD k 0 ∧ zs.getD k 0 ≤ 255) (hc : ∀ k, k < n → w.cell? ⟨b, off + k, none⟩ = some (.int .u8 (zs.getD k 0))) :
    Calls Try.prog 19 #[.slice (some ⟨b, off, none⟩) n cap] w fun e w' => HexEnd zs n e ∧ w' = w := by
  go_enter Try.func19, Try.ntmps19
  go_wp2
  go_loop [3] (fun i => ∃ k : Nat, k ≤ n ∧ i = .int .i64 k ∧ Hid (∀ j, j < k → IsHex (zs.getD j 0))) (fun i => n - (intOf i).toNat)
  case atStart => exact ⟨0, Nat.zero_le _, rfl, fun j hj => by omega⟩
  case round =>
    obtain ⟨k, hk, rfl, hall⟩ := hrel
    by_cases hlt : k < n
    · have hcell := hc k hlt
      have hbd := hx k hlt
      obtain ⟨c, hcv⟩ : ∃ c, c = zs.getD k 0 := ⟨_, rfl⟩
      rw [← hcv] at hcell hbd
      have HC : Hid (c = zs.getD k 0) := hcv
      obtain ⟨hb0, hb1⟩ := hbd
      clear hcv hc hx
      by_cases hh : IsHex c
      · go_wp2_with (go_at_call 21; refine (hexValue_yes c _ hh).mono ?_; rintro e w' ⟨rfl, rfl⟩)
        go_round
        case rel => exact ⟨k + 1, by omega, by go_num, fun j hj => by
          by_cases e : j = k
          · subst e; rw [← HC.out]; exact hh
          · exact hall.out j (by omega)⟩
        case measure => simp [intOf]; omega
      · go_wp2_with (go_at_call 21; refine (hexValue_no c _ hb0 hb1 hh).mono ?_; rintro e w' ⟨rfl, rfl⟩)
        go_ret
        exact ⟨⟨false, rfl, fun h => (by cases h)⟩, rfl⟩
    · go_wp2
      go_ret
      exact ⟨⟨true, rfl, fun _ j hj => hall.out j (by omega)⟩, rfl⟩
/-- The same at whatever address a slice that came in bears. -/
theorem isHex_ad (ad : Addr) (n cap : Nat) (zs : List Int) (w : World) (hn : zs.length = n) (hm : n ≤ 1048576)
    (hx : ∀ k, k < n → 0 ≤ zs.getD k 0 ∧ zs.getD k 0 ≤ 255) (hc : ∀ j, j < n → w.cell? (ad.add j) = some (.int .u8 (zs.getD j 0))) :
    Calls Try.prog 19 #[.slice (some ad) n cap] w fun e w' => HexEnd zs n e ∧ w' = w := by
  by_cases h0 : n = 0
  · subst h0
    exact (isHex_empty (some ad) cap w).mono fun e w' h => ⟨⟨true, h.1, fun _ k hk => (by omega)⟩, h.2⟩
  · obtain ⟨b, off, spot⟩ := ad
    have hspot : spot = none := by simpa [Addr.add] using World.cell?_spot (hc 0 (by omega))
    subst hspot
    exact isHex_any b off n cap zs w hn hm hx (fun j hj => by rw [← Go.WideShapes.add_plain]; exact hc j hj)

theorem hexRune_nil (w : World) : Calls Try.prog 20 #[.slice none 0 0] w fun e w' => e = .returned (.int .i32 0) ∧ w' = w := by
  have h : Calls Try.prog 26 #[.slice none 0 0] w fun e w' => e = .returned (.int .i32 0) ∧ w' = w := by
    go_enter Try.func26, Try.ntmps26
    go_wp2
    refine wp_loop_rounds 1 ?_; rw [rounds_succ]; go_wp2
    go_ret
    exact ⟨rfl, rfl⟩
  go_enter Try.func20, Try.ntmps20
  go_wp2_with (go_at_call 26; refine h.mono ?_; rintro e w' ⟨rfl, rfl⟩)
  go_ret
  exact ⟨rfl, rfl⟩
end Go.Proofs.Qxb6602354a
