import Derived.Test.Qxb6602354aHexPos
namespace Go.Proofs.Qxb6602354a
open Go.RowKit
set_option linter.unusedVariables false
set_option linter.unusedSimpArgs false

set_option maxHeartbeats 400000 in
theorem pos_big (a : Option Addr) (n cap : Nat) (w : World) (h : ¬ n ≤ 1048576) :
    Calls Try.prog 6 #[.slice a n cap] w fun e w' => e = .returned (.bool true) ∧ Below w.heap.size w w' := by
  go_enter Try.func6, Try.ntmps6
  go_wp2_with (go_at_call 18; refine (bytes18_no _ _ _ _ h).mono ?_; rintro e w' ⟨rfl, rfl⟩)
  go_ret
  exact ⟨rfl, Below.refl _ _⟩

set_option maxHeartbeats 400000 in
theorem pos_nil (w : World) :
    Calls Try.prog 6 #[.slice none 0 0] w fun e w' => e = .returned (.bool true) ∧ Below w.heap.size w w' := by
  go_enter Try.func6, Try.ntmps6
  go_wp2_with (first | (go_at_call 18; refine (bytes18_yes none 0 0 _ (by omega)).mono ?_; rintro e w' ⟨rfl, rfl⟩) | (go_at_call 19; refine (isHex_empty none 0 _).mono ?_; rintro e w' ⟨rfl, rfl⟩) | (go_at_call 10; refine (copy_nil _).mono ?_; rintro e w' ⟨rfl, rfl⟩) | (go_at_call 20; refine (hexRune_nil _).mono ?_; rintro e w' ⟨rfl, rfl⟩))
  refine wp_loop_rounds 1 ?_; rw [rounds_succ]; go_wp2
  go_ret
  exact ⟨rfl, Below.refl _ _⟩

set_option maxHeartbeats 400000 in
theorem pos_some (ad : Addr) (n cap : Nat) (zs : List Int) (w : World) (hn : zs.length = n) (hm : n ≤ 1048576)
    (hx : ∀ k, k < n → 0 ≤ zs.getD k 0 ∧ zs.getD k 0 ≤ 255) (hc : ∀ j, j < n → w.cell? (ad.add j) = some (.int .u8 (zs.getD j 0))) :
    Calls Try.prog 6 #[.slice (some ad) n cap] w fun e w' => e = .returned (.bool true) ∧ Below w.heap.size w w' := by
  have h19 := isHex_ad ad n cap zs w hn hm hx hc
  have h10 := copy_any ad n cap zs w hn hm hc
  clear hc
  go_enter Try.func6, Try.ntmps6
  go_wp2_with (go_at_call 18; refine (bytes18_yes _ _ _ _ hm).mono ?_; rintro e w' ⟨rfl, rfl⟩)
  refine h19.mono ?_
  rintro e w' ⟨⟨r, rfl, hr⟩, rfl⟩
  cases r
  · go_wp2
    go_ret
    exact ⟨rfl, Below.refl _ _⟩
  · have hhex := hr rfl
    clear hr
    go_wp2_with (go_at_call 10; refine h10.mono ?_; rintro e w1 ⟨rfl, hrow, hb⟩; refine Hid.out ?_)
    refine (show ∀ {p : Prop}, p → Hid p from fun h => h) ?_
    have hcell : ∀ k, k < n → w1.cell? ⟨w'.heap.size, 0 + k, none⟩ = some (.int .u8 (zs.getD k 0)) := fun k hk => by rw [Nat.zero_add]; exact row_cell hrow k (by omega)
    have HROW : Hid (w1.heap[w'.heap.size]? = some (.cells (bcells zs).toArray 5 (0, 0))) := hrow
    clear h19 h10 hrow
    go_wp2_with (go_at_call 20; refine (zzHexRune_any w'.heap.size 0 n n zs w1 hn (by omega) hhex hcell).mono ?_; rintro e w2 ⟨rfl, rfl⟩)
    go_loop [4, 5] (fun v j => ∃ k : Nat, k ≤ 8 ∧ k ≤ n ∧ j = .int .i64 k ∧ v = .int .u32 (hexNum (zs.drop (n - k)))) (fun _ j => 8 - (intOf j).toNat)
    case atStart => exact ⟨0, by omega, by omega, rfl, by rw [List.drop_of_length_le (by omega)]; rfl⟩
    case round =>
      obtain ⟨k, hk8, hkn, rfl, rfl⟩ := hrel
      by_cases hlt : k < 8 ∧ k < n
      · obtain ⟨hl8, hln⟩ := hlt
        have hcl : w2.cell? ⟨w'.heap.size, n - 1 - k, none⟩ = some (.int .u8 (zs.getD (n - 1 - k) 0)) := row_cell HROW.out _ (by omega)
        have hh := hhex (n - 1 - k) (by omega)
        have HD : Hid (hexNum (zs.drop (n - (k + 1))) = hexd (zs.getD (n - 1 - k) 0) * 16 ^ k + hexNum (zs.drop (n - k))) := by have := drop_pred zs k (by omega); rw [hn] at this; exact this
        have hvb : 0 ≤ hexNum (zs.drop (n - k)) ∧ hexNum (zs.drop (n - k)) < 16 ^ k := by
          have := hexNum_bd (zs.drop (n - k)) (fun c hc => by
            obtain ⟨i, hi, rfl⟩ := List.getElem_of_mem (List.mem_of_mem_drop hc)
            have := hhex i (by omega)
            simpa [List.getD, hi] using this)
          rw [List.length_drop] at this
          have e : zs.length - (n - k) = k := by omega
          rw [e] at this; exact this
        obtain ⟨c, hcv⟩ : ∃ c, c = zs.getD (n - 1 - k) 0 := ⟨_, rfl⟩
        rw [← hcv] at hcl hh HD
        have hd := hexd_bd hh
        obtain ⟨d, hdv⟩ : ∃ d, d = hexd c := ⟨_, rfl⟩
        have h21 := fun w => hexValue_yes c w hh
        rw [← hdv] at HD hd h21
        obtain ⟨v, hvv⟩ : ∃ v, v = hexNum (zs.drop (n - k)) := ⟨_, rfl⟩
        rw [← hvv] at HD hvb ⊢
        have HO : Hid (bits .or .u32 v (d * 2 ^ (4 * k)) = d * 16 ^ k + v) := or_pos v d k hl8 hvb.1 hvb.2 hd.1 hd.2
        have hsh := shl_fits d k hl8 hd.1 hd.2
        obtain ⟨hsh0, hsh1⟩ := hsh
        clear hcv hdv hvv hhex hcell hvb
        go_wp2_with (go_at_call 21; refine (h21 _).mono ?_; rintro e w' ⟨rfl, rfl⟩)
        go_round
        case rel => exact ⟨k + 1, by omega, by omega, by go_num, by rw [HD.out, HO.out]⟩
        case measure => simp [intOf]; omega
      · have hk : k = 8 ∨ (k ≤ 8 ∧ k = zs.length) := by omega
        have HE : Hid (wrap32 (hexNum (zs.drop (n - k))) = hexFold zs) := by rw [← hn]; exact last_eight zs k hk
        obtain ⟨v, hvv⟩ : ∃ v, v = hexNum (zs.drop (n - k)) := ⟨_, rfl⟩
        rw [← hvv] at HE ⊢
        clear hk hvv hcell hhex
        by_cases h8 : k < 8
        · have hkn' : ¬ k < n := fun h => hlt ⟨h8, h⟩
          clear hlt
          go_wp2
          go_ret
          exact ⟨ret_bool (by rw [HE.out]; simp), hb⟩
        · clear hlt
          go_wp2
          go_ret
          exact ⟨ret_bool (by rw [HE.out]; simp), hb⟩
end Go.Proofs.Qxb6602354a
