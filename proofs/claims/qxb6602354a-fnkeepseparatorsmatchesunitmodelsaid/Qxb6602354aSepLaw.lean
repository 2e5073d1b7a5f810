import Derived.Test.Qxb6602354aSepMatch
import Derived.Test.Qxb6602354aSepKeep
namespace Go.Proofs.Qxb6602354a
open Go.RowKit
set_option linter.unusedVariables false
set_option linter.unusedSimpArgs false

theorem well_ad (ad : Addr) (n cap : Nat) (zs : List Int) (w : World) (hn : zs.length = n) (hm : n ≤ 1048576)
    (hc : ∀ j, j < n → w.cell? (ad.add j) = some (.int .u8 (zs.getD j 0))) :
    Calls Try.prog 9 #[.slice (some ad) n cap] w fun e w' => WellEnd zs e ∧ w' = w := by
  by_cases h0 : n = 0
  · subst h0
    obtain rfl : zs = [] := List.eq_nil_of_length_eq_zero hn
    exact (well_empty (some ad) cap w).mono fun e w' h => ⟨⟨true, h.1, fun _ => ⟨[], Units.nil⟩⟩, h.2⟩
  · obtain ⟨b, off, spot⟩ := ad
    have hspot : spot = none := by simpa [Addr.add] using World.cell?_spot (hc 0 (by omega))
    subst hspot
    exact well_any b off n cap zs w hn hm (fun j hj => by rw [← Go.WideShapes.add_plain]; exact hc j hj)

theorem keep_nil (w : World) : Calls Try.prog 11 #[.slice none 0 0] w fun e w' => e = .returned (.slice none 0 0) ∧ w' = w := by
  have q22 := eql_nil22
  have h : Calls Try.prog 23 #[.slice none 0 0] w fun e w' => e = .returned (.slice none 0 0) ∧ w' = w := by
    go_enter Try.func23, Try.ntmps23
    go_wp2
    refine wp_loop_rounds 1 ?_; rw [rounds_succ]; go_wp2
    go_ret
    exact ⟨rfl, rfl⟩
  go_enter Try.func11, Try.ntmps11
  go_wp2_with (go_at_call 23; refine h.mono ?_; rintro e w' ⟨rfl, rfl⟩)
  go_ret
  exact ⟨rfl, rfl⟩
theorem match_nil (w : World) : Calls Try.prog 12 #[.slice none 0 0, .slice none 0 0] w fun e w' => e = .returned (.bool true) ∧ w' = w := by
  go_enter Try.func12, Try.ntmps12
  go_wp2
  refine wp_loop_rounds 1 ?_; rw [rounds_succ]; go_wp2
  go_ret
  exact ⟨rfl, rfl⟩

def KeepEnd (us : List (List Int)) (w : World) (e : Ending) (w' : World) : Prop :=
  (∃ g ocap, e = .returned (.slice (some ⟨g, 0, none⟩) (kept us).length ocap) ∧ RowAt w' g (kept us)) ∧ Below w.heap.size w w'
theorem zzkeep_any (tb n : Nat) (us : List (List Int)) (zs : List Int) (w : World) (hu : Units us zs) (hn : zs.length = n) (hm : n ≤ 1048576)
    (hbd : ∀ z ∈ zs, 0 ≤ z ∧ z ≤ 255) (hc : RowAt w tb zs) (htb : tb < w.heap.size) :
    Calls Try.prog 11 #[.slice (some ⟨tb, 0, none⟩) n n] w fun e w' => KeepEnd us w e w' := by
  have h := keep_any tb n us zs w hu hn hm hbd hc htb
  clear hu hn hbd hc
  go_enter Try.func11, Try.ntmps11
  go_wp2_with (go_at_call 23; refine h.mono ?_; rintro e w' ⟨⟨g, oc, rfl, hr⟩, hb⟩)
  go_ret
  exact ⟨⟨g, oc, rfl, hr⟩, hb⟩

set_option maxHeartbeats 400000 in
theorem sep_big (a : Option Addr) (n cap : Nat) (w : World) (h : ¬ n ≤ 1048576) :
    Calls Try.prog 3 #[.slice a n cap] w fun e w' => e = .returned (.bool true) ∧ Below w.heap.size w w' := by
  go_enter Try.func3, Try.ntmps3
  go_wp2_with (go_at_call 8; refine (bytes8_no _ _ _ _ h).mono ?_; rintro e w' ⟨rfl, rfl⟩)
  go_ret
  exact ⟨rfl, Below.refl _ _⟩

set_option maxHeartbeats 400000 in
theorem sep_nil (w : World) :
    Calls Try.prog 3 #[.slice none 0 0] w fun e w' => e = .returned (.bool true) ∧ Below w.heap.size w w' := by
  have q22 := eql_nil22
  go_enter Try.func3, Try.ntmps3
  go_wp2_with (first | (go_at_call 8; refine (bytes8_yes none 0 0 _ (by omega)).mono ?_; rintro e w' ⟨rfl, rfl⟩) | (go_at_call 9; refine (well_empty none 0 _).mono ?_; rintro e w' ⟨rfl, rfl⟩) | (go_at_call 10; refine (copy_nil _).mono ?_; rintro e w' ⟨rfl, rfl⟩) | (go_at_call 11; refine (keep_nil _).mono ?_; rintro e w' ⟨rfl, rfl⟩) | (go_at_call 12; refine (match_nil _).mono ?_; rintro e w' ⟨rfl, rfl⟩))
  go_ret
  exact ⟨rfl, Below.refl _ _⟩

set_option maxHeartbeats 400000 in
theorem sep_some (ad : Addr) (n cap : Nat) (zs : List Int) (w : World) (hn : zs.length = n) (hm : n ≤ 1048576)
    (hbd : ∀ z ∈ zs, 0 ≤ z ∧ z ≤ 255) (hc : ∀ j, j < n → w.cell? (ad.add j) = some (.int .u8 (zs.getD j 0))) :
    Calls Try.prog 3 #[.slice (some ad) n cap] w fun e w' => e = .returned (.bool true) ∧ Below w.heap.size w w' := by
  have h9 := well_ad ad n cap zs w hn hm hc
  have h10 := copy_any ad n cap zs w hn hm hc
  have q22 := eql_nil22
  have HN : Hid (zs.length = n) := hn
  have HBD : Hid (∀ z ∈ zs, 0 ≤ z ∧ z ≤ 255) := hbd
  clear hc hn hbd
  go_enter Try.func3, Try.ntmps3
  go_wp2_with (go_at_call 8; refine (bytes8_yes _ _ _ _ hm).mono ?_; rintro e w' ⟨rfl, hw⟩; subst w')
  refine h9.mono ?_
  rintro e w' ⟨⟨r, rfl, hr⟩, hw⟩
  subst w'
  cases r
  · go_wp2
    go_ret
    exact ⟨rfl, Below.refl _ _⟩
  · obtain ⟨us, hus⟩ := hr rfl
    clear hr
    have HUS : Hid (Units us zs) := hus
    clear hus
    go_wp2_with (go_at_call 10; refine h10.mono ?_; rintro e w1 ⟨rfl, hrow, hb⟩; refine Hid.out ?_)
    refine (show ∀ {p : Prop}, p → Hid p from fun h => h) ?_
    have hR1 : RowAt w1 w.heap.size zs := fun k hk => row_cell hrow k hk
    have hlt1 : w.heap.size < w1.heap.size := by
      rcases Nat.lt_or_ge w.heap.size w1.heap.size with h | h
      · exact h
      · rw [Array.getElem?_eq_none h] at hrow; cases hrow
    have h11 := zzkeep_any w.heap.size n us zs w1 HUS.out HN.out hm HBD.out hR1 hlt1
    clear h9 h10 hrow
    go_wp2_with (go_at_call 11; refine h11.mono ?_; rintro e w2 ⟨⟨g, oc, rfl, hR2⟩, hb2⟩; refine Hid.out ?_)
    refine (show ∀ {p : Prop}, p → Hid p from fun h => h) ?_
    have hR3 : RowAt w2 w.heap.size zs := fun k hk => by rw [hb2.cell (p := ⟨w.heap.size, k, none⟩) hlt1]; exact hR1 k hk
    have hkl : (kept us).length ≤ n := by have := kept_le us; rw [HUS.out.1, HN.out] at this; exact this
    have h12 := match_any w.heap.size g n n (kept us).length oc us zs (kept us) w2 HUS.out.2 HUS.out.1 rfl HN.out rfl hm hkl hR3 hR2
    clear h11 hR1
    have hb3 : Below w.heap.size w w2 := hb.trans (hb2.mono (by omega))
    have hsz2 : w.heap.size ≤ w2.heap.size := hb3.size
    go_wp2_with (go_at_call 12; refine h12.mono ?_; rintro e w3 ⟨rfl, hb4⟩)
    go_ret
    exact ⟨rfl, hb3.trans (hb4.mono hsz2)⟩
end Go.Proofs.Qxb6602354a
