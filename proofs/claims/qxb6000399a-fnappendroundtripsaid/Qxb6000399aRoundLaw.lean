import Derived.Test.Qxb6000399aRound
import Derived.Test.Qxb6000399aAppend
namespace Go.Proofs.Qxb6000399a
open Go.RowKit
set_option linter.unusedVariables false
set_option linter.unusedSimpArgs false

set_option maxHeartbeats 400000 in
theorem bytes9_yes (s : ByteArray) (exp scale : Int) (neg : Bool) (w : World) (h : s.size ≤ 1048576) :
    Calls Try.prog 9 #[.string s, .int .i32 exp, .int .i32 scale, .bool neg] w fun e w' => e = .returned (.bool true) ∧ w' = w := by
  go_enter Try.func9, Try.ntmps9
  go_wp2
  go_ret
  exact ⟨rfl, rfl⟩
set_option maxHeartbeats 400000 in
theorem bytes9_no (s : ByteArray) (exp scale : Int) (neg : Bool) (w : World) (h : ¬ s.size ≤ 1048576) :
    Calls Try.prog 9 #[.string s, .int .i32 exp, .int .i32 scale, .bool neg] w fun e w' => e = .returned (.bool false) ∧ w' = w := by
  go_enter Try.func9, Try.ntmps9
  go_wp2
  go_ret
  exact ⟨rfl, rfl⟩

/-- Append's text, read back. -/
theorem parse_text (s : ByteArray) (exp scale : Int) (neg : Bool) (B : Nat) (v : Value) (w : World) (hs : s.size ≤ 65536) (hB : Bounded s.data.toList exp scale neg) (ho : Owns w B v (textP s.data.toList exp scale neg)) :
    ∃ g cap, v = .slice (some ⟨g, 0, none⟩) (textP s.data.toList exp scale neg).length cap ∧
    Calls Try.prog 13 #[v] w fun e w' => (∃ t : ByteArray, t.data.toList = s.data.toList ∧ e = .returned (.tuple #[.string t, .int .i32 exp, .int .i32 scale, .bool neg, .bool true])) ∧ Below w.heap.size w w' := by
  have hls : s.data.toList.length = s.size := Array.length_toList
  have hm := text_len hB (by omega)
  have hmk := text_mk hB
  have hpt := pt_of neg _ _ (int_ne hB) (int_dig hB) (frac_dig hB)
  obtain ⟨la, tr, hz, hcut, hexp⟩ := round_trip hB
  have hfl := frac_len hB
  have hlen := mk_len neg (intP s.data.toList (wholeOf s.data.toList exp)) (fracOf s.data.toList exp scale)
  have c1 := cut_int neg (intP s.data.toList (wholeOf s.data.toList exp)) (fracOf s.data.toList exp scale)
  have c2 := cut_frac neg (intP s.data.toList (wholeOf s.data.toList exp)) (fracOf s.data.toList exp scale)
  have hpos : 0 < (textP s.data.toList exp scale neg).length := by
    have h1 := List.length_pos_iff.2 (int_ne hB)
    rw [hmk, hlen]; unfold fsOf qOf; split <;> omega
  obtain ⟨g, cap, hv, hcap, hrow⟩ := ho.form hpos
  refine ⟨g, cap, hv, ?_⟩
  rw [hv]
  have hg : g < w.heap.size := World.block_lt_of_cell? _ _ (hrow 0 hpos)
  rw [hmk] at hm hrow hpos ⊢
  have h := parse_any g _ cap (mk neg (intP s.data.toList (wholeOf s.data.toList exp)) (fracOf s.data.toList exp scale)) neg _ _ _ w hpt rfl hm hrow hg (intP s.data.toList (wholeOf s.data.toList exp) ++ fracOf s.data.toList exp scale) la tr (by rw [c1, c2]) hz
  refine h.mono ?_
  rintro e w' ⟨⟨t, ht, he⟩, hb⟩
  refine ⟨⟨t, ht.trans hcut, ?_⟩, hb⟩
  rw [he, show (mk neg (intP s.data.toList (wholeOf s.data.toList exp)) (fracOf s.data.toList exp scale)).length - fsOf neg (intP s.data.toList (wholeOf s.data.toList exp)) (fracOf s.data.toList exp scale) = (fracOf s.data.toList exp scale).length by omega, hexp, hfl]

set_option maxHeartbeats 800000 in
theorem round_any (s : ByteArray) (exp scale : Int) (neg : Bool) (w : World) (e0 : -2147483648 ≤ exp) (e1 : exp ≤ 2147483647) (s0 : -2147483648 ≤ scale) (s1 : scale ≤ 2147483647) :
    Calls Try.prog 3 #[.string s, .int .i32 exp, .int .i32 scale, .bool neg] w fun e w' => e = .returned (.bool true) ∧ Below w.heap.size w w' := by
  by_cases hs : s.size ≤ 1048576
  · have h9 := bytes9_yes s exp scale neg w hs
    by_cases hs2 : s.size ≤ 65536
    · have h10 := bounded_any s exp scale neg w hs s0 s1
      go_enter Try.func3, Try.ntmps3
      go_wp2_with (go_at_call 9; refine h9.mono ?_; rintro e w' ⟨rfl, hw⟩; subst w')
      refine h10.mono ?_
      rintro e w' ⟨⟨r, rfl, hr⟩, hw⟩
      subst w'
      cases r
      · go_wp2
        go_ret
        exact ⟨rfl, Below.refl _ _⟩
      · have HB : Hid (Bounded s.data.toList exp scale neg) := hr rfl
        have h11 := make_any s exp scale neg w
        have h12 := fun w => append_any s exp scale neg w hs2 HB.out
        clear hr h9 h10
        go_wp2_with (first | (go_at_call 11; refine h11.mono ?_; rintro e w1 ⟨rfl, hb1⟩) | (go_at_call 12; refine (h12 _).mono ?_; rintro e w2 ⟨⟨v, rfl, ho⟩, hb2⟩; refine Hid.out ?_))
        refine (show ∀ {p : Prop}, p → Hid p from fun h => h) ?_
        obtain ⟨g, cap, hv, h13⟩ := parse_text s exp scale neg _ v w2 hs2 HB.out ho
        have hsz1 := hb1.size
        have hsz2 := hb2.size
        have hbb : Below w.heap.size w w2 := hb1.trans (hb2.mono hsz1)
        have hsz3 : w.heap.size ≤ w2.heap.size := hbb.size
        clear h11 h12 ho hb1 hb2 hv
        go_wp2_with (go_at_call 13; refine h13.mono ?_; rintro e w3 ⟨⟨t, ht, rfl⟩, hb3⟩; refine Hid.out ?_)
        refine (show ∀ {p : Prop}, p → Hid p from fun h => h) ?_
        have heq : (t.toList == s.toList) = true := by rw [ByteArray.toList_eq, ByteArray.toList_eq, ht]; simp
        clear h13 ht
        go_wp2
        go_ret
        exact ⟨by simp, hbb.trans (hb3.mono hsz3)⟩
    · go_enter Try.func3, Try.ntmps3
      go_wp2_with (go_at_call 9; refine h9.mono ?_; rintro e w' ⟨rfl, hw⟩; subst w')
      go_ret
      exact ⟨rfl, Below.refl _ _⟩
  · have h9 := bytes9_no s exp scale neg w hs
    go_enter Try.func3, Try.ntmps3
    go_wp2_with (go_at_call 9; refine h9.mono ?_; rintro e w' ⟨rfl, hw⟩; subst w')
    go_ret
    exact ⟨rfl, Below.refl _ _⟩
end Go.Proofs.Qxb6000399a
