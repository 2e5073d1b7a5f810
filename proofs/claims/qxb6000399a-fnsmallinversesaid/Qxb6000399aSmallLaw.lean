import Derived.Test.Qxb6000399aSmall
import Derived.Test.Qxb6000399aPad
import Derived.Test.Qxb6000399aUtoa
import Derived.Test.Qxb6000399aOwn
namespace Go.Proofs.Qxb6000399a
open Go.RowKit
set_option linter.unusedVariables false
set_option linter.unusedSimpArgs false

set_option maxHeartbeats 400000 in
theorem bytes14_yes (s : ByteArray) (dexp scale : Int) (neg : Bool) (exp : Int) (w : World) (h : s.size ≤ 1048576) :
    Calls Try.prog 14 #[.string s, .int .i32 dexp, .int .i32 scale, .bool neg, .int .i32 exp] w fun e w' => e = .returned (.bool true) ∧ w' = w := by
  go_enter Try.func14, Try.ntmps14
  go_wp2
  go_ret
  exact ⟨rfl, rfl⟩
set_option maxHeartbeats 400000 in
theorem bytes14_no (s : ByteArray) (dexp scale : Int) (neg : Bool) (exp : Int) (w : World) (h : ¬ s.size ≤ 1048576) :
    Calls Try.prog 14 #[.string s, .int .i32 dexp, .int .i32 scale, .bool neg, .int .i32 exp] w fun e w' => e = .returned (.bool false) ∧ w' = w := by
  go_enter Try.func14, Try.ntmps14
  go_wp2
  go_ret
  exact ⟨rfl, rfl⟩

/-- The number is the padded digits'. -/
theorem pad_digits {l : List UInt8} {exp scale : Int} {neg : Bool} (h : Bounded l exp scale neg) (hl : l ≠ []) (k : Nat) (D : List UInt8) (hd : ∀ c ∈ D, IsDig c) (hne : D ≠ []) (hh : D.head? ≠ some 48) (hn : num D = num l * 10 ^ k) : D = l ++ List.replicate k 48 := by
  apply num_inj D _ hd _ hne _ hh _ _
  · intro c hc
    rcases List.mem_append.1 hc with h1 | h1
    · exact h.shape.dig c h1
    · rw [(List.mem_replicate.1 h1).2]; unfold IsDig; decide
  · intro e; exact hl (List.append_eq_nil_iff.1 e).1
  · cases l with
    | nil => exact absurd rfl hl
    | cons c r => exact h.shape.first
  · rw [num_pad, hn]
theorem num_pos {l : List UInt8} {exp scale : Int} {neg : Bool} (h : Bounded l exp scale neg) (hl : l ≠ []) : 0 < num l := by
  have h1 := num_ge l h.shape.dig hl h.shape.first
  have h2 : 0 < 10 ^ (l.length - 1) := Nat.pow_pos (by decide)
  omega

set_option maxHeartbeats 1600000 in
theorem small_law (s : ByteArray) (dexp scale : Int) (neg : Bool) (exp : Int) (w : World) (d0 : -2147483648 ≤ dexp) (d1 : dexp ≤ 2147483647) (s0 : -2147483648 ≤ scale) (s1 : scale ≤ 2147483647) :
    Calls Try.prog 4 #[.string s, .int .i32 dexp, .int .i32 scale, .bool neg, .int .i32 exp] w fun e w' => e = .returned (.bool true) ∧ Below w.heap.size w w' := by
  by_cases hs : s.size ≤ 1048576
  · have h14 := bytes14_yes s dexp scale neg exp w hs
    by_cases hs2 : s.size ≤ 65536
    · have h10 := bounded_any s dexp scale neg w hs s0 s1
      go_enter Try.func4, Try.ntmps4
      go_wp2_with (go_at_call 14; refine h14.mono ?_; rintro e w' ⟨rfl, hw⟩; subst w')
      refine h10.mono ?_
      rintro e w' ⟨⟨r, rfl, hr⟩, hw⟩
      subst w'
      cases r
      · go_wp2
        go_ret
        exact ⟨rfl, Below.refl _ _⟩
      · have HB : Hid (Bounded s.data.toList dexp scale neg) := hr rfl
        have HLS : Hid (s.data.toList.length = s.size) := Array.length_toList
        have e0 := HB.out.lo
        have e1 := HB.out.hi
        clear hr h14 h10 d0 d1
        by_cases c1 : exp < -65536
        · go_wp2
          go_ret
          exact ⟨rfl, Below.refl _ _⟩
        · have c1' : -65536 ≤ exp := by omega
          clear c1
          by_cases c2 : dexp < exp
          · go_wp2
            go_ret
            exact ⟨rfl, Below.refl _ _⟩
          · have c2' : exp ≤ dexp := by omega
            clear c2
            have h11 := make_any s dexp scale neg w
            by_cases c3 : (s.size : Int) + (dexp - exp) ≤ 18
            · have h15 := fun w => zzsmall_yes s dexp scale neg exp w hs2 e0 e1 c1' c2' c3 HB.out.shape.dig
              by_cases c4 : s.data.toList = []
              · have hv : smallV s.data.toList (dexp - exp).toNat neg = 0 := by
                  rw [c4]; unfold smallV; rw [num_nil, Nat.zero_mul]; cases neg <;> rfl
                rw [hv] at h15
                have hz : ((s.size : Int) == 0) = true := beq_iff_eq.2 (by have := HLS.out; rw [c4] at this; simp at this; omega)
                clear hv c4
                go_wp2_with (first | (go_at_call 11; refine h11.mono ?_; rintro e w1 ⟨rfl, hb1⟩) | (go_at_call 15; refine (h15 _).mono ?_; rintro e w2 ⟨rfl, hb2⟩))
                go_ret
                exact ⟨rfl, hb1.trans (hb2.mono hb1.size)⟩
              · have hnp := num_pos HB.out c4
                have hz : ((s.size : Int) == 0) = false := beq_eq_false_iff_ne.2 (by have := HLS.out; have := List.length_pos_iff.2 c4; omega)
                obtain ⟨M, hM⟩ : ∃ M, M = num s.data.toList * 10 ^ (dexp - exp).toNat := ⟨_, rfl⟩
                have hMp : 0 < M := by rw [hM]; exact Nat.mul_pos hnp (Nat.pow_pos (by decide))
                have hMb : M ≤ 1000000000000000000 := by
                  have h1 := num_lt s.data.toList HB.out.shape.dig
                  have h2 : (10 : Nat) ^ (s.data.toList.length + (dexp - exp).toNat) ≤ 10 ^ 18 := Nat.pow_le_pow_right (by decide) (by rw [HLS.out]; omega)
                  have h4 : (10 : Nat) ^ 18 = 1000000000000000000 := by decide
                  rw [Nat.pow_add] at h2
                  have h3 : num s.data.toList * 10 ^ (dexp - exp).toNat < 10 ^ s.data.toList.length * 10 ^ (dexp - exp).toNat := (Nat.mul_lt_mul_right (Nat.pow_pos (by decide))).2 h1
                  omega
                have hv : smallV s.data.toList (dexp - exp).toNat neg = if neg then -(M : Int) else (M : Int) := by unfold smallV; rw [hM]
                rw [hv] at h15
                have HM : Hid (M = num s.data.toList * 10 ^ (dexp - exp).toNat) := hM
                have HNE : Hid (s.data.toList ≠ []) := c4
                obtain ⟨u, hu⟩ : ∃ u : Int, u = (M : Int) := ⟨_, rfl⟩
                have hu0 : 0 < u := by omega
                have hu1 : u ≤ 1000000000000000000 := by omega
                have h17 := fun w => utoa_any M u w hu hu0 hu1
                rw [← hu] at h15
                clear hv hM hnp hMp hMb c4 hu
                have h18 := fun w => pad_any s (dexp - exp) w hs2 (by omega) (by omega)
                cases neg
                all_goals
                  simp only [if_true, Bool.false_eq_true, if_false] at h15
                  go_wp2_with (first | (go_at_call 11; refine h11.mono ?_; rintro e w1 ⟨rfl, hb1⟩) | (go_at_call 15; refine (h15 _).mono ?_; rintro e w2 ⟨rfl, hb2⟩) | (go_at_call 17; refine (h17 _).mono ?_; rintro e w3 ⟨⟨v3, D, rfl, ho3, hD1, hD2, hD3, hD4, hD5⟩, hb3⟩; refine Hid.out ?_))
                  refine (show ∀ {p : Prop}, p → Hid p from fun h => h) ?_
                  have HD : Hid (D = s.data.toList ++ List.replicate (dexp - exp).toNat 48) := pad_digits HB.out HNE.out _ D hD1 hD2 hD3 (by rw [hD4]; exact HM.out)
                  have hDp : 0 < D.length := List.length_pos_iff.2 hD2
                  have hbw : Below w.heap.size w w3 := (hb1.trans (hb2.mono hb1.size)).trans (hb3.mono (Nat.le_trans hb1.size hb2.size))
                  clear hD1 hD2 hD3 hD4 h11 h15 h17 hb1 hb2 hb3
                  go_wp2_with (go_at_call 18; refine (h18 _).mono ?_; rintro e w4 ⟨⟨v4, rfl, ho4⟩, hb4⟩; refine Hid.out ?_)
                  refine (show ∀ {p : Prop}, p → Hid p from fun h => h) ?_
                  rw [← HD.out] at ho4
                  obtain ⟨g3, p3, hv3, hr3⟩ := owns_form (owns_stay ho3 hb4) hDp
                  obtain ⟨g4, p4, hv4, hr4⟩ := owns_form ho4 hDp
                  have h16 := bytesEqual_any g3 g4 D.length p3 p4 D w4 rfl (by omega) hr3 hr4
                  rw [← hv3, ← hv4] at h16
                  have hbw4 : Below w.heap.size w w4 := hbw.trans (hb4.mono hbw.size)
                  have hsz4 := hbw4.size
                  clear h18 ho3 ho4 hr3 hr4 hv3 hv4 hb4 hbw
                  go_wp2_with (go_at_call 16; refine h16.mono ?_; rintro e w5 ⟨rfl, hb5⟩)
                  go_ret
                  exact ⟨rfl, hbw4.trans (hb5.mono hsz4)⟩
            · have h15 := fun w => zzsmall_no s dexp scale neg exp w hs2 e0 e1 c1' c2' c3
              have c3' : 18 < (s.size : Int) + (dexp - exp) := by omega
              clear c3
              go_wp2_with (first | (go_at_call 11; refine h11.mono ?_; rintro e w1 ⟨rfl, hb1⟩) | (go_at_call 15; refine (h15 _).mono ?_; rintro e w2 ⟨rfl, hb2⟩))
              go_ret
              exact ⟨rfl, hb1.trans (hb2.mono hb1.size)⟩
    · go_enter Try.func4, Try.ntmps4
      go_wp2_with (go_at_call 14; refine h14.mono ?_; rintro e w' ⟨rfl, hw⟩; subst w')
      go_ret
      exact ⟨rfl, Below.refl _ _⟩
  · have h14 := bytes14_no s dexp scale neg exp w hs
    go_enter Try.func4, Try.ntmps4
    go_wp2_with (go_at_call 14; refine h14.mono ?_; rintro e w' ⟨rfl, hw⟩; subst w')
    go_ret
    exact ⟨rfl, Below.refl _ _⟩
end Go.Proofs.Qxb6000399a
