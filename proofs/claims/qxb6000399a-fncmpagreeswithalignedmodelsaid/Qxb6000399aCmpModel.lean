import Derived.Test.Qxb6000399aCmpMag
namespace Go.Proofs.Qxb6000399a
open Go.RowKit
set_option linter.unusedVariables false
set_option linter.unusedSimpArgs false

/-- The model's answer. -/
def modelV (la : List UInt8) (ea : Int) (na : Bool) (lb : List UInt8) (eb : Int) (nb : Bool) : Int :=
  if sign2 la na < sign2 lb nb then -1 else if sign2 lb nb < sign2 la na then 1 else if sign2 la na = 0 then 0
  else if na then -(cmpMag (pad la (ea - (if eb < ea then eb else ea))) (pad lb (eb - (if eb < ea then eb else ea))))
  else cmpMag (pad la (ea - (if eb < ea then eb else ea))) (pad lb (eb - (if eb < ea then eb else ea)))
theorem cmpMag_bd (x y : List UInt8) : -1 ≤ cmpMag x y ∧ cmpMag x y ≤ 1 := by
  unfold cmpMag
  split
  · omega
  · split
    · omega
    · exact cmpB_bd x y
/-- The two answers are one. -/
theorem cmpV_model {la lb : List UInt8} {ea eb sa sb : Int} {na nb : Bool} (ha : Bounded la ea sa na) (hb : Bounded lb eb sb nb) (V : Int)
    (hV : V = if sign1 la na ≠ sign1 lb nb ∨ sign1 la na = 0 then cmpI (sign1 la na) (sign1 lb nb) else if na then -(cmpAbs la ea lb eb) else cmpAbs la ea lb eb) : V = modelV la ea na lb eb nb := by
  rw [hV, sign_eq ha, sign_eq hb]
  unfold modelV
  by_cases h1 : sign2 la na < sign2 lb nb
  · rw [if_pos h1, if_pos (Or.inl (by omega))]
    unfold cmpI; rw [if_pos h1]
  · rw [if_neg h1]
    by_cases h2 : sign2 lb nb < sign2 la na
    · rw [if_pos h2, if_pos (Or.inl (by omega))]
      unfold cmpI; rw [if_neg h1, if_pos h2]
    · rw [if_neg h2]
      by_cases h3 : sign2 la na = 0
      · rw [if_pos h3, if_pos (Or.inr h3)]
        unfold cmpI; rw [if_neg h1, if_neg h2]
      · rw [if_neg h3, if_neg (by rintro (h | h); omega; exact h3 h), cmp_agrees ha hb _ rfl]

set_option maxRecDepth 20000 in
set_option maxHeartbeats 1600000 in
theorem model_any (a : ByteArray) (ea : Int) (na : Bool) (b : ByteArray) (eb : Int) (nb : Bool) (w : World) (hsa : a.size ≤ 65536) (hsb : b.size ≤ 65536) (a0 : -65536 ≤ ea) (a1 : ea ≤ 65536) (b0 : -65536 ≤ eb) (b1 : eb ≤ 65536) :
    Calls Try.prog 21 #[.string a, .int .i32 ea, .bool na, .string b, .int .i32 eb, .bool nb] w fun e w' => e = .returned (.int .i64 (modelV a.data.toList ea na b.data.toList eb nb)) ∧ Below w.heap.size w w' := by
  have h32a := sign2_x a na w
  have h32b := sign2_x b nb w
  obtain ⟨V, hV⟩ : ∃ x, x = modelV a.data.toList ea na b.data.toList eb nb := ⟨_, rfl⟩
  rw [← hV]
  unfold modelV at hV
  obtain ⟨SA, hSA⟩ : ∃ x, x = sign2 a.data.toList na := ⟨_, rfl⟩
  obtain ⟨SB, hSB⟩ : ∃ x, x = sign2 b.data.toList nb := ⟨_, rfl⟩
  rw [← hSA] at h32a
  rw [← hSB] at h32b
  rw [← hSA, ← hSB] at hV
  have HV : Hid _ := hV
  have HSA : Hid _ := hSA
  have HSB : Hid _ := hSB
  clear hV hSA hSB
  go_enter Try.func21, Try.ntmps21
  go_wp2_with (go_at_call 32; refine h32a.mono ?_; refine Hid.out ?_)
  refine (show ∀ {p : Prop}, p → Hid p from fun h => h) ?_
  rintro e w' ⟨rfl, hw⟩
  subst w'
  go_wp2_with (go_at_call 32; refine h32b.mono ?_; refine Hid.out ?_)
  refine (show ∀ {p : Prop}, p → Hid p from fun h => h) ?_
  rintro e w' ⟨rfl, hw⟩
  subst w'
  clear h32a h32b
  go_upto_region 3 with fail
  by_cases t1 : SA < SB
  · have HR : Hid (V = -1) := by show V = -1; rw [HV.out, if_pos t1]
    clear HV HSA HSB
    go_wp2
    go_ret
    exact ⟨by rw [HR.out]; rfl, Below.refl _ _⟩
  · by_cases t2 : SB < SA
    · have HR : Hid (V = 1) := by show V = 1; rw [HV.out, if_neg t1, if_pos t2]
      have t1' : SB ≤ SA := by omega
      clear HV HSA HSB t1
      go_wp2
      go_ret
      exact ⟨by rw [HR.out]; rfl, Below.refl _ _⟩
    · have e12 : SB = SA := by omega
      subst e12
      have h0 := HV.out
      rw [if_neg t1] at h0
      have HV2 : Hid _ := h0
      clear h0
      clear t1 t2 HV
      have h0 := HV2.out
      rw [if_neg (Int.lt_irrefl _)] at h0
      have HV : Hid _ := h0
      clear h0
      clear HV2
      by_cases t3 : SB = 0
      · have HR : Hid (V = 0) := by show V = 0; rw [HV.out, if_pos t3]
        have t3' : (SB == 0) = true := beq_iff_eq.2 t3
        clear HV HSA HSB t3
        go_wp2
        go_ret
        exact ⟨by rw [HR.out]; rfl, Below.refl _ _⟩
      · have t3' : (SB == 0) = false := beq_eq_false_iff_ne.2 t3
        have hne : a.data.toList ≠ [] := by
          intro h0; apply t3; rw [HSA.out]; unfold sign2; rw [if_pos h0]
        have hneb : b.data.toList ≠ [] := by
          intro h0; apply t3; rw [HSB.out]; unfold sign2; rw [if_pos h0]
        have HNA : Hid (0 < a.data.toList.length) := List.length_pos_iff.2 hne
        have HNB : Hid (0 < b.data.toList.length) := List.length_pos_iff.2 hneb
        have h0 := HV.out
        rw [if_neg t3] at h0
        have HV2 : Hid _ := h0
        clear h0
        clear HSA HSB t3 hne hneb HV
        by_cases t4 : eb < ea
        · have h0 := HV2.out
          rw [if_pos t4, Int.sub_self] at h0
          have HV : Hid _ := h0
          clear HV2 h0
          go_upto_region 12 with fail
          go_wp2_with (go_at_call 18; refine Hid.out ?_)
          refine (show ∀ {p : Prop}, p → Hid p from fun h => h) ?_
          refine (pad_any a (ea - eb) w hsa (by omega) (by omega)).mono ?_
          rintro e w1 ⟨⟨v1, rfl, ho1⟩, hb1⟩
          go_wp2_with (go_at_call 18; refine Hid.out ?_)
          refine (show ∀ {p : Prop}, p → Hid p from fun h => h) ?_
          refine (pad_any b (0) w1 hsb (by omega) (by omega)).mono ?_
          rintro e w2 ⟨⟨v2, rfl, ho2⟩, hb2⟩
          obtain ⟨X, hX⟩ : ∃ X, X = pad a.data.toList (ea - eb) := ⟨_, rfl⟩
          obtain ⟨Y, hY⟩ : ∃ Y, Y = pad b.data.toList (0) := ⟨_, rfl⟩
          have hlX := pad_len a.data.toList (ea - eb) (by omega)
          have hlY := pad_len b.data.toList (0) (by omega)
          have hXo : Owns w1 w.heap.size v1 X := by rw [hX]; exact ho1
          have hYo : Owns w2 w1.heap.size v2 Y := by rw [hY]; exact ho2
          have h0 := HV.out
          rw [← hX, ← hY] at h0
          rw [← hX] at hlX
          rw [← hY] at hlY
          have eA : a.data.toList.length = a.size := Array.length_toList
          have eB : b.data.toList.length = b.size := Array.length_toList
          have pA := HNA.out
          have pB := HNB.out
          obtain ⟨g1, p1, hv1, hr1⟩ := owns_form (owns_stay hXo hb2) (by omega)
          obtain ⟨g2, p2, hv2, hr2⟩ := owns_form hYo (by omega)
          have h33 := cmpMag_any g1 g2 X.length Y.length p1 p2 X Y w2 rfl rfl (by omega) (by omega) hr1 hr2
          rw [← hv1, ← hv2] at h33
          have hbd := cmpMag_bd X Y
          obtain ⟨C, hC⟩ : ∃ C, C = cmpMag X Y := ⟨_, rfl⟩
          rw [← hC] at hbd h33 h0
          have HV3 : Hid _ := h0
          obtain ⟨c0, c1⟩ := hbd
          have hbw : Below w.heap.size w w2 := hb1.trans (hb2.mono hb1.size)
          have hsz := hbw.size
          clear hr1 hr2 hv1 hv2 hC h0 HV hXo hYo ho1 ho2 hlX hlY hX hY eA eB pA pB HNA HNB hb1 hb2
          cases na
          all_goals
            have h0 := HV3.out
            simp only [if_true, Bool.false_eq_true, if_false] at h0
            have HV4 : Hid _ := h0
            clear h0 HV3
            go_wp2_with (go_at_call 33; refine h33.mono ?_; rintro e w3 ⟨rfl, hb3⟩; refine Hid.out ?_)
            refine (show ∀ {p : Prop}, p → Hid p from fun h => h) ?_
            have hbw3 : Below w.heap.size w w3 := hbw.trans (hb3.mono hsz)
            clear h33 hb3 hbw hsz
            go_wp2
            go_ret
            exact ⟨by rw [HV4.out]; rfl, hbw3⟩
        · have h0 := HV2.out
          rw [if_neg t4, Int.sub_self] at h0
          have HV : Hid _ := h0
          clear HV2 h0
          have t4' : ea ≤ eb := by omega
          clear t4
          go_upto_region 12 with fail
          go_wp2_with (go_at_call 18; refine Hid.out ?_)
          refine (show ∀ {p : Prop}, p → Hid p from fun h => h) ?_
          refine (pad_any a (0) w hsa (by omega) (by omega)).mono ?_
          rintro e w1 ⟨⟨v1, rfl, ho1⟩, hb1⟩
          go_wp2_with (go_at_call 18; refine Hid.out ?_)
          refine (show ∀ {p : Prop}, p → Hid p from fun h => h) ?_
          refine (pad_any b (eb - ea) w1 hsb (by omega) (by omega)).mono ?_
          rintro e w2 ⟨⟨v2, rfl, ho2⟩, hb2⟩
          obtain ⟨X, hX⟩ : ∃ X, X = pad a.data.toList (0) := ⟨_, rfl⟩
          obtain ⟨Y, hY⟩ : ∃ Y, Y = pad b.data.toList (eb - ea) := ⟨_, rfl⟩
          have hlX := pad_len a.data.toList (0) (by omega)
          have hlY := pad_len b.data.toList (eb - ea) (by omega)
          have hXo : Owns w1 w.heap.size v1 X := by rw [hX]; exact ho1
          have hYo : Owns w2 w1.heap.size v2 Y := by rw [hY]; exact ho2
          have h0 := HV.out
          rw [← hX, ← hY] at h0
          rw [← hX] at hlX
          rw [← hY] at hlY
          have eA : a.data.toList.length = a.size := Array.length_toList
          have eB : b.data.toList.length = b.size := Array.length_toList
          have pA := HNA.out
          have pB := HNB.out
          obtain ⟨g1, p1, hv1, hr1⟩ := owns_form (owns_stay hXo hb2) (by omega)
          obtain ⟨g2, p2, hv2, hr2⟩ := owns_form hYo (by omega)
          have h33 := cmpMag_any g1 g2 X.length Y.length p1 p2 X Y w2 rfl rfl (by omega) (by omega) hr1 hr2
          rw [← hv1, ← hv2] at h33
          have hbd := cmpMag_bd X Y
          obtain ⟨C, hC⟩ : ∃ C, C = cmpMag X Y := ⟨_, rfl⟩
          rw [← hC] at hbd h33 h0
          have HV3 : Hid _ := h0
          obtain ⟨c0, c1⟩ := hbd
          have hbw : Below w.heap.size w w2 := hb1.trans (hb2.mono hb1.size)
          have hsz := hbw.size
          clear hr1 hr2 hv1 hv2 hC h0 HV hXo hYo ho1 ho2 hlX hlY hX hY eA eB pA pB HNA HNB hb1 hb2
          cases na
          all_goals
            have h0 := HV3.out
            simp only [if_true, Bool.false_eq_true, if_false] at h0
            have HV4 : Hid _ := h0
            clear h0 HV3
            go_wp2_with (go_at_call 33; refine h33.mono ?_; rintro e w3 ⟨rfl, hb3⟩; refine Hid.out ?_)
            refine (show ∀ {p : Prop}, p → Hid p from fun h => h) ?_
            have hbw3 : Below w.heap.size w w3 := hbw.trans (hb3.mono hsz)
            clear h33 hb3 hbw hsz
            go_wp2
            go_ret
            exact ⟨by rw [HV4.out]; rfl, hbw3⟩
end Go.Proofs.Qxb6000399a
