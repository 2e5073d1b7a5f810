import Derived.Test.Qxb6000399aCmp
import Derived.Test.Qxb6000399aCmpModel
namespace Go.Proofs.Qxb6000399a
open Go.RowKit
set_option linter.unusedVariables false
set_option linter.unusedSimpArgs false

set_option maxHeartbeats 400000 in
theorem make_x (s : ByteArray) (exp scale : Int) (neg : Bool) (w : World) :
    Calls Try.prog 11 #[.string s, .int .i32 exp, .int .i32 scale, .bool neg] w fun e w' => e = .returned (.agg #[.string s, .int .i32 exp, .int .i32 scale, .bool neg]) ∧ w' = w.alloc (.cells #[.string s, .int .i32 exp, .int .i32 scale, .bool neg] 25) := by
  go_enter Try.func11, Try.ntmps11
  go_wp2
  exact bodyPost_ret (v := .agg #[.string s, .int .i32 exp, .int .i32 scale, .bool neg]) (by simp [results, Try.results11, go_sem]) rfl ⟨rfl, rfl⟩

theorem four_below (w : World) (o1 o2 o3 o4 : Obj) : Below w.heap.size w ((((w.alloc o1).alloc o2).alloc o3).alloc o4) :=
  ((((Below.refl _ _).alloc (Nat.le_refl _) _).alloc (le_alloc (Nat.le_refl _) _) _).alloc (le_alloc (le_alloc (Nat.le_refl _) _) _) _).alloc (le_alloc (le_alloc (le_alloc (Nat.le_refl _) _) _) _) _
def BoolEnd (e : Ending) : Prop := ∃ r : Bool, e = .returned (.bool r)

set_option maxHeartbeats 800000 in
theorem bytes19_any (a : ByteArray) (ea sa : Int) (na : Bool) (b : ByteArray) (eb sb : Int) (nb : Bool) (w : World) :
    Calls Try.prog 19 #[.string a, .int .i32 ea, .int .i32 sa, .bool na, .string b, .int .i32 eb, .int .i32 sb, .bool nb] w fun e w' => BoolEnd e ∧ w' = w := by
  by_cases h1 : a.size ≤ 1048576
  · by_cases h2 : b.size ≤ 1048576
    · by_cases h3 : a.size + b.size ≤ 1048576
      · have h1' : (a.size : Int) ≤ 1048576 := by omega
        have h2' : (b.size : Int) ≤ 1048576 := by omega
        have h3' : (a.size : Int) + (b.size : Int) ≤ 1048576 := by omega
        clear h1 h2 h3
        go_enter Try.func19, Try.ntmps19
        go_wp2
        go_ret
        exact ⟨⟨_, rfl⟩, rfl⟩
      · have h1' : (a.size : Int) ≤ 1048576 := by omega
        have h2' : (b.size : Int) ≤ 1048576 := by omega
        have h3' : 1048576 < (a.size : Int) + (b.size : Int) := by omega
        clear h1 h2 h3
        go_enter Try.func19, Try.ntmps19
        go_wp2
        go_ret
        exact ⟨⟨_, rfl⟩, rfl⟩
    · have h1' : (a.size : Int) ≤ 1048576 := by omega
      have h2' : 1048576 < (b.size : Int) := by omega
      clear h1 h2
      go_enter Try.func19, Try.ntmps19
      go_wp2
      go_ret
      exact ⟨⟨_, rfl⟩, rfl⟩
  · have h1' : 1048576 < (a.size : Int) := by omega
    clear h1
    go_enter Try.func19, Try.ntmps19
    go_wp2
    go_ret
    exact ⟨⟨_, rfl⟩, rfl⟩

set_option maxRecDepth 20000 in
set_option maxHeartbeats 1600000 in
theorem cmp_law (a : ByteArray) (ea sa : Int) (na : Bool) (b : ByteArray) (eb sb : Int) (nb : Bool) (w : World) (s0 : -2147483648 ≤ sa) (s1 : sa ≤ 2147483647) (r0 : -2147483648 ≤ sb) (r1 : sb ≤ 2147483647) :
    Calls Try.prog 5 #[.string a, .int .i32 ea, .int .i32 sa, .bool na, .string b, .int .i32 eb, .int .i32 sb, .bool nb] w fun e w' => e = .returned (.bool true) ∧ Below w.heap.size w w' := by
  have h19 := bytes19_any a ea sa na b eb sb nb w
  go_enter Try.func5, Try.ntmps5
  go_wp2_with (go_at_call 19; refine h19.mono ?_; refine Hid.out ?_)
  refine (show ∀ {p : Prop}, p → Hid p from fun h => h) ?_
  rintro e w' ⟨⟨r, rfl⟩, hw⟩
  subst w'
  clear h19
  cases r
  · go_wp2
    go_ret
    exact ⟨rfl, Below.refl _ _⟩
  · by_cases ha : a.size ≤ 65536
    · by_cases hb : b.size ≤ 65536
      · have h10a := bounded_any a ea sa na w (by omega) s0 s1
        have h10b := bounded_any b eb sb nb w (by omega) r0 r1
        clear s0 s1 r0 r1
        go_upto_region 5 with fail
        go_wp2_with (go_at_call 10; refine Hid.out ?_)
        refine (show ∀ {p : Prop}, p → Hid p from fun h => h) ?_
        refine h10a.mono ?_
        rintro e w' ⟨⟨r, rfl, hr⟩, hw⟩
        subst w'
        clear h10a
        cases r
        · clear hr h10b
          go_wp2
          go_ret
          exact ⟨rfl, Below.refl _ _⟩
        · have HA : Hid (Bounded a.data.toList ea sa na) := hr rfl
          clear hr
          go_wp2_with (go_at_call 10; refine Hid.out ?_)
          refine (show ∀ {p : Prop}, p → Hid p from fun h => h) ?_
          refine h10b.mono ?_
          rintro e w' ⟨⟨r, rfl, hr⟩, hw⟩
          subst w'
          clear h10b
          cases r
          · clear hr
            go_wp2
            go_ret
            exact ⟨rfl, Below.refl _ _⟩
          · have HB : Hid (Bounded b.data.toList eb sb nb) := hr rfl
            clear hr
            go_wp2_with (go_at_call 11; refine Hid.out ?_)
            refine (show ∀ {p : Prop}, p → Hid p from fun h => h) ?_
            refine (make_x a ea sa na w).mono ?_
            rintro e w' ⟨rfl, rfl⟩
            go_wp2_with (go_at_call 11; refine Hid.out ?_)
            refine (show ∀ {p : Prop}, p → Hid p from fun h => h) ?_
            refine (make_x b eb sb nb _).mono ?_
            rintro e w' ⟨rfl, rfl⟩
            go_wp2_with (go_at_call 20; refine Hid.out ?_)
            refine (show ∀ {p : Prop}, p → Hid p from fun h => h) ?_
            have h20 := fun w => cmp_any a ea sa na b eb sb nb w HA.out HB.out ha hb
            have h21 := fun w => model_any a ea na b eb nb w ha hb HA.out.lo HA.out.hi HB.out.lo HB.out.hi
            have hEq : cmpV a.data.toList ea na b.data.toList eb nb = modelV a.data.toList ea na b.data.toList eb nb := cmpV_model HA.out HB.out _ rfl
            rw [hEq] at h20
            generalize modelV a.data.toList ea na b.data.toList eb nb = V at h20 h21
            clear hEq HA HB
            refine (h20 _).mono ?_
            rintro e w5 ⟨rfl, hb5⟩
            have hbw : Below w.heap.size w w5 := (four_below w _ _ _ _).trans (hb5.mono (four_below w _ _ _ _).size)
            clear hb5 h20
            go_wp2_with (go_at_call 21; refine Hid.out ?_)
            refine (show ∀ {p : Prop}, p → Hid p from fun h => h) ?_
            refine (h21 w5).mono ?_
            rintro e w6 ⟨rfl, hb6⟩
            have hbw6 : Below w.heap.size w w6 := hbw.trans (hb6.mono hbw.size)
            clear h21 hb6 hbw
            go_wp2
            go_ret
            exact ⟨rfl, hbw6⟩
      · have hb' : 65536 < (b.size : Int) := by omega
        have ha' : (a.size : Int) ≤ 65536 := by omega
        clear ha hb
        go_wp2
        go_ret
        exact ⟨rfl, Below.refl _ _⟩
    · have ha' : 65536 < (a.size : Int) := by omega
      clear ha
      go_wp2
      go_ret
      exact ⟨rfl, Below.refl _ _⟩
end Go.Proofs.Qxb6000399a
