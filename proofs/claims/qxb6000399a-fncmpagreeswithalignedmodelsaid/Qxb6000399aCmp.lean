import Derived.Test.Qxb6000399aZeros
import Derived.Test.Qxb6000399aCmpPlain
import Derived.Test.Qxb6000399aShelf
import Derived.Deep.QuietTactic
import Derived.BigQuiet
import Derived.Deep.DeepCutAuto
import Derived.Deep.RegionWith
namespace Go.Proofs.Qxb6000399a
open Go.RowKit
set_option linter.unusedVariables false
set_option linter.unusedSimpArgs false

/-- A decimal's cells. -/
abbrev dec (s : ByteArray) (exp scale : Int) (neg : Bool) : Array Value := #[.string s, .int .i32 exp, .int .i32 scale, .bool neg]

theorem empty_yes (s : ByteArray) (h : s.data.toList = []) : s.toList.isEmpty = true := by rw [ByteArray.toList_eq, h]; rfl
theorem empty_no (s : ByteArray) (h : s.data.toList ≠ []) : s.toList.isEmpty = false := by
  rw [ByteArray.toList_eq]
  cases hh : s.data.toList with
  | nil => exact absurd hh h
  | cons c r => rfl

set_option maxHeartbeats 400000 in
theorem sign_x (s : ByteArray) (exp scale : Int) (neg : Bool) (w : World) :
    Calls Try.prog 29 #[.agg #[.string s, .int .i32 exp, .int .i32 scale, .bool neg]] w fun e w' => e = .returned (.int .i64 (sign1 s.data.toList neg)) ∧ w' = w.alloc (.cells #[.string s, .int .i32 exp, .int .i32 scale, .bool neg] 25) := by
  unfold sign1
  cases neg
  · by_cases h : s.data.toList = []
    · have hE := empty_yes s h
      rw [if_neg (by decide), if_pos h]
      clear h
      go_enter Try.func29, Try.ntmps29
      go_wp2
      go_ret
      exact ⟨rfl, rfl⟩
    · have hE := empty_no s h
      rw [if_neg (by decide), if_neg h]
      clear h
      go_enter Try.func29, Try.ntmps29
      go_wp2
      go_ret
      exact ⟨rfl, rfl⟩
  · rw [if_pos rfl]
    go_enter Try.func29, Try.ntmps29
    go_wp2
    go_ret
    exact ⟨rfl, rfl⟩
set_option maxHeartbeats 400000 in
theorem intDigits_x (s : ByteArray) (exp scale : Int) (neg : Bool) (w : World) (hs : s.size ≤ 65536) (e0 : -65536 ≤ exp) (e1 : exp ≤ 65536) (hne : s.data.toList ≠ []) :
    Calls Try.prog 26 #[.agg #[.string s, .int .i32 exp, .int .i32 scale, .bool neg]] w fun e w' => e = .returned (.int .i64 ((s.data.toList.length : Int) + exp)) ∧ w' = w.alloc (.cells #[.string s, .int .i32 exp, .int .i32 scale, .bool neg] 25) := by
  have hE := empty_no s hne
  have e3 : s.data.toList.length = s.size := Array.length_toList
  rw [e3]
  clear hne e3
  go_enter Try.func26, Try.ntmps26
  go_wp2
  go_ret
  exact ⟨rfl, rfl⟩
set_option maxHeartbeats 400000 in
theorem cmpInts_any (a b : Int) (w : World) :
    Calls Try.prog 30 #[.int .i64 a, .int .i64 b] w fun e w' => e = .returned (.int .i64 (cmpI a b)) ∧ w' = w := by
  unfold cmpI
  by_cases h1 : a < b
  · rw [if_pos h1]
    go_enter Try.func30, Try.ntmps30
    go_wp2
    go_ret
    exact ⟨rfl, rfl⟩
  · rw [if_neg h1]
    have h1' : b ≤ a := by omega
    by_cases h2 : b < a
    · rw [if_pos h2]
      clear h1
      go_enter Try.func30, Try.ntmps30
      go_wp2
      go_ret
      exact ⟨rfl, rfl⟩
    · rw [if_neg h2]
      have h2' : a ≤ b := by omega
      clear h1 h2
      go_enter Try.func30, Try.ntmps30
      go_wp2
      go_ret
      exact ⟨rfl, rfl⟩

/-- Cmp's answer. -/
def cmpV (la : List UInt8) (ea : Int) (na : Bool) (lb : List UInt8) (eb : Int) (nb : Bool) : Int :=
  if sign1 la na ≠ sign1 lb nb ∨ sign1 la na = 0 then cmpI (sign1 la na) (sign1 lb nb)
  else if na then -(cmpAbs la ea lb eb) else cmpAbs la ea lb eb

theorem cells_keep {w wc : World} {CA CB : Array Value} (h : Below ((w.alloc (.cells CA 25)).alloc (.cells CB 25)).heap.size ((w.alloc (.cells CA 25)).alloc (.cells CB 25)) wc) :
    (∀ i : Nat, wc.cell? ⟨w.heap.size, i, none⟩ = CA[i]?) ∧ ∀ i : Nat, wc.cell? ⟨w.heap.size + 1, i, none⟩ = CB[i]? := by
  have sz : ((w.alloc (.cells CA 25)).alloc (.cells CB 25)).heap.size = w.heap.size + 1 + 1 := by rw [World.size_alloc, World.size_alloc]
  constructor
  · intro i
    rw [h.cell (by rw [sz]; show w.heap.size < _; omega), World.cell?_alloc_past _ _ _ (by rw [World.size_alloc]; omega), World.cell?_alloc_at _ _ _ _ rfl]
  · intro i
    rw [h.cell (by rw [sz]; show w.heap.size + 1 < _; omega), World.cell?_alloc_at _ _ _ _ (by rw [World.size_alloc])]
theorem two_below (W : World) (o1 o2 : Obj) : Below W.heap.size W ((W.alloc o1).alloc o2).drew :=
  (((Below.refl _ _).alloc (Nat.le_refl _) _).alloc (le_alloc (Nat.le_refl _) _) _).drew

set_option maxHeartbeats 1600000 in
theorem cmp_any (a : ByteArray) (ea sa : Int) (na : Bool) (b : ByteArray) (eb sb : Int) (nb : Bool) (w : World) (ha : Bounded a.data.toList ea sa na) (hb : Bounded b.data.toList eb sb nb) (hsa : a.size ≤ 65536) (hsb : b.size ≤ 65536) :
    Calls Try.prog 20 #[.agg #[.string a, .int .i32 ea, .int .i32 sa, .bool na], .agg #[.string b, .int .i32 eb, .int .i32 sb, .bool nb]] w fun e w' => e = .returned (.int .i64 (cmpV a.data.toList ea na b.data.toList eb nb)) ∧ Below w.heap.size w w' := by
  have HA : Hid (Bounded a.data.toList ea sa na) := ha
  have HB : Hid (Bounded b.data.toList eb sb nb) := hb
  clear ha hb
  have h29a := fun w => sign_x a ea sa na w
  have h29b := fun w => sign_x b eb sb nb w
  obtain ⟨SA, hSA⟩ : ∃ x, x = sign1 a.data.toList na := ⟨_, rfl⟩
  obtain ⟨SB, hSB⟩ : ∃ x, x = sign1 b.data.toList nb := ⟨_, rfl⟩
  rw [← hSA] at h29a
  rw [← hSB] at h29b
  have HSA : Hid (SA = sign1 a.data.toList na) := hSA
  have HSB : Hid (SB = sign1 b.data.toList nb) := hSB
  clear hSA hSB
  obtain ⟨W2, hW2⟩ : ∃ W2, W2 = (w.alloc (.cells #[.string a, .int .i32 ea, .int .i32 sa, .bool na] 25)).alloc (.cells #[.string b, .int .i32 eb, .int .i32 sb, .bool nb] 25) := ⟨_, rfl⟩
  have HW2 : Hid (W2 = (w.alloc (.cells #[.string a, .int .i32 ea, .int .i32 sa, .bool na] 25)).alloc (.cells #[.string b, .int .i32 eb, .int .i32 sb, .bool nb] 25)) := hW2
  clear hW2
  go_enter Try.func20, Try.ntmps20
  go_upto_region 1 with fail
  go_cut [5, 6] (fun x y wr => x = .int .i64 SA ∧ y = .int .i64 SB ∧ Below W2.heap.size W2 wr)
  case first =>
    go_region_with (first | (go_at_call_of 29 (Value.agg #[.string a, .int .i32 ea, .int .i32 sa, .bool na]); refine (h29a _).mono ?_; rintro e w' ⟨rfl, rfl⟩) | (go_at_call_of 29 (Value.agg #[.string b, .int .i32 eb, .int .i32 sb, .bool nb]); refine (h29b _).mono ?_; rintro e w' ⟨rfl, rfl⟩))
    all_goals go_wp2
    all_goals go_meet
    all_goals (subst HW2; exact ⟨rfl, rfl, two_below _ _ _⟩)
  case rest =>
    obtain ⟨rfl, rfl, hb⟩ := hcut
    have hsz : w.heap.size + 1 + 1 ≤ wc.heap.size := by have := hb.size; subst HW2; rw [World.size_alloc, World.size_alloc] at this; exact this
    have hbw : Below w.heap.size w wc := by
      subst HW2
      exact (((Below.refl _ _).alloc (Nat.le_refl _) _).alloc (le_alloc (Nat.le_refl _) _) _).trans (hb.mono (le_alloc (le_alloc (Nat.le_refl _) _) _))
    obtain ⟨cA, cB⟩ := cells_keep (by have hb' := hb; rw [HW2.out] at hb'; exact hb')
    have a0 : wc.cell? ⟨w.heap.size, 0, none⟩ = some (.string a) := cA 0
    have a1 : wc.cell? ⟨w.heap.size, 1, none⟩ = some (.int .i32 ea) := cA 1
    have a2 : wc.cell? ⟨w.heap.size, 2, none⟩ = some (.int .i32 sa) := cA 2
    have a3 : wc.cell? ⟨w.heap.size, 3, none⟩ = some (.bool na) := cA 3
    have b0 : wc.cell? ⟨w.heap.size + 1, 0, none⟩ = some (.string b) := cB 0
    have b1 : wc.cell? ⟨w.heap.size + 1, 1, none⟩ = some (.int .i32 eb) := cB 1
    have b2 : wc.cell? ⟨w.heap.size + 1, 2, none⟩ = some (.int .i32 sb) := cB 2
    have b3 : wc.cell? ⟨w.heap.size + 1, 3, none⟩ = some (.bool nb) := cB 3
    clear cA cB hb h29a h29b HW2
    have h30 := cmpInts_any SA SB wc
    by_cases t1 : SA = SB
    · by_cases t2 : SA = 0
      · have hV : cmpV a.data.toList ea na b.data.toList eb nb = cmpI SA SB := by
          unfold cmpV; rw [← HSA.out, ← HSB.out, if_pos (Or.inr t2)]
        have HV : Hid (cmpV a.data.toList ea na b.data.toList eb nb = cmpI SA SB) := hV
        have t1' : (SA != SB) = false := by rw [bne, beq_iff_eq.2 t1]; rfl
        have t2' : (SA == 0) = true := beq_iff_eq.2 t2
        clear hV t1 t2
        go_upto_region 3 with fail
        go_wp2_with (go_at_call 30; refine h30.mono ?_; rintro e w' ⟨rfl, hw⟩; subst w')
        go_ret
        exact ⟨by rw [HV.out]; rfl, hbw⟩
      · have hne : a.data.toList ≠ [] := by
          intro h0
          apply t2
          have := HSA.out
          rw [sign_eq HA.out] at this
          rw [this]; unfold sign2; rw [if_pos h0]
        have hneb : b.data.toList ≠ [] := by
          intro h0
          apply t2
          have := HSB.out
          rw [sign_eq HB.out] at this
          rw [t1, this]; unfold sign2; rw [if_pos h0]
        have hV : cmpV a.data.toList ea na b.data.toList eb nb = if na then -(cmpAbs a.data.toList ea b.data.toList eb) else cmpAbs a.data.toList ea b.data.toList eb := by
          unfold cmpV; rw [← HSA.out, ← HSB.out, if_neg (by rintro (h | h); exact h t1; exact t2 h)]
        have HV : Hid (cmpV a.data.toList ea na b.data.toList eb nb = if na then -(cmpAbs a.data.toList ea b.data.toList eb) else cmpAbs a.data.toList ea b.data.toList eb) := hV
        have h26a := fun w => intDigits_x a ea sa na w hsa (by have := HA.out.lo; omega) (by have := HA.out.hi; omega) hne
        have h26b := fun w => intDigits_x b eb sb nb w hsb (by have := HB.out.lo; omega) (by have := HB.out.hi; omega) hneb
        have t1' : (SA != SB) = false := by rw [bne, beq_iff_eq.2 t1]; rfl
        have t2' : (SA == 0) = false := beq_eq_false_iff_ne.2 t2
        clear hV t1 t2 hne hneb h30
        obtain ⟨LA, hLA⟩ : ∃ x, x = (a.data.toList.length : Int) + ea := ⟨_, rfl⟩
        obtain ⟨LB, hLB⟩ : ∃ x, x = (b.data.toList.length : Int) + eb := ⟨_, rfl⟩
        rw [← hLA] at h26a
        rw [← hLB] at h26b
        have HLA : Hid (LA = (a.data.toList.length : Int) + ea) := hLA
        have HLB : Hid (LB = (b.data.toList.length : Int) + eb) := hLB
        have h30 := fun w => cmpInts_any LA LB w
        have s0 : w.heap.size < wc.heap.size := by omega
        have s1 : w.heap.size + 1 < wc.heap.size := by omega
        clear hLA hLB
        obtain ⟨w5, rfl⟩ : ∃ x, x = wc := ⟨_, rfl⟩
        go_upto_region 4 with fail
        go_cut [7] (fun x wr => x = .int .i64 (cmpI LA LB) ∧ Below w5.heap.size w5 wr)
        case first =>
          go_region_with (first | (go_at_call_of 26 (Value.agg #[.string a, .int .i32 ea, .int .i32 sa, .bool na]); refine (h26a _).mono ?_; rintro e w' ⟨rfl, rfl⟩) | (go_at_call_of 26 (Value.agg #[.string b, .int .i32 eb, .int .i32 sb, .bool nb]); refine (h26b _).mono ?_; rintro e w' ⟨rfl, rfl⟩) | (go_at_call 30; refine (h30 _).mono ?_; rintro e w' ⟨rfl, rfl⟩))
          all_goals go_wp2
          all_goals go_meet
          all_goals exact ⟨rfl, two_below _ _ _⟩
        case rest =>
          obtain ⟨rfl, hb2⟩ := hcut
          have a0' : wc.cell? ⟨w.heap.size, 0, none⟩ = some (.string a) := (hb2.cell s0).trans a0
          have a3' : wc.cell? ⟨w.heap.size, 3, none⟩ = some (.bool na) := (hb2.cell s0).trans a3
          have b0' : wc.cell? ⟨w.heap.size + 1, 0, none⟩ = some (.string b) := (hb2.cell s1).trans b0
          have hbw' : Below w.heap.size w wc := hbw.trans (hb2.mono hbw.size)
          clear a0 a1 a2 a3 b0 b1 b2 b3 hb2 hbw s0 s1 hsz t1' t2' h26a h26b h30
          have h31 := Try.strings_Compare a b wc
          have hC1 := cmpB_bd a.data.toList b.data.toList
          obtain ⟨C, hC⟩ : ∃ C, C = Lib.compareBytes a.data.toList b.data.toList := ⟨_, rfl⟩
          rw [← hC] at hC1 h31
          have HC : Hid (C = Lib.compareBytes a.data.toList b.data.toList) := hC
          clear hC
          obtain ⟨hC2, hC3⟩ := hC1
          obtain ⟨D, hD⟩ : ∃ D, D = cmpI LA LB := ⟨_, rfl⟩
          have hD1 : -1 ≤ D ∧ D ≤ 1 := by rw [hD]; unfold cmpI; split; omega; split <;> omega
          obtain ⟨hD2, hD3⟩ := hD1
          rw [← hD]
          have HD : Hid (D = cmpI LA LB) := hD
          clear hD
          by_cases t3 : D = 0
          · have HX : Hid (cmpAbs a.data.toList ea b.data.toList eb = C) := by
              show cmpAbs a.data.toList ea b.data.toList eb = C
              unfold cmpAbs
              rw [← HLA.out, ← HLB.out, ← HD.out, if_pos t3, HC.out]
            have t3' : (D == 0) = true := beq_iff_eq.2 t3
            clear t3 hD2 hD3
            cases na
            · go_wp2_with (go_at_call 31; refine h31.mono ?_; rintro e w' ⟨rfl, hw⟩; subst w')
              go_ret
              exact ⟨by rw [HV.out, HX.out]; rfl, hbw'⟩
            · go_wp2_with (go_at_call 31; refine h31.mono ?_; rintro e w' ⟨rfl, hw⟩; subst w')
              go_ret
              exact ⟨by rw [HV.out, HX.out]; rfl, hbw'⟩
          · have HX : Hid (cmpAbs a.data.toList ea b.data.toList eb = D) := by
              show cmpAbs a.data.toList ea b.data.toList eb = D
              unfold cmpAbs
              rw [← HLA.out, ← HLB.out, ← HD.out, if_neg t3]
            have t3' : (D == 0) = false := beq_eq_false_iff_ne.2 t3
            clear t3 h31 hC2 hC3
            cases na
            · go_wp2
              go_ret
              exact ⟨by rw [HV.out, HX.out]; rfl, hbw'⟩
            · go_wp2
              go_ret
              exact ⟨by rw [HV.out, HX.out]; rfl, hbw'⟩
    · have hV : cmpV a.data.toList ea na b.data.toList eb nb = cmpI SA SB := by
        unfold cmpV; rw [← HSA.out, ← HSB.out, if_pos (Or.inl t1)]
      have HV : Hid (cmpV a.data.toList ea na b.data.toList eb nb = cmpI SA SB) := hV
      have t1' : (SA != SB) = true := by rw [bne, beq_eq_false_iff_ne.2 t1]; rfl
      clear hV t1
      go_upto_region 3 with fail
      go_wp2_with (go_at_call 30; refine h30.mono ?_; rintro e w' ⟨rfl, hw⟩; subst w')
      go_ret
      exact ⟨by rw [HV.out]; rfl, hbw⟩
end Go.Proofs.Qxb6000399a
