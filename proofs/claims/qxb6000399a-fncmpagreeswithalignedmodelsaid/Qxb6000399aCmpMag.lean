import Derived.Test.Qxb6000399aZeros
import Derived.Test.Qxb6000399aOwn
import Derived.Test.Qxb6000399aPad
import Derived.Test.Qxb6000399aCmpPlain
import Derived.Deep.QuietTactic
import Derived.BigQuiet
import Derived.Deep.DeepCutAuto
namespace Go.Proofs.Qxb6000399a
open Go.RowKit
set_option linter.unusedVariables false
set_option linter.unusedSimpArgs false

set_option maxHeartbeats 400000 in
theorem sign2_x (s : ByteArray) (neg : Bool) (w : World) :
    Calls Try.prog 32 #[.string s, .bool neg] w fun e w' => e = .returned (.int .i64 (sign2 s.data.toList neg)) ∧ w' = w := by
  have e3 : s.data.toList.length = s.size := Array.length_toList
  unfold sign2
  by_cases h : s.data.toList = []
  · have hz : ((s.size : Int) == 0) = true := beq_iff_eq.2 (by rw [h] at e3; simp at e3; omega)
    rw [if_pos h]
    clear h e3
    go_enter Try.func32, Try.ntmps32
    go_wp2
    go_ret
    exact ⟨rfl, rfl⟩
  · have hz : ((s.size : Int) == 0) = false := beq_eq_false_iff_ne.2 (by have := List.length_pos_iff.2 h; omega)
    rw [if_neg h]
    clear h e3
    cases neg
    · rw [if_neg (by decide)]
      go_enter Try.func32, Try.ntmps32
      go_wp2
      go_ret
      exact ⟨rfl, rfl⟩
    · rw [if_pos rfl]
      go_enter Try.func32, Try.ntmps32
      go_wp2
      go_ret
      exact ⟨rfl, rfl⟩

theorem cmpB_step {x y : List UInt8} {k : Nat} (hx : k < x.length) (hy : k < y.length) :
    Lib.compareBytes (x.drop k) (y.drop k) = if x.getD k 0 < y.getD k 0 then -1 else if y.getD k 0 < x.getD k 0 then 1 else Lib.compareBytes (x.drop (k + 1)) (y.drop (k + 1)) := by
  rw [List.drop_eq_getElem_cons hx, List.drop_eq_getElem_cons hy, List.getD_eq_getElem?_getD, List.getD_eq_getElem?_getD, List.getElem?_eq_getElem hx, List.getElem?_eq_getElem hy]
  rfl
theorem u8_lt {a b : UInt8} : a < b ↔ (a.toNat : Int) < (b.toNat : Int) := by
  rw [UInt8.lt_iff_toNat_lt]; omega
theorem drewN_below {B : Nat} {a w : World} (h : Below B a w) (n : Nat) : Below B a (w.drewN n) := h.trans ⟨rfl, rfl, rfl, Nat.le_refl _, fun _ _ => rfl⟩

set_option maxHeartbeats 800000 in
theorem cmpMag_any (g1 g2 n m c1 c2 : Nat) (x y : List UInt8) (w : World) (hn : x.length = n) (hm : y.length = m) (n1 : n ≤ 400000) (m1 : m ≤ 400000)
    (h1 : ∀ j, j < n → w.cell? ⟨g1, j, none⟩ = some (.int .u8 ((x.getD j 0).toNat : Int))) (h2 : ∀ j, j < m → w.cell? ⟨g2, j, none⟩ = some (.int .u8 ((y.getD j 0).toNat : Int))) :
    Calls Try.prog 33 #[.slice (some ⟨g1, 0, none⟩) n c1, .slice (some ⟨g2, 0, none⟩) m c2] w fun e w' => e = .returned (.int .i64 (cmpMag x y)) ∧ Below w.heap.size w w' := by
  unfold cmpMag
  rw [hn, hm]
  by_cases t1 : n < m
  · rw [if_pos t1]
    have t1' : (n : Int) < (m : Int) := by omega
    clear t1 h1 h2 hn hm
    go_enter Try.func33, Try.ntmps33
    go_wp2
    go_ret
    exact ⟨rfl, Below.refl _ _⟩
  · rw [if_neg t1]
    by_cases t2 : m < n
    · rw [if_pos t2]
      have t1' : (m : Int) ≤ (n : Int) := by omega
      have t2' : (m : Int) < (n : Int) := by omega
      clear t1 t2 h1 h2 hn hm
      go_enter Try.func33, Try.ntmps33
      go_wp2
      go_ret
      exact ⟨rfl, Below.refl _ _⟩
    · rw [if_neg t2]
      obtain rfl : m = n := by omega
      clear t1 t2
      obtain ⟨C, hC⟩ : ∃ C, C = Lib.compareBytes x y := ⟨_, rfl⟩
      rw [← hC]
      have HX : Hid (x.length = m) := hn
      have HY : Hid (y.length = m) := hm
      clear hn hm
      go_enter Try.func33, Try.ntmps33
      go_wp2
      go_loopw [5] (fun i wr => ∃ k nq : Nat, k ≤ m ∧ i = .int .i64 k ∧ Hid (Lib.compareBytes (x.drop k) (y.drop k) = C) ∧ wr = w.drewN nq) (fun i _ => m - (intOf i).toNat)
      case atStart => exact ⟨0, 0, by omega, rfl, hC.symm, rfl⟩
      case round =>
        obtain ⟨k, nq, hk, rfl, HK, hw⟩ := hrel
        subst hw
        by_cases hlt : k < m
        · have a1 := h1 k hlt
          have a2 := h2 k hlt
          have HK2 : Hid (_) := (cmpB_step (by rw [HX.out]; exact hlt) (by rw [HY.out]; exact hlt)).symm.trans HK.out
          generalize x.getD k 0 = c at a1 a2 HK2
          generalize y.getD k 0 = d at a1 a2 HK2
          have b1 : (k : Int) < (m : Int) := by omega
          clear h1 h2 hC HK
          by_cases u1 : c < d
          · have u1' := u8_lt.1 u1
            have HC : Hid (C = -1) := by show C = -1; have := HK2.out; rw [if_pos u1] at this; exact this.symm
            clear u1 HK2
            go_wp2
            go_quiet (fail)
            go_wp2
            go_ret
            exact ⟨by rw [HC.out]; rfl, drewN_below (drewN_below (Below.refl _ _) _) _⟩
          · have u1' : (d.toNat : Int) ≤ (c.toNat : Int) := by rw [u8_lt] at u1; omega
            by_cases u2 : d < c
            · have u2' := u8_lt.1 u2
              have HC : Hid (C = 1) := by show C = 1; have := HK2.out; rw [if_neg u1, if_pos u2] at this; exact this.symm
              clear u1 u2 HK2
              go_wp2
              go_quiet (fail)
              go_wp2
              go_quiet (fail)
              go_wp2
              go_ret
              exact ⟨by rw [HC.out]; rfl, drewN_below (drewN_below (drewN_below (Below.refl _ _) _) _) _⟩
            · have u2' : (c.toNat : Int) ≤ (d.toNat : Int) := by rw [u8_lt] at u2; omega
              have HK3 : Hid (Lib.compareBytes (x.drop (k + 1)) (y.drop (k + 1)) = C) := by
                show Lib.compareBytes (x.drop (k + 1)) (y.drop (k + 1)) = C
                have := HK2.out; rw [if_neg u1, if_neg u2] at this; exact this
              clear u1 u2 HK2
              go_wp2
              go_quiet (fail)
              go_wp2
              go_quiet (fail)
              go_wp2
              go_roundw
              case rel => exact ⟨k + 1, _, by omega, by go_num, HK3, rfl⟩
              case measure => simp [intOf]; omega
        · have HC : Hid (C = 0) := by
            show C = 0
            have := HK.out
            rw [List.drop_eq_nil_of_le (by rw [HX.out]; omega), List.drop_eq_nil_of_le (by rw [HY.out]; omega)] at this
            exact this.symm
          have b1 : (m : Int) ≤ (k : Int) := by omega
          clear h1 h2 hC HK hlt
          go_wp2
          go_ret
          exact ⟨by rw [HC.out]; rfl, drewN_below (Below.refl _ _) _⟩
end Go.Proofs.Qxb6000399a
