import Derived.Test.Qxb6000399aRows
import Derived.Test.Qxb6000399aPlain
import Derived.WalkKit
import Derived.WalkSpells
import Derived.WalkLawsBesides
namespace Go.Proofs.Qxb6000399a
open Go.RowKit
set_option linter.unusedVariables false
set_option linter.unusedSimpArgs false

theorem byte_at (s : ByteArray) (j : Nat) (h : j < s.size) : s.data.toList[j]'(by rw [Array.length_toList]; exact h) = s[j] := rfl

/-- The bytes up to k are digits. -/
def DigTo (s : ByteArray) (k : Nat) : Prop := ∀ j (hj : j < s.data.toList.length), j < k → IsDig s.data.toList[j]
theorem DigTo.zero (s : ByteArray) : DigTo s 0 := fun j hj h2 => by omega
theorem DigTo.snoc {s : ByteArray} {k : Nat} (h : DigTo s k) (hk : k < s.size) (g1 : (48 : Int) ≤ (s[k].toNat : Int)) (g2 : (s[k].toNat : Int) ≤ 57) : DigTo s (k + 1) := by
  intro j hj h2
  by_cases e : j = k
  · subst e; rw [byte_at s j hk]; unfold IsDig; omega
  · exact h j hj (by omega)
theorem DigTo.all {s : ByteArray} {k : Nat} (h : DigTo s k) (hk : ¬ k < s.size) : ∀ c ∈ s.data.toList, IsDig c := by
  intro c hc
  obtain ⟨i, hi, rfl⟩ := List.getElem_of_mem hc
  exact h i hi (by have e : s.data.toList.length = s.size := Array.length_toList; omega)

def ShapeEnd (s : ByteArray) (exp scale : Int) (neg : Bool) (e : Ending) : Prop := ∃ r : Bool, e = .returned (.bool r) ∧ (r = true → Shape s.data.toList exp scale neg)

theorem head_ne (s : ByteArray) (h0 : 0 < s.size) (h : ((s[0].toNat : Int) == 48) = false) : s.data.toList.head? ≠ some 48 := by
  have hl : 0 < s.data.toList.length := by rw [Array.length_toList]; exact h0
  rw [List.head?_eq_getElem?, List.getElem?_eq_getElem hl, byte_at s 0 h0]
  intro e
  have := Option.some.inj e
  rw [this] at h
  exact absurd h (by decide)
theorem last_ne (s : ByteArray) (h0 : 0 < s.size) (h : ((s[s.size - 1].toNat : Int) == 48) = false) : s.data.toList.getLast? ≠ some 48 := by
  have e0 : s.data.toList.length = s.size := Array.length_toList
  rw [List.getLast?_eq_getElem?, e0, List.getElem?_eq_getElem (by omega), byte_at s (s.size - 1) (by omega)]
  intro e
  have := Option.some.inj e
  rw [this] at h
  exact absurd h (by decide)

set_option maxHeartbeats 400000 in
theorem shape_any (s : ByteArray) (exp scale : Int) (neg : Bool) (w : World) (hs : s.size ≤ 1048576) (e0 : -65536 ≤ exp) (e1 : exp ≤ 65536) (s1 : scale ≤ 65536) (s0 : -2147483648 ≤ scale) :
    Calls Try.prog 23 #[.string s, .int .i32 exp, .int .i32 scale, .bool neg] w fun e w' => ShapeEnd s exp scale neg e ∧ w' = w := by
  by_cases h1 : scale < 0
  · go_enter Try.func23, Try.ntmps23
    go_wp2
    go_ret
    exact ⟨⟨false, rfl, fun h => (by cases h)⟩, rfl⟩
  · have h1' : 0 ≤ scale := by omega
    clear h1
    by_cases h2 : scale < -exp
    · go_enter Try.func23, Try.ntmps23
      go_wp2
      go_ret
      exact ⟨⟨false, rfl, fun h => (by cases h)⟩, rfl⟩
    · have h2' : -exp ≤ scale := by omega
      clear h2
      by_cases h3 : s.size = 0
      · have HE : Hid (s.data.toList = []) := List.eq_nil_of_length_eq_zero (by rw [Array.length_toList]; exact h3)
        have h3' : ((s.size : Int) == 0) = true := beq_iff_eq.2 (by omega)
        clear h3
        cases neg
        · by_cases h4 : exp = 0
          · subst h4
            go_enter Try.func23, Try.ntmps23
            go_wp2
            go_ret
            exact ⟨⟨true, rfl, fun _ => ⟨h1', h2', fun _ => ⟨rfl, rfl⟩, (by rw [HE.out]; intro c hc; cases hc), (by rw [HE.out]; simp), (by rw [HE.out]; simp)⟩⟩, rfl⟩
          · have h4' : (exp == 0) = false := by simpa using h4
            clear h4
            go_enter Try.func23, Try.ntmps23
            go_wp2
            go_ret
            exact ⟨⟨false, rfl, fun h => (by cases h)⟩, rfl⟩
        · go_enter Try.func23, Try.ntmps23
          go_wp2
          go_ret
          exact ⟨⟨false, rfl, fun h => (by cases h)⟩, rfl⟩
      · have h3' : ((s.size : Int) == 0) = false := beq_eq_false_iff_ne.2 (by omega)
        have h30 : 0 < s.size := by omega
        clear h3
        cases h5 : ((s[0].toNat : Int) == 48)
        · cases h6 : ((s[s.size - 1].toNat : Int) == 48)
          · have HF : Hid (s.data.toList.head? ≠ some 48) := head_ne s h30 h5
            have HL : Hid (s.data.toList.getLast? ≠ some 48) := last_ne s h30 h6
            have HNE : Hid (s.data.toList ≠ []) := by
              intro e
              have e0 : s.data.toList.length = s.size := Array.length_toList
              rw [e] at e0; simp at e0; omega
            go_enter Try.func23, Try.ntmps23
            go_wp2
            go_loop [9] (fun i => ∃ k : Nat, k ≤ s.size ∧ i = .int .i64 k ∧ DigTo s k) (fun i => s.size - (intOf i).toNat)
            case atStart => exact ⟨0, by omega, rfl, DigTo.zero s⟩
            case round =>
              obtain ⟨k, hk, rfl, HA⟩ := hrel
              by_cases hlt : k < s.size
              · by_cases g1 : (s[k].toNat : Int) < 48
                · go_wp2
                  go_ret
                  exact ⟨⟨false, rfl, fun h => (by cases h)⟩, rfl⟩
                · have g1' : (48 : Int) ≤ (s[k].toNat : Int) := by omega
                  clear g1
                  by_cases g2 : (57 : Int) < (s[k].toNat : Int)
                  · go_wp2
                    go_ret
                    exact ⟨⟨false, rfl, fun h => (by cases h)⟩, rfl⟩
                  · have g2' : (s[k].toNat : Int) ≤ 57 := by omega
                    clear g2
                    go_wp2
                    go_round
                    case rel => exact ⟨k + 1, by omega, by go_num, HA.snoc hlt g1' g2'⟩
                    case measure => simp [intOf]; omega
              · go_wp2
                go_ret
                exact ⟨⟨true, rfl, fun _ => ⟨h1', h2', fun h => absurd h HNE.out, HA.all hlt, HF.out, HL.out⟩⟩, rfl⟩
          · go_enter Try.func23, Try.ntmps23
            go_wp2
            go_ret
            exact ⟨⟨false, rfl, fun h => (by cases h)⟩, rfl⟩
        · go_enter Try.func23, Try.ntmps23
          go_wp2
          go_ret
          exact ⟨⟨false, rfl, fun h => (by cases h)⟩, rfl⟩

def BoundedEnd (s : ByteArray) (exp scale : Int) (neg : Bool) (e : Ending) : Prop := ∃ r : Bool, e = .returned (.bool r) ∧ (r = true → Bounded s.data.toList exp scale neg)

set_option maxHeartbeats 400000 in
theorem bounded_any (s : ByteArray) (exp scale : Int) (neg : Bool) (w : World) (hs : s.size ≤ 1048576) (s0 : -2147483648 ≤ scale) (s2 : scale ≤ 2147483647) :
    Calls Try.prog 10 #[.string s, .int .i32 exp, .int .i32 scale, .bool neg] w fun e w' => BoundedEnd s exp scale neg e ∧ w' = w := by
  by_cases h1 : exp < -65536
  · go_enter Try.func10, Try.ntmps10
    go_wp2
    go_ret
    exact ⟨⟨false, rfl, fun h => (by cases h)⟩, rfl⟩
  · have h1' : -65536 ≤ exp := by omega
    clear h1
    by_cases h2 : 65536 < exp
    · go_enter Try.func10, Try.ntmps10
      go_wp2
      go_ret
      exact ⟨⟨false, rfl, fun h => (by cases h)⟩, rfl⟩
    · have h2' : exp ≤ 65536 := by omega
      clear h2
      by_cases h3 : 65536 < scale
      · go_enter Try.func10, Try.ntmps10
        go_wp2
        go_ret
        exact ⟨⟨false, rfl, fun h => (by cases h)⟩, rfl⟩
      · have h3' : scale ≤ 65536 := by omega
        clear h3
        have h23 := shape_any s exp scale neg w hs h1' h2' h3' s0
        go_enter Try.func10, Try.ntmps10
        go_wp2_with (go_at_call 23; refine h23.mono ?_; rintro e w' ⟨⟨r, rfl, hr⟩, hw⟩; subst w')
        go_ret
        exact ⟨⟨r, rfl, fun h => ⟨hr h, h1', h2', h3'⟩⟩, rfl⟩
end Go.Proofs.Qxb6000399a
