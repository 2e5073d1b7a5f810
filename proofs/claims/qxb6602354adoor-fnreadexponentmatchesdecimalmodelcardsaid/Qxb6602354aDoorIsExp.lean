import Derived.Test.Qxb6602354aDoorZeros
namespace Go.Proofs.Qxb6602354aDoor
open Go.RowKit
set_option linter.unusedVariables false
set_option linter.unusedSimpArgs false

set_option maxHeartbeats 400000 in
theorem bytes6_yes (s : ByteArray) (w : World) (h : s.size ≤ 1048576) :
    Calls Tryd.prog 6 #[.string s] w fun e w' => e = .returned (.bool true) ∧ w' = w := by
  go_enter Tryd.func6, Tryd.ntmps6
  go_wp2
  go_ret
  exact ⟨rfl, rfl⟩
set_option maxHeartbeats 400000 in
theorem bytes6_no (s : ByteArray) (w : World) (h : ¬ s.size ≤ 1048576) :
    Calls Tryd.prog 6 #[.string s] w fun e w' => e = .returned (.bool false) ∧ w' = w := by
  go_enter Tryd.func6, Tryd.ntmps6
  go_wp2
  go_ret
  exact ⟨rfl, rfl⟩

/-- What zzIsExponent comes to: a bool, and if it is true the text is a sign or none, then digits. -/
def ExpEnd (s : ByteArray) (e : Ending) : Prop := ∃ r : Bool, e = .returned (.bool r) ∧ (r = true → ∃ neg ds, Signed neg s.data.toList ds ∧ ds ≠ [] ∧ ∀ c ∈ ds, IsDig c)

theorem all_from (l : List UInt8) (k : Nat) (h : ∀ j (hj : j < l.length), k ≤ j → IsDig l[j]) : ∀ c ∈ l.drop k, IsDig c := by
  intro c hc
  obtain ⟨i, hi, rfl⟩ := List.getElem_of_mem hc
  rw [List.getElem_drop]
  exact h _ _ (by omega)

theorem head_split (s : ByteArray) (h0 : 0 < s.size) : s.data.toList = s[0] :: s.data.toList.drop 1 := by
  have hl : 0 < s.data.toList.length := by rw [Array.length_toList]; exact h0
  have := List.drop_eq_getElem_cons hl
  rw [List.drop_zero] at this
  exact this

theorem byte_eq {c : UInt8} {n : Nat} (h : ((c.toNat : Int) == (n : Int)) = true) (hn : n < 256) : c = UInt8.ofNat n := by
  have h1 : (c.toNat : Int) = (n : Int) := by simpa using h
  apply UInt8.toNat_inj.1
  rw [UInt8.toNat_ofNat']
  omega

/-- The bytes from k0 up to k are digits. -/
def DigFrom (s : ByteArray) (k0 k : Nat) : Prop := ∀ j (hj : j < s.data.toList.length), k0 ≤ j → j < k → IsDig s.data.toList[j]
theorem DigFrom.zero (s : ByteArray) (k0 : Nat) : DigFrom s k0 k0 := fun j hj h1 h2 => by omega
theorem DigFrom.snoc {s : ByteArray} {k0 k : Nat} (h : DigFrom s k0 k) (hk : k < s.size) (g1 : (48 : Int) ≤ (s[k].toNat : Int)) (g2 : (s[k].toNat : Int) ≤ 57) : DigFrom s k0 (k + 1) := by
  intro j hj h1 h2
  by_cases e : j = k
  · subst e; rw [byte_at s j hk]; unfold IsDig; omega
  · exact h j hj h1 (by omega)
theorem DigFrom.all {s : ByteArray} {k0 k : Nat} (h : DigFrom s k0 k) (hk : ¬ k < s.size) : ∀ c ∈ s.data.toList.drop k0, IsDig c :=
  all_from _ _ (fun j hj h1 => h j hj h1 (by have e : s.data.toList.length = s.size := Array.length_toList; omega))
theorem drop_ne (s : ByteArray) (k0 : Nat) (h : k0 < s.size) : s.data.toList.drop k0 ≠ [] := by
  intro e
  have e1 := congrArg List.length e
  have e2 : s.data.toList.length = s.size := Array.length_toList
  rw [List.length_drop, e2, List.length_nil] at e1
  omega

set_option maxHeartbeats 400000 in
theorem isExp_any (s : ByteArray) (w : World) (hs : s.size ≤ 1048576) :
    Calls Tryd.prog 7 #[.string s] w fun e w' => ExpEnd s e ∧ w' = w := by
  by_cases h0 : 0 < s.size
  · have hsp := head_split s h0
    have HSP : Hid (s.data.toList = s[0] :: s.data.toList.drop 1) := hsp
    clear hsp
    cases h43 : ((s[0].toNat : Int) == 43)
    · cases h45 : ((s[0].toNat : Int) == 45)
      · go_enter Tryd.func7, Tryd.ntmps7
        go_wp2
        go_loop [3] (fun i => ∃ k : Nat, k ≤ s.size ∧ i = .int .i64 k ∧ DigFrom s 0 k) (fun i => s.size - (intOf i).toNat)
        case atStart => exact ⟨0, by omega, rfl, DigFrom.zero s 0⟩
        case round =>
          obtain ⟨k, hk, rfl, HA⟩ := hrel
          by_cases hlt : k < s.size
          · by_cases g1 : (s[k].toNat : Int) < 48
            · go_wp2
              go_ret
              exact ⟨⟨false, rfl, fun h => (by cases h)⟩, rfl⟩
            · have g1' : (48 : Int) ≤ (s[k].toNat : Int) := by omega
              clear g1
              by_cases g2 : (57 : Int) < (s[k].toNat : Int)
              · go_wp2
                go_ret
                exact ⟨⟨false, rfl, fun h => (by cases h)⟩, rfl⟩
              · have g2' : (s[k].toNat : Int) ≤ 57 := by omega
                clear g2
                go_wp2
                go_round
                case rel => exact ⟨k + 1, by omega, by go_num, HA.snoc hlt g1' g2'⟩
                case measure => simp [intOf]; omega
          · go_wp2
            go_ret
            exact ⟨⟨true, rfl, fun _ => ⟨false, s.data.toList.drop 0, Or.inl ⟨rfl, rfl⟩, drop_ne s 0 (by omega), HA.all hlt⟩⟩, rfl⟩
      · by_cases h1 : s.size = 1
        · go_enter Tryd.func7, Tryd.ntmps7
          go_wp2
          go_ret
          exact ⟨⟨false, rfl, fun h => (by cases h)⟩, rfl⟩
        · have h1' : 1 < s.size := by omega
          clear h1
          have HB : Hid (s[0] = 45) := byte_eq (n := 45) h45 (by omega)
          go_enter Tryd.func7, Tryd.ntmps7
          go_wp2
          go_loop [3] (fun i => ∃ k : Nat, 1 ≤ k ∧ k ≤ s.size ∧ i = .int .i64 k ∧ DigFrom s 1 k) (fun i => s.size - (intOf i).toNat)
          case atStart => exact ⟨1, by omega, by omega, rfl, DigFrom.zero s 1⟩
          case round =>
            obtain ⟨k, hk0, hk, rfl, HA⟩ := hrel
            by_cases hlt : k < s.size
            · by_cases g1 : (s[k].toNat : Int) < 48
              · go_wp2
                go_ret
                exact ⟨⟨false, rfl, fun h => (by cases h)⟩, rfl⟩
              · have g1' : (48 : Int) ≤ (s[k].toNat : Int) := by omega
                clear g1
                by_cases g2 : (57 : Int) < (s[k].toNat : Int)
                · go_wp2
                  go_ret
                  exact ⟨⟨false, rfl, fun h => (by cases h)⟩, rfl⟩
                · have g2' : (s[k].toNat : Int) ≤ 57 := by omega
                  clear g2
                  go_wp2
                  go_round
                  case rel => exact ⟨k + 1, by omega, by omega, by go_num, HA.snoc hlt g1' g2'⟩
                  case measure => simp [intOf]; omega
            · go_wp2
              go_ret
              exact ⟨⟨true, rfl, fun _ => ⟨true, s.data.toList.drop 1, Or.inr (Or.inr ⟨by rw [← HB.out]; exact HSP.out, rfl⟩), drop_ne s 1 (by omega), HA.all hlt⟩⟩, rfl⟩
    · by_cases h1 : s.size = 1
      · go_enter Tryd.func7, Tryd.ntmps7
        go_wp2
        go_ret
        exact ⟨⟨false, rfl, fun h => (by cases h)⟩, rfl⟩
      · have h1' : 1 < s.size := by omega
        clear h1
        have HB : Hid (s[0] = 43) := byte_eq (n := 43) h43 (by omega)
        go_enter Tryd.func7, Tryd.ntmps7
        go_wp2
        go_loop [3] (fun i => ∃ k : Nat, 1 ≤ k ∧ k ≤ s.size ∧ i = .int .i64 k ∧ DigFrom s 1 k) (fun i => s.size - (intOf i).toNat)
        case atStart => exact ⟨1, by omega, by omega, rfl, DigFrom.zero s 1⟩
        case round =>
          obtain ⟨k, hk0, hk, rfl, HA⟩ := hrel
          by_cases hlt : k < s.size
          · by_cases g1 : (s[k].toNat : Int) < 48
            · go_wp2
              go_ret
              exact ⟨⟨false, rfl, fun h => (by cases h)⟩, rfl⟩
            · have g1' : (48 : Int) ≤ (s[k].toNat : Int) := by omega
              clear g1
              by_cases g2 : (57 : Int) < (s[k].toNat : Int)
              · go_wp2
                go_ret
                exact ⟨⟨false, rfl, fun h => (by cases h)⟩, rfl⟩
              · have g2' : (s[k].toNat : Int) ≤ 57 := by omega
                clear g2
                go_wp2
                go_round
                case rel => exact ⟨k + 1, by omega, by omega, by go_num, HA.snoc hlt g1' g2'⟩
                case measure => simp [intOf]; omega
          · go_wp2
            go_ret
            exact ⟨⟨true, rfl, fun _ => ⟨false, s.data.toList.drop 1, Or.inr (Or.inl ⟨by rw [← HB.out]; exact HSP.out, rfl⟩), drop_ne s 1 (by omega), HA.all hlt⟩⟩, rfl⟩
  · go_enter Tryd.func7, Tryd.ntmps7
    go_wp2
    go_ret
    exact ⟨⟨false, rfl, fun h => (by cases h)⟩, rfl⟩
end Go.Proofs.Qxb6602354aDoor
