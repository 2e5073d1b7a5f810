import Derived.Test.Qxb6000399aZeros
import Derived.Test.Qxb6000399aNum
import Derived.Deep.QuietTactic
import Derived.BigQuiet
namespace Go.Proofs.Qxb6000399a
open Go.RowKit
set_option linter.unusedVariables false
set_option linter.unusedSimpArgs false

theorem take_snoc (s : ByteArray) (k : Nat) (h : k < s.size) : s.data.toList.take (k + 1) = s.data.toList.take k ++ [s[k]] := by
  rw [List.take_succ_eq_append_getElem (by simpa using h)]; rfl

set_option maxHeartbeats 800000 in
theorem pad_any (s : ByteArray) (z : Int) (w : World) (hs : s.size ≤ 65536) (hz : 0 ≤ z) (hz1' : z ≤ 200000) :
    Calls Try.prog 18 #[.string s, .int .i64 z] w fun e w' => (∃ v, e = .returned v ∧ Owns w' w.heap.size v (s.data.toList ++ List.replicate z.toNat 48)) ∧ Below w.heap.size w w' := by
  obtain ⟨i0, hi, hz0, hz1, hz2⟩ := info_parts info5
  obtain ⟨m, hm⟩ : ∃ m : Nat, (m : Int) = (s.size : Int) + z := ⟨s.size + z.toNat, by omega⟩
  have HM : Hid ((m : Int) = (s.size : Int) + z) := hm
  have HLS : Hid (s.data.toList.length = s.size) := Array.length_toList
  have hmb : m ≤ 300000 := by omega
  clear hm
  go_enter Try.func18, Try.ntmps18
  go_wp2_with (refine wpList_make_own _ rfl _ (.tmp 11) 23 rfl w.heap.size 5 i0 (.int .u8 0) 1 Try.underlying23 hi hz0 hz1 .i64 .i64 _ m rfl rfl HM.out.symm (by rw [hz2]; omega) (by unfold maxLen; omega) (Nat.le_refl _) ?_; intro w1 hown1 hgrow1; refine Hid.out ?_)
  refine (show ∀ {p : Prop}, p → Hid p from fun h => h) ?_
  have ho1 : Owns w1 w.heap.size _ [] := hown1
  have hb1 : Below w.heap.size w w1 := (Below.refl _ _).grown hgrow1 (Nat.le_refl _) (by intro k h; cases h)
  clear hown1 hgrow1
  generalize (Value.slice (some ⟨w.heap.size, 0, none⟩) 0 m) = v1 at ho1 ⊢
  go_wp2_with fail
  go_loopw [5, 6] (fun v j wr => ∃ k : Nat, k ≤ s.size ∧ j = .int .i64 k ∧ Owns wr w.heap.size v (s.data.toList.take k) ∧ Below w.heap.size w wr) (fun _ j _ => s.size - (intOf j).toNat)
  case atStart => exact ⟨0, by omega, rfl, ho1, hb1⟩
  case round =>
    clear ho1 hb1
    obtain ⟨k, hk, rfl, ho, hb⟩ := hrel
    by_cases hlt : k < s.size
    · have HS : Hid (s.data.toList.take (k + 1) = s.data.toList.take k ++ [s[k]]) := take_snoc s k hlt
      have hl : (s.data.toList.take k).length ≤ 65536 := by rw [List.length_take, HLS.out]; omega
      have hsz : w.heap.size ≤ wr.heap.size := hb.size
      generalize s.data.toList.take k = L at hl ho HS
      have hO : wr.ownsRow w.heap.size 5 1 _ L.length (Lib.byteCells L) := ho
      go_wp2_with (first | (at_builtin; refine wpList_append_own _ rfl (.tmp 19) (.tmp 23) 23 rfl w.heap.size 5 i0 (.int .u8 0) 1 1 Try.underlying23 hi hz0 hz1 hz2 rfl (by decide) _ L.length (Lib.byteCells L) rfl (hO.alloc _) ⟨wr.heap.size, 0, none⟩ 1 1 (Lib.byteCells [s[k]]) rfl rfl (one_new wr s[k] _ rfl) (one_bytes _) (by unfold maxLen; omega) (by omega) (le_alloc hsz _) ?_; intro v2 w2 hown2 hgrow2 hnil2; refine Hid.out ?_))
      refine (show ∀ {p : Prop}, p → Hid p from fun h => h) ?_
      have ho2 : Owns w2 w.heap.size v2 (L ++ [s[k]]) := Owns.next [s[k]] rfl hown2
      have hb2 : Below w.heap.size w w2 := (hb.alloc hsz _).grown hgrow2 (le_alloc hsz _) (own_ge ho)
      clear hown2 hgrow2 hnil2 hO ho hb
      go_wp2
      go_roundw
      case rel => exact ⟨k + 1, by omega, by go_num, by rw [HS.out]; exact ho2, hb2⟩
      case measure => simp [intOf]; omega
    · have hkn : k = s.size := by omega
      subst hkn
      clear hlt hk
      rw [List.take_of_length_le (by rw [HLS.out]; exact Nat.le_refl _)] at ho
      go_wp2_with fail
      go_loopw [5, 7] (fun v j wr => ∃ k : Nat, (k : Int) ≤ z ∧ j = .int .i64 k ∧ Owns wr w.heap.size v (s.data.toList ++ List.replicate k 48) ∧ Below w.heap.size w wr) (fun _ j _ => z.toNat - (intOf j).toNat)
      case atStart => exact ⟨0, by omega, rfl, by rw [List.replicate_zero, List.append_nil]; exact ho, hb⟩
      case round =>
        clear ho hb
        obtain ⟨k, hk, rfl, ho, hb⟩ := hrel
        by_cases hlt : (k : Int) < z
        · have HS : Hid (s.data.toList ++ List.replicate (k + 1) 48 = (s.data.toList ++ List.replicate k 48) ++ [48]) := show _ = _ by rw [List.replicate_succ', List.append_assoc]
          have hl : (s.data.toList ++ List.replicate k 48).length ≤ 300000 := by rw [List.length_append, HLS.out, List.length_replicate]; omega
          have hsz : w.heap.size ≤ wr.heap.size := hb.size
          generalize s.data.toList ++ List.replicate k 48 = L at hl ho HS
          have hO : wr.ownsRow w.heap.size 5 1 _ L.length (Lib.byteCells L) := ho
          go_wp2_with (first | (at_builtin; refine wpList_append_own _ rfl (.tmp 30) (.tmp 31) 23 rfl w.heap.size 5 i0 (.int .u8 0) 1 1 Try.underlying23 hi hz0 hz1 hz2 rfl (by decide) _ L.length (Lib.byteCells L) rfl (hO.alloc _) ⟨wr.heap.size, 0, none⟩ 1 1 (Lib.byteCells [48]) rfl rfl (one_new wr 48 48 rfl) (one_bytes _) (by unfold maxLen; omega) (by omega) (le_alloc hsz _) ?_; intro v2 w2 hown2 hgrow2 hnil2; refine Hid.out ?_))
          refine (show ∀ {p : Prop}, p → Hid p from fun h => h) ?_
          have ho2 : Owns w2 w.heap.size v2 (L ++ [48]) := Owns.next [48] rfl hown2
          have hb2 : Below w.heap.size w w2 := (hb.alloc hsz _).grown hgrow2 (le_alloc hsz _) (own_ge ho)
          clear hown2 hgrow2 hnil2 hO ho hb
          go_wp2
          go_roundw
          case rel => exact ⟨k + 1, by omega, by go_num, by rw [HS.out]; exact ho2, hb2⟩
          case measure => simp [intOf]; omega
        · have hkz : k = z.toNat := by omega
          subst hkz
          go_wp2
          go_ret
          exact ⟨⟨_, rfl, ho⟩, hb⟩
end Go.Proofs.Qxb6000399a
