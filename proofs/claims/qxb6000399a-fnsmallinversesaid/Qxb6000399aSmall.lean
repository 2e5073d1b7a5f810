import Derived.Test.Qxb6000399aShape
import Derived.Test.Qxb6000399aNum
import Derived.Lib.ConvBytes
import Derived.Lib.AtoiErrMem
namespace Go.Proofs.Qxb6000399a
open Go.RowKit
set_option linter.unusedVariables false
set_option linter.unusedSimpArgs false

/-- '[]byte(digits)': a new row. -/
theorem conv_new (s : ByteArray) (W : World) (n : Nat) (hn : n = W.heap.size) : ∃ cap w1, (convert 9 23 (.string s)).run Try.prog W = .ok (.slice (some ⟨n, 0, none⟩) s.size cap) w1 ∧
    (∀ j, j < s.size → w1.cell? ⟨n, j, none⟩ = some (.int .u8 ((s.data.toList.getD j 0).toNat : Int))) ∧ Below n W w1 := by
  subst hn
  exact ⟨_, _, Lib.run_convert_string_bytes (P := Try.prog) W 9 23 5 s Try.underlying9 Try.underlying23 Try.underlying5, fun j hj => Lib.bytesWorld_cell W 5 s j hj, Lib.bytesWorld_below W 5 s⟩

theorem pow_small {k : Nat} (h : k ≤ 17) : (10 : Nat) ^ k ≤ 100000000000000000 := by
  have h1 : (10 : Nat) ^ k ≤ 10 ^ 17 := Nat.pow_le_pow_right (by decide) h
  have h2 : (10 : Nat) ^ 17 = 100000000000000000 := by decide
  omega
theorem num_take_succ (l : List UInt8) (k : Nat) (h : k < l.length) : num (l.take (k + 1)) = num (l.take k) * 10 + ((l.getD k 0).toNat - 48) := by
  rw [List.take_succ_eq_append_getElem h, num_snoc]
  have e : l.getD k 0 = l[k] := by simp [List.getD, h]
  rw [e]
theorem num_take_lt (l : List UInt8) (hd : ∀ c ∈ l, IsDig c) (k : Nat) (h : k ≤ 17) (hk : k ≤ l.length) : num (l.take k) < 100000000000000000 := by
  have h1 := num_lt (l.take k) (fun c hc => hd c (List.mem_of_mem_take hc))
  rw [List.length_take, Nat.min_eq_left hk] at h1
  have := pow_small h
  omega
theorem num_pow_lt (l : List UInt8) (hd : ∀ c ∈ l, IsDig c) (j : Nat) (h : l.length + j ≤ 17) : num l * 10 ^ j < 100000000000000000 := by
  have h1 := num_lt l hd
  have h2 := pow_small h
  rw [Nat.pow_add] at h2
  have h3 : num l * 10 ^ j < 10 ^ l.length * 10 ^ j := (Nat.mul_lt_mul_right (Nat.pow_pos (by decide))).2 h1
  omega

def smallV (l : List UInt8) (shift : Nat) (neg : Bool) : Int := if neg then -((num l * 10 ^ shift : Nat) : Int) else ((num l * 10 ^ shift : Nat) : Int)

set_option maxHeartbeats 800000 in
theorem small_no (s : ByteArray) (dexp scale : Int) (neg : Bool) (exp : Int) (w : World) (hs : s.size ≤ 65536) (d0 : -65536 ≤ dexp) (d1 : dexp ≤ 65536) (e0 : -65536 ≤ exp) (e1 : exp ≤ dexp) (hbig : ¬ (s.size : Int) + (dexp - exp) ≤ 18) :
    Calls Try.prog 28 #[.agg #[.string s, .int .i32 dexp, .int .i32 scale, .bool neg], .int .i32 exp] w fun e w' => e = .returned (.tuple #[.int .i64 0, .bool false]) ∧ Below w.heap.size w w' := by
  have hb : 18 < (s.size : Int) + (dexp - exp) := by omega
  clear hbig
  go_enter Try.func28, Try.ntmps28
  go_wp2
  go_ret2
  exact ⟨rfl, (Below.refl _ _).alloc (Nat.le_refl _) _⟩

set_option maxHeartbeats 800000 in
theorem small_yes (s : ByteArray) (dexp scale : Int) (neg : Bool) (exp : Int) (w : World) (hs : s.size ≤ 65536) (d0 : -65536 ≤ dexp) (d1 : dexp ≤ 65536) (e0 : -65536 ≤ exp) (e1 : exp ≤ dexp) (hfit : (s.size : Int) + (dexp - exp) ≤ 18) (hd : ∀ c ∈ s.data.toList, IsDig c) :
    Calls Try.prog 28 #[.agg #[.string s, .int .i32 dexp, .int .i32 scale, .bool neg], .int .i32 exp] w fun e w' => e = .returned (.tuple #[.int .i64 (smallV s.data.toList (dexp - exp).toNat neg), .bool true]) ∧ Below w.heap.size w w' := by
  obtain ⟨ccap, w1, hcv, hcell, hb1⟩ := conv_new s (w.alloc (.cells #[.string s, .int .i32 dexp, .int .i32 scale, .bool neg] 25)) (w.heap.size + 1) (by simp)
  have HLS : Hid (s.data.toList.length = s.size) := Array.length_toList
  have HD : Hid (∀ c ∈ s.data.toList, IsDig c) := hd
  have HC : Hid (∀ j, j < s.size → w1.cell? ⟨w.heap.size + 1, j, none⟩ = some (.int .u8 ((s.data.toList.getD j 0).toNat : Int))) := hcell
  have hneg : w1.cell? ⟨w.heap.size, 3, none⟩ = some (.bool neg) := by
    rw [hb1.cell (p := ⟨w.heap.size, 3, none⟩) (by simp), World.cell?_alloc_at _ _ _ _ rfl]; rfl
  have hfull : Below w.heap.size w w1 := ((Below.refl _ _).alloc (Nat.le_refl _) _).trans (hb1.mono (by omega))
  obtain ⟨V, hV⟩ : ∃ V, V = smallV s.data.toList (dexp - exp).toNat neg := ⟨_, rfl⟩
  rw [← hV]
  have HV : Hid (V = smallV s.data.toList (dexp - exp).toNat neg) := hV
  clear hV hd hcell hb1
  go_enter Try.func28, Try.ntmps28
  go_wp2
  go_loop [7, 25] (fun m i => ∃ k : Nat, k ≤ s.size ∧ i = .int .i64 k ∧ m = .int .i64 (num (s.data.toList.take k) : Int)) (fun _ i => s.size - (intOf i).toNat)
  case atStart => exact ⟨0, by omega, rfl, rfl⟩
  case round =>
    obtain ⟨k, hk, rfl, rfl⟩ := hrel
    by_cases hlt : k < s.size
    · have ck := HC.out k hlt
      have hdk : IsDig (s.data.toList.getD k 0) := by
        have e : s.data.toList.getD k 0 = s.data.toList[k]'(by rw [HLS.out]; exact hlt) := by simp [List.getD, hlt]
        rw [e]; exact HD.out _ (List.getElem_mem _)
      have HS : Hid (num (s.data.toList.take (k + 1)) = num (s.data.toList.take k) * 10 + ((s.data.toList.getD k 0).toNat - 48)) := num_take_succ _ k (by rw [HLS.out]; exact hlt)
      have hx := num_take_lt s.data.toList HD.out k (by omega) (by rw [HLS.out]; omega)
      generalize s.data.toList.getD k 0 = c at ck hdk HS
      unfold IsDig at hdk
      obtain ⟨x, hxe⟩ : ∃ x : Int, x = (num (s.data.toList.take k) : Int) := ⟨_, rfl⟩
      have HX : Hid (x = (num (s.data.toList.take k) : Int)) := hxe
      rw [← hxe]
      have hx0 : 0 ≤ x := by omega
      have hx1 : x < 100000000000000000 := by omega
      have c1 : (48 : Int) ≤ (c.toNat : Int) := by omega
      have c2 : (c.toNat : Int) ≤ 57 := by omega
      have HCC : Hid (48 ≤ c.toNat) := hdk.1
      clear hxe hdk hx
      go_wp2
      go_round
      case rel => exact ⟨k + 1, by omega, by go_num, by rw [HS.out]; have := HX.out; have := HCC.out; congr 1; omega⟩
      case measure => simp [intOf]; omega
    · have hkn : k = s.size := by omega
      subst hkn
      clear hlt hk
      rw [List.take_of_length_le (by rw [HLS.out]; exact Nat.le_refl _)]
      go_wp2
      go_loop [7, 37] (fun m i => ∃ j : Nat, (j : Int) ≤ dexp - exp ∧ i = .int .i64 j ∧ m = .int .i64 ((num s.data.toList * 10 ^ j : Nat) : Int)) (fun _ i => (dexp - exp).toNat - (intOf i).toNat)
      case atStart => exact ⟨0, by omega, rfl, by rw [Nat.pow_zero, Nat.mul_one]⟩
      case round =>
        obtain ⟨j, hj, rfl, rfl⟩ := hrel
        by_cases hlt : (j : Int) < dexp - exp
        · have hx := num_pow_lt s.data.toList HD.out j (by rw [HLS.out]; omega)
          have HS : Hid (num s.data.toList * 10 ^ (j + 1) = num s.data.toList * 10 ^ j * 10) := show _ = _ by rw [Nat.pow_succ, Nat.mul_assoc]
          obtain ⟨x, hxe⟩ : ∃ x : Int, x = ((num s.data.toList * 10 ^ j : Nat) : Int) := ⟨_, rfl⟩
          have HX : Hid (x = ((num s.data.toList * 10 ^ j : Nat) : Int)) := hxe
          rw [← hxe]
          have hx0 : 0 ≤ x := by omega
          have hx1 : x < 100000000000000000 := by omega
          clear hxe hx
          go_wp2
          go_round
          case rel => exact ⟨j + 1, by omega, by go_num, by rw [HS.out]; have := HX.out; congr 1; omega⟩
          case measure => simp [intOf]; omega
        · have hjs : (dexp - exp).toNat = j := by omega
          rw [hjs] at HV
          have hx : num s.data.toList * 10 ^ j < 1000000000000000000 := by
            have h1 := num_lt s.data.toList HD.out
            have h2 : (10 : Nat) ^ (s.data.toList.length + j) ≤ 10 ^ 18 := Nat.pow_le_pow_right (by decide) (by rw [HLS.out]; omega)
            have h4 : (10 : Nat) ^ 18 = 1000000000000000000 := by decide
            rw [Nat.pow_add] at h2
            have h3 : num s.data.toList * 10 ^ j < 10 ^ s.data.toList.length * 10 ^ j := (Nat.mul_lt_mul_right (Nat.pow_pos (by decide))).2 h1
            omega
          obtain ⟨x, hxe⟩ : ∃ x : Int, x = ((num s.data.toList * 10 ^ j : Nat) : Int) := ⟨_, rfl⟩
          have HV2 : Hid (V = if neg then -x else x) := by show _ = _; rw [HV.out, hxe]; rfl
          rw [← hxe]
          have hx0 : 0 ≤ x := by omega
          have hx1 : x < 1000000000000000000 := by omega
          clear hxe hx hjs HV
          cases neg
          · go_wp2
            go_ret2
            rw [show V = x from HV2.out]
            exact ⟨rfl, hfull⟩
          · go_wp2
            go_ret2
            rw [show V = -x from HV2.out]
            exact ⟨rfl, hfull⟩

set_option maxHeartbeats 400000 in
theorem zzsmall_no (s : ByteArray) (dexp scale : Int) (neg : Bool) (exp : Int) (w : World) (hs : s.size ≤ 65536) (d0 : -65536 ≤ dexp) (d1 : dexp ≤ 65536) (e0 : -65536 ≤ exp) (e1 : exp ≤ dexp) (hbig : ¬ (s.size : Int) + (dexp - exp) ≤ 18) :
    Calls Try.prog 15 #[.agg #[.string s, .int .i32 dexp, .int .i32 scale, .bool neg], .int .i32 exp] w fun e w' => e = .returned (.tuple #[.int .i64 0, .bool false]) ∧ Below w.heap.size w w' := by
  have h28 := fun w => small_no s dexp scale neg exp w hs d0 d1 e0 e1 hbig
  go_enter Try.func15, Try.ntmps15
  go_wp2_with (go_at_call 28; refine (h28 _).mono ?_; rintro e w1 ⟨rfl, hb⟩)
  go_ret2
  exact ⟨rfl, ((Below.refl _ _).alloc (Nat.le_refl _) _).trans (hb.mono (by simp))⟩
set_option maxHeartbeats 400000 in
theorem zzsmall_yes (s : ByteArray) (dexp scale : Int) (neg : Bool) (exp : Int) (w : World) (hs : s.size ≤ 65536) (d0 : -65536 ≤ dexp) (d1 : dexp ≤ 65536) (e0 : -65536 ≤ exp) (e1 : exp ≤ dexp) (hfit : (s.size : Int) + (dexp - exp) ≤ 18) (hd : ∀ c ∈ s.data.toList, IsDig c) :
    Calls Try.prog 15 #[.agg #[.string s, .int .i32 dexp, .int .i32 scale, .bool neg], .int .i32 exp] w fun e w' => e = .returned (.tuple #[.int .i64 (smallV s.data.toList (dexp - exp).toNat neg), .bool true]) ∧ Below w.heap.size w w' := by
  have h28 := fun w => small_yes s dexp scale neg exp w hs d0 d1 e0 e1 hfit hd
  generalize smallV s.data.toList (dexp - exp).toNat neg = v at h28 ⊢
  clear hd
  go_enter Try.func15, Try.ntmps15
  go_wp2_with (go_at_call 28; refine (h28 _).mono ?_; rintro e w1 ⟨rfl, hb⟩)
  go_ret2
  exact ⟨rfl, ((Below.refl _ _).alloc (Nat.le_refl _) _).trans (hb.mono (by simp))⟩
end Go.Proofs.Qxb6000399a
