import Derived.Test.Qxb6602354aDoorIsExp
namespace Go.Proofs.Qxb6602354aDoor
open Go.RowKit
set_option linter.unusedVariables false
set_option linter.unusedSimpArgs false

/-- The model's state behind the digits q. -/
structure MInv (q : List UInt8) (mag : Int) (ov : Bool) (sg : Nat) : Prop where
  sig : sg = (strip q).length
  over : ov = decide (9223372036854775808 < num q)
  mag : ov = false → mag = (num q : Int)

theorem MInv.nil : MInv [] 0 false 0 := ⟨rfl, rfl, fun _ => rfl⟩
theorem MInv.zero {q : List UInt8} {mag : Int} {ov : Bool} {sg : Nat} (h : MInv q mag ov sg) (h0 : sg = 0) (c : UInt8) (hc : (c.toNat : Int) = 48) : MInv (q ++ [c]) mag ov sg := by
  have hc' : c = 48 := UInt8.toNat_inj.1 (by show c.toNat = 48; omega)
  subst hc'
  have hz : strip q = [] := List.eq_nil_of_length_eq_zero (by rw [← h.sig]; exact h0)
  have hn := strip_nil_num hz
  have hn' : num (q ++ [48]) = num q := by rw [num_snoc, hn]; rfl
  refine ⟨?_, ?_, ?_⟩
  · rw [strip_snoc, if_pos ⟨hz, rfl⟩, h0]; rfl
  · rw [hn']; exact h.over
  · rw [hn']; exact h.mag
theorem sig_snoc {q : List UInt8} {sg : Nat} (h : sg = (strip q).length) (c : UInt8) (hnz : ¬ (sg = 0 ∧ (c.toNat : Int) = 48)) : sg + 1 = (strip (q ++ [c])).length := by
  rw [strip_snoc, if_neg, List.length_append, ← h]
  · rfl
  · rintro ⟨h1, rfl⟩
    exact hnz ⟨by rw [h, h1]; rfl, rfl⟩
theorem MInv.stay {q : List UInt8} {mag : Int} {sg : Nat} (h : MInv q mag true sg) (c : UInt8) (hnz : ¬ (sg = 0 ∧ (c.toNat : Int) = 48)) : MInv (q ++ [c]) mag true (sg + 1) := by
  refine ⟨sig_snoc h.sig c hnz, ?_, fun h => by cases h⟩
  have := h.over
  rw [num_snoc]
  have h1 : 9223372036854775808 < num q := by simpa using this.symm
  exact (decide_eq_true (by omega)).symm
theorem MInv.rise {q : List UInt8} {mag : Int} {sg : Nat} (h : MInv q mag false sg) (c : UInt8) (hc : 48 ≤ c.toNat) (hnz : ¬ (sg = 0 ∧ (c.toNat : Int) = 48))
    (hb : 922337203685477580 < mag ∨ (mag = 922337203685477580 ∧ 8 < (c.toNat : Int) - 48)) : MInv (q ++ [c]) mag true (sg + 1) := by
  refine ⟨sig_snoc h.sig c hnz, ?_, fun h => by cases h⟩
  have hm := h.mag rfl
  rw [num_snoc]
  exact (decide_eq_true (by omega)).symm
theorem MInv.next {q : List UInt8} {mag : Int} {sg : Nat} (h : MInv q mag false sg) (c : UInt8) (hc : 48 ≤ c.toNat) (hc9 : c.toNat ≤ 57) (hnz : ¬ (sg = 0 ∧ (c.toNat : Int) = 48))
    (hb : mag < 922337203685477580 ∨ (mag = 922337203685477580 ∧ (c.toNat : Int) - 48 ≤ 8)) : MInv (q ++ [c]) (mag * 10 + ((c.toNat : Int) - 48)) false (sg + 1) := by
  have hm := h.mag rfl
  refine ⟨sig_snoc h.sig c hnz, ?_, fun _ => ?_⟩
  · rw [num_snoc]
    exact (decide_eq_false (by omega)).symm
  · rw [num_snoc, hm]; omega
theorem MInv.small {q : List UInt8} {mag : Int} {ov : Bool} {sg : Nat} (h : MInv q mag ov sg) (neg : Bool) (hn : num q ≤ lim neg) : ov = false ∧ mag = (num q : Int) := by
  have h1 : num q ≤ 9223372036854775808 := by cases neg <;> simp only [lim, if_true, Bool.false_eq_true, if_false] at hn <;> omega
  have h2 : ov = false := by rw [h.over]; exact decide_eq_false (by omega)
  exact ⟨h2, h.mag h2⟩
theorem MInv.big {q : List UInt8} {mag : Int} {ov : Bool} {sg : Nat} (h : MInv q mag ov sg) (neg : Bool) (hn : ¬ num q ≤ lim neg) : ov = true ∨ (ov = false ∧ neg = false ∧ mag = 9223372036854775808) := by
  cases ov
  · right
    have h1 : ¬ 9223372036854775808 < num q := by have := h.over; simpa using this.symm
    have h2 := h.mag rfl
    cases neg
    · simp only [lim, Bool.false_eq_true, if_false] at hn; exact ⟨rfl, rfl, by omega⟩
    · simp only [lim, if_true] at hn; omega
  · left; rfl

/-- The digits between k0 and j. -/
def proc (s : ByteArray) (k0 j : Nat) : List UInt8 := (s.data.toList.take j).drop k0
theorem proc_succ (s : ByteArray) (k0 j : Nat) (h0 : k0 ≤ j) (hj : j < s.size) : proc s k0 (j + 1) = proc s k0 j ++ [s[j]] := by
  have hl : j < s.data.toList.length := by rw [Array.length_toList]; exact hj
  unfold proc
  rw [List.take_succ_eq_append_getElem hl, List.drop_append_of_le_length (by rw [List.length_take]; omega), byte_at s j hj]
theorem proc_zero (s : ByteArray) (k0 : Nat) : proc s k0 k0 = [] := by
  unfold proc
  rw [List.drop_of_length_le (by rw [List.length_take]; omega)]
theorem proc_end (s : ByteArray) (k0 j : Nat) (h : ¬ j < s.size) : proc s k0 j = s.data.toList.drop k0 := by
  unfold proc
  rw [List.take_of_length_le (by rw [Array.length_toList]; exact Nat.le_of_not_lt h)]
theorem dig_at (s : ByteArray) (k0 j : Nat) (h0 : k0 ≤ j) (hj : j < s.size) (hd : ∀ c ∈ s.data.toList.drop k0, IsDig c) : IsDig s[j] := by
  have hl : j < s.data.toList.length := by rw [Array.length_toList]; exact hj
  apply hd
  rw [← byte_at s j hj]
  rw [List.mem_drop_iff_getElem]
  exact ⟨j - k0, by omega, by simp [show j - k0 + k0 = j by omega, show k0 + (j - k0) = j by omega]⟩

theorem ret_two {a b : Int} {c : Bool} (h : a = b) : Ending.returned (.tuple #[.int .i64 a, .bool c]) = .returned (.tuple #[.int .i64 b, .bool c]) := by rw [h]
theorem neg_wrap (mag : Int) (h0 : 0 ≤ mag) (h1 : mag ≤ 9223372036854775808) : wrap64 (IntKind.u64.wrap (-mag)) = -mag := by
  rw [IntKind.wrap_u64]; unfold wrap64; omega

set_option maxHeartbeats 800000 in
theorem model_plain (s : ByteArray) (w : World) (hs : s.size ≤ 1048576) (h0 : 0 < s.size) (hd : ∀ c ∈ s.data.toList.drop 0, IsDig c) :
    Calls Tryd.prog 9 #[.string s] w fun e w' => e = .returned (.tuple #[.int .i64 (rdV false (s.data.toList.drop 0)), .bool (rdB false (s.data.toList.drop 0))]) ∧ w' = w := by
  have hd0 := dig_at s 0 0 (by omega) h0 hd
  unfold IsDig at hd0
  have h43 : ((s[0].toNat : Int) == 43) = false := by simp; omega
  have h45 : ((s[0].toNat : Int) == 45) = false := by simp; omega
  have HD : Hid (∀ c ∈ s.data.toList.drop 0, IsDig c) := hd
  clear hd hd0
  obtain ⟨ds, hds⟩ : ∃ ds, ds = s.data.toList.drop 0 := ⟨_, rfl⟩
  rw [← hds] at HD ⊢
  have HDS : Hid (ds = s.data.toList.drop 0) := hds
  clear hds
  obtain ⟨V, hV⟩ : ∃ V, V = rdV false ds := ⟨_, rfl⟩
  obtain ⟨Bo, hBo⟩ : ∃ Bo, Bo = rdB false ds := ⟨_, rfl⟩
  rw [← hV, ← hBo]
  have HV : Hid (V = rdV false ds ∧ Bo = rdB false ds) := ⟨hV, hBo⟩
  clear hV hBo
  go_enter Tryd.func9, Tryd.ntmps9
  go_wp2
  go_loop [5, 6, 7, 8] (fun i m o g => ∃ (j : Nat) (mag : Int) (ov : Bool) (sg : Nat), j ≤ s.size ∧ i = .int .i64 j ∧ m = .int .u64 mag ∧ o = .bool ov ∧ g = .int .i64 sg ∧ 0 ≤ mag ∧ mag ≤ 9223372036854775808 ∧ sg ≤ j ∧ MInv (proc s 0 j) mag ov sg) (fun i _ _ _ => s.size - (intOf i).toNat)
  case atStart => exact ⟨0, 0, false, 0, by omega, rfl, rfl, rfl, rfl, by omega, by omega, by omega, by rw [proc_zero]; exact MInv.nil⟩
  case round =>
    obtain ⟨j, mag, ov, sg, hj, rfl, rfl, rfl, rfl, hm0, hm1, hsg, hI⟩ := hrel
    by_cases hlt : j < s.size
    · have hdj : IsDig s[j] := dig_at s 0 j (by omega) hlt (by rw [← HDS.out]; exact HD.out)
      unfold IsDig at hdj
      obtain ⟨b1, b2⟩ := hdj
      have c1 : (48 : Int) ≤ (s[j].toNat : Int) := by omega
      have c2 : (s[j].toNat : Int) ≤ 57 := by omega
      by_cases hz : sg = 0 ∧ (s[j].toNat : Int) = 48
      · obtain ⟨hz1, hz2⟩ := hz
        have HI : Hid (MInv (proc s 0 (j + 1)) mag ov sg) := by rw [proc_succ s 0 j (by omega) hlt]; exact hI.zero hz1 _ hz2
        have e1 : ((sg : Int) == 0) = true := by simp; omega
        have e2 : ((s[j].toNat : Int) - 48 == 0) = true := by simp; omega
        clear hz1 hz2 hI b1 b2
        go_wp2
        go_round
        case rel => exact ⟨j + 1, mag, ov, sg, by omega, by go_num, rfl, rfl, rfl, hm0, hm1, by omega, HI.out⟩
        case measure => simp [intOf]; omega
      · have hg : ((sg : Int) == 0) = false ∨ (((sg : Int) == 0) = true ∧ ((s[j].toNat : Int) - 48 == 0) = false) := by
          by_cases h : sg = 0
          · exact Or.inr ⟨by simp; omega, by simp; omega⟩
          · exact Or.inl (by simp; omega)
        have HP : Hid (proc s 0 (j + 1) = proc s 0 j ++ [s[j]]) := proc_succ s 0 j (by omega) hlt
        have HZ : Hid (¬ (sg = 0 ∧ (s[j].toNat : Int) = 48)) := hz
        have HI : Hid (MInv (proc s 0 j) mag ov sg) := hI
        have HB : Hid (48 ≤ s[j].toNat ∧ s[j].toNat ≤ 57) := ⟨b1, b2⟩
        clear hz hI b1 b2
        rcases hg with e1 | ⟨e1, e2⟩
        all_goals
          cases ov
          · by_cases m1 : 922337203685477580 < mag
            · go_wp2
              go_round
              case rel => exact ⟨j + 1, mag, true, sg + 1, by omega, by go_num, rfl, rfl, by go_num, hm0, hm1, by omega, by rw [HP.out]; exact HI.out.rise _ HB.out.1 HZ.out (Or.inl m1)⟩
              case measure => simp [intOf]; omega
            · by_cases m2 : mag < 922337203685477580
              · clear m1
                go_wp2
                go_round
                case rel => exact ⟨j + 1, mag * 10 + ((s[j].toNat : Int) - 48), false, sg + 1, by omega, by go_num, rfl, rfl, by go_num, by omega, by omega, by omega, by rw [HP.out]; exact HI.out.next _ HB.out.1 HB.out.2 HZ.out (Or.inl m2)⟩
                case measure => simp [intOf]; omega
              · have m3 : mag = 922337203685477580 := by omega
                clear m1 m2
                subst m3
                by_cases d8 : 8 < (s[j].toNat : Int) - 48
                · go_wp2
                  go_round
                  case rel => exact ⟨j + 1, 922337203685477580, true, sg + 1, by omega, by go_num, rfl, rfl, by go_num, hm0, hm1, by omega, by rw [HP.out]; exact HI.out.rise _ HB.out.1 HZ.out (Or.inr ⟨rfl, d8⟩)⟩
                  case measure => simp [intOf]; omega
                · have d8' : (s[j].toNat : Int) - 48 ≤ 8 := by omega
                  clear d8
                  go_wp2
                  go_round
                  case rel => exact ⟨j + 1, 922337203685477580 * 10 + ((s[j].toNat : Int) - 48), false, sg + 1, by omega, by go_num, rfl, rfl, by go_num, by omega, by omega, by omega, by rw [HP.out]; exact HI.out.next _ HB.out.1 HB.out.2 HZ.out (Or.inr ⟨rfl, d8'⟩)⟩
                  case measure => simp [intOf]; omega
          · go_wp2
            go_round
            case rel => exact ⟨j + 1, mag, true, sg + 1, by omega, by go_num, rfl, rfl, by go_num, hm0, hm1, by omega, by rw [HP.out]; exact HI.out.stay _ HZ.out⟩
            case measure => simp [intOf]; omega
    · have HI : Hid (MInv ds mag ov sg) := by rw [HDS.out, ← proc_end s 0 j hlt]; exact hI
      clear hI
      by_cases hn : num ds ≤ lim false
      · obtain ⟨e1, e2⟩ := HI.out.small false hn
        obtain ⟨r1, r2⟩ := rd_small false ds HD.out hn
        have HR : Hid (V = mag ∧ Bo = true) := by rw [HV.out.1, HV.out.2, r1, r2, e2]; exact ⟨rfl, rfl⟩
        have hml : mag ≤ 9223372036854775807 := by rw [lim_false] at hn; omega
        clear hn e2 r1 r2
        subst e1
        go_wp2
        go_ret2
        rw [HR.out.1, HR.out.2]
        exact ⟨rfl, rfl⟩
      · have hb := HI.out.big false hn
        by_cases hl : 19 < sg
        · obtain ⟨r1, r2⟩ := rd_long' false ds (by rw [← HI.out.sig]; exact hl)
          have HR : Hid (V = 0 ∧ Bo = false) := by rw [HV.out.1, HV.out.2, r1, r2]; exact ⟨rfl, rfl⟩
          clear hn r1 r2
          rcases hb with rfl | ⟨rfl, _, rfl⟩
          all_goals
            go_wp2
            go_ret2
            rw [HR.out.1, HR.out.2]
            exact ⟨rfl, rfl⟩
        · obtain ⟨r1, r2⟩ := rd_over false ds HD.out hn (by rw [← HI.out.sig]; exact hl)
          have HR : Hid (V = 9223372036854775807 ∧ Bo = false) := by rw [HV.out.1, HV.out.2, r1, r2]; exact ⟨rfl, rfl⟩
          clear hn r1 r2
          rcases hb with rfl | ⟨rfl, _, rfl⟩
          all_goals
            go_wp2
            go_ret2
            rw [HR.out.1, HR.out.2]
            exact ⟨rfl, rfl⟩
set_option maxHeartbeats 800000 in
theorem model_plus (s : ByteArray) (w : World) (hs : s.size ≤ 1048576) (h0 : 0 < s.size) (hb0 : s[0] = 43) (hd : ∀ c ∈ s.data.toList.drop 1, IsDig c) :
    Calls Tryd.prog 9 #[.string s] w fun e w' => e = .returned (.tuple #[.int .i64 (rdV false (s.data.toList.drop 1)), .bool (rdB false (s.data.toList.drop 1))]) ∧ w' = w := by
  have h43 : ((s[0].toNat : Int) == 43) = true := by rw [hb0]; rfl
  have h45 : ((s[0].toNat : Int) == 45) = false := by rw [hb0]; rfl
  have HD : Hid (∀ c ∈ s.data.toList.drop 1, IsDig c) := hd
  clear hd hb0
  obtain ⟨ds, hds⟩ : ∃ ds, ds = s.data.toList.drop 1 := ⟨_, rfl⟩
  rw [← hds] at HD ⊢
  have HDS : Hid (ds = s.data.toList.drop 1) := hds
  clear hds
  obtain ⟨V, hV⟩ : ∃ V, V = rdV false ds := ⟨_, rfl⟩
  obtain ⟨Bo, hBo⟩ : ∃ Bo, Bo = rdB false ds := ⟨_, rfl⟩
  rw [← hV, ← hBo]
  have HV : Hid (V = rdV false ds ∧ Bo = rdB false ds) := ⟨hV, hBo⟩
  clear hV hBo
  go_enter Tryd.func9, Tryd.ntmps9
  go_wp2
  go_loop [5, 6, 7, 8] (fun i m o g => ∃ (j : Nat) (mag : Int) (ov : Bool) (sg : Nat), 1 ≤ j ∧ j ≤ s.size ∧ i = .int .i64 j ∧ m = .int .u64 mag ∧ o = .bool ov ∧ g = .int .i64 sg ∧ 0 ≤ mag ∧ mag ≤ 9223372036854775808 ∧ sg ≤ j ∧ MInv (proc s 1 j) mag ov sg) (fun i _ _ _ => s.size - (intOf i).toNat)
  case atStart => exact ⟨1, 0, false, 0, by omega, by omega, rfl, rfl, rfl, rfl, by omega, by omega, by omega, by rw [proc_zero]; exact MInv.nil⟩
  case round =>
    obtain ⟨j, mag, ov, sg, hj1, hj, rfl, rfl, rfl, rfl, hm0, hm1, hsg, hI⟩ := hrel
    by_cases hlt : j < s.size
    · have hdj : IsDig s[j] := dig_at s 1 j hj1 hlt (by rw [← HDS.out]; exact HD.out)
      unfold IsDig at hdj
      obtain ⟨b1, b2⟩ := hdj
      have c1 : (48 : Int) ≤ (s[j].toNat : Int) := by omega
      have c2 : (s[j].toNat : Int) ≤ 57 := by omega
      by_cases hz : sg = 0 ∧ (s[j].toNat : Int) = 48
      · obtain ⟨hz1, hz2⟩ := hz
        have HI : Hid (MInv (proc s 1 (j + 1)) mag ov sg) := by rw [proc_succ s 1 j hj1 hlt]; exact hI.zero hz1 _ hz2
        have e1 : ((sg : Int) == 0) = true := by simp; omega
        have e2 : ((s[j].toNat : Int) - 48 == 0) = true := by simp; omega
        clear hz1 hz2 hI b1 b2
        go_wp2
        go_round
        case rel => exact ⟨j + 1, mag, ov, sg, by omega, by omega, by go_num, rfl, rfl, rfl, hm0, hm1, by omega, HI.out⟩
        case measure => simp [intOf]; omega
      · have hg : ((sg : Int) == 0) = false ∨ (((sg : Int) == 0) = true ∧ ((s[j].toNat : Int) - 48 == 0) = false) := by
          by_cases h : sg = 0
          · exact Or.inr ⟨by simp; omega, by simp; omega⟩
          · exact Or.inl (by simp; omega)
        have HP : Hid (proc s 1 (j + 1) = proc s 1 j ++ [s[j]]) := proc_succ s 1 j hj1 hlt
        have HZ : Hid (¬ (sg = 0 ∧ (s[j].toNat : Int) = 48)) := hz
        have HI : Hid (MInv (proc s 1 j) mag ov sg) := hI
        have HB : Hid (48 ≤ s[j].toNat ∧ s[j].toNat ≤ 57) := ⟨b1, b2⟩
        clear hz hI b1 b2
        rcases hg with e1 | ⟨e1, e2⟩
        all_goals
          cases ov
          · by_cases m1 : 922337203685477580 < mag
            · go_wp2
              go_round
              case rel => exact ⟨j + 1, mag, true, sg + 1, by omega, by omega, by go_num, rfl, rfl, by go_num, hm0, hm1, by omega, by rw [HP.out]; exact HI.out.rise _ HB.out.1 HZ.out (Or.inl m1)⟩
              case measure => simp [intOf]; omega
            · by_cases m2 : mag < 922337203685477580
              · clear m1
                go_wp2
                go_round
                case rel => exact ⟨j + 1, mag * 10 + ((s[j].toNat : Int) - 48), false, sg + 1, by omega, by omega, by go_num, rfl, rfl, by go_num, by omega, by omega, by omega, by rw [HP.out]; exact HI.out.next _ HB.out.1 HB.out.2 HZ.out (Or.inl m2)⟩
                case measure => simp [intOf]; omega
              · have m3 : mag = 922337203685477580 := by omega
                clear m1 m2
                subst m3
                by_cases d8 : 8 < (s[j].toNat : Int) - 48
                · go_wp2
                  go_round
                  case rel => exact ⟨j + 1, 922337203685477580, true, sg + 1, by omega, by omega, by go_num, rfl, rfl, by go_num, hm0, hm1, by omega, by rw [HP.out]; exact HI.out.rise _ HB.out.1 HZ.out (Or.inr ⟨rfl, d8⟩)⟩
                  case measure => simp [intOf]; omega
                · have d8' : (s[j].toNat : Int) - 48 ≤ 8 := by omega
                  clear d8
                  go_wp2
                  go_round
                  case rel => exact ⟨j + 1, 922337203685477580 * 10 + ((s[j].toNat : Int) - 48), false, sg + 1, by omega, by omega, by go_num, rfl, rfl, by go_num, by omega, by omega, by omega, by rw [HP.out]; exact HI.out.next _ HB.out.1 HB.out.2 HZ.out (Or.inr ⟨rfl, d8'⟩)⟩
                  case measure => simp [intOf]; omega
          · go_wp2
            go_round
            case rel => exact ⟨j + 1, mag, true, sg + 1, by omega, by omega, by go_num, rfl, rfl, by go_num, hm0, hm1, by omega, by rw [HP.out]; exact HI.out.stay _ HZ.out⟩
            case measure => simp [intOf]; omega
    · have HI : Hid (MInv ds mag ov sg) := by rw [HDS.out, ← proc_end s 1 j hlt]; exact hI
      clear hI
      by_cases hn : num ds ≤ lim false
      · obtain ⟨e1, e2⟩ := HI.out.small false hn
        obtain ⟨r1, r2⟩ := rd_small false ds HD.out hn
        have HR : Hid (V = mag ∧ Bo = true) := by rw [HV.out.1, HV.out.2, r1, r2, e2]; exact ⟨rfl, rfl⟩
        have hml : mag ≤ 9223372036854775807 := by rw [lim_false] at hn; omega
        clear hn e2 r1 r2
        subst e1
        go_wp2
        go_ret2
        rw [HR.out.1, HR.out.2]
        exact ⟨rfl, rfl⟩
      · have hb := HI.out.big false hn
        by_cases hl : 19 < sg
        · obtain ⟨r1, r2⟩ := rd_long' false ds (by rw [← HI.out.sig]; exact hl)
          have HR : Hid (V = 0 ∧ Bo = false) := by rw [HV.out.1, HV.out.2, r1, r2]; exact ⟨rfl, rfl⟩
          clear hn r1 r2
          rcases hb with rfl | ⟨rfl, _, rfl⟩
          all_goals
            go_wp2
            go_ret2
            rw [HR.out.1, HR.out.2]
            exact ⟨rfl, rfl⟩
        · obtain ⟨r1, r2⟩ := rd_over false ds HD.out hn (by rw [← HI.out.sig]; exact hl)
          have HR : Hid (V = 9223372036854775807 ∧ Bo = false) := by rw [HV.out.1, HV.out.2, r1, r2]; exact ⟨rfl, rfl⟩
          clear hn r1 r2
          rcases hb with rfl | ⟨rfl, _, rfl⟩
          all_goals
            go_wp2
            go_ret2
            rw [HR.out.1, HR.out.2]
            exact ⟨rfl, rfl⟩
set_option maxHeartbeats 800000 in
theorem model_minus (s : ByteArray) (w : World) (hs : s.size ≤ 1048576) (h0 : 0 < s.size) (hb0 : s[0] = 45) (hd : ∀ c ∈ s.data.toList.drop 1, IsDig c) :
    Calls Tryd.prog 9 #[.string s] w fun e w' => e = .returned (.tuple #[.int .i64 (rdV true (s.data.toList.drop 1)), .bool (rdB true (s.data.toList.drop 1))]) ∧ w' = w := by
  have h45 : ((s[0].toNat : Int) == 45) = true := by rw [hb0]; rfl
  have HD : Hid (∀ c ∈ s.data.toList.drop 1, IsDig c) := hd
  clear hd hb0
  obtain ⟨ds, hds⟩ : ∃ ds, ds = s.data.toList.drop 1 := ⟨_, rfl⟩
  rw [← hds] at HD ⊢
  have HDS : Hid (ds = s.data.toList.drop 1) := hds
  clear hds
  obtain ⟨V, hV⟩ : ∃ V, V = rdV true ds := ⟨_, rfl⟩
  obtain ⟨Bo, hBo⟩ : ∃ Bo, Bo = rdB true ds := ⟨_, rfl⟩
  rw [← hV, ← hBo]
  have HV : Hid (V = rdV true ds ∧ Bo = rdB true ds) := ⟨hV, hBo⟩
  clear hV hBo
  go_enter Tryd.func9, Tryd.ntmps9
  go_wp2
  go_loop [5, 6, 7, 8] (fun i m o g => ∃ (j : Nat) (mag : Int) (ov : Bool) (sg : Nat), 1 ≤ j ∧ j ≤ s.size ∧ i = .int .i64 j ∧ m = .int .u64 mag ∧ o = .bool ov ∧ g = .int .i64 sg ∧ 0 ≤ mag ∧ mag ≤ 9223372036854775808 ∧ sg ≤ j ∧ MInv (proc s 1 j) mag ov sg) (fun i _ _ _ => s.size - (intOf i).toNat)
  case atStart => exact ⟨1, 0, false, 0, by omega, by omega, rfl, rfl, rfl, rfl, by omega, by omega, by omega, by rw [proc_zero]; exact MInv.nil⟩
  case round =>
    obtain ⟨j, mag, ov, sg, hj1, hj, rfl, rfl, rfl, rfl, hm0, hm1, hsg, hI⟩ := hrel
    by_cases hlt : j < s.size
    · have hdj : IsDig s[j] := dig_at s 1 j hj1 hlt (by rw [← HDS.out]; exact HD.out)
      unfold IsDig at hdj
      obtain ⟨b1, b2⟩ := hdj
      have c1 : (48 : Int) ≤ (s[j].toNat : Int) := by omega
      have c2 : (s[j].toNat : Int) ≤ 57 := by omega
      by_cases hz : sg = 0 ∧ (s[j].toNat : Int) = 48
      · obtain ⟨hz1, hz2⟩ := hz
        have HI : Hid (MInv (proc s 1 (j + 1)) mag ov sg) := by rw [proc_succ s 1 j hj1 hlt]; exact hI.zero hz1 _ hz2
        have e1 : ((sg : Int) == 0) = true := by simp; omega
        have e2 : ((s[j].toNat : Int) - 48 == 0) = true := by simp; omega
        clear hz1 hz2 hI b1 b2
        go_wp2
        go_round
        case rel => exact ⟨j + 1, mag, ov, sg, by omega, by omega, by go_num, rfl, rfl, rfl, hm0, hm1, by omega, HI.out⟩
        case measure => simp [intOf]; omega
      · have hg : ((sg : Int) == 0) = false ∨ (((sg : Int) == 0) = true ∧ ((s[j].toNat : Int) - 48 == 0) = false) := by
          by_cases h : sg = 0
          · exact Or.inr ⟨by simp; omega, by simp; omega⟩
          · exact Or.inl (by simp; omega)
        have HP : Hid (proc s 1 (j + 1) = proc s 1 j ++ [s[j]]) := proc_succ s 1 j hj1 hlt
        have HZ : Hid (¬ (sg = 0 ∧ (s[j].toNat : Int) = 48)) := hz
        have HI : Hid (MInv (proc s 1 j) mag ov sg) := hI
        have HB : Hid (48 ≤ s[j].toNat ∧ s[j].toNat ≤ 57) := ⟨b1, b2⟩
        clear hz hI b1 b2
        rcases hg with e1 | ⟨e1, e2⟩
        all_goals
          cases ov
          · by_cases m1 : 922337203685477580 < mag
            · go_wp2
              go_round
              case rel => exact ⟨j + 1, mag, true, sg + 1, by omega, by omega, by go_num, rfl, rfl, by go_num, hm0, hm1, by omega, by rw [HP.out]; exact HI.out.rise _ HB.out.1 HZ.out (Or.inl m1)⟩
              case measure => simp [intOf]; omega
            · by_cases m2 : mag < 922337203685477580
              · clear m1
                go_wp2
                go_round
                case rel => exact ⟨j + 1, mag * 10 + ((s[j].toNat : Int) - 48), false, sg + 1, by omega, by omega, by go_num, rfl, rfl, by go_num, by omega, by omega, by omega, by rw [HP.out]; exact HI.out.next _ HB.out.1 HB.out.2 HZ.out (Or.inl m2)⟩
                case measure => simp [intOf]; omega
              · have m3 : mag = 922337203685477580 := by omega
                clear m1 m2
                subst m3
                by_cases d8 : 8 < (s[j].toNat : Int) - 48
                · go_wp2
                  go_round
                  case rel => exact ⟨j + 1, 922337203685477580, true, sg + 1, by omega, by omega, by go_num, rfl, rfl, by go_num, hm0, hm1, by omega, by rw [HP.out]; exact HI.out.rise _ HB.out.1 HZ.out (Or.inr ⟨rfl, d8⟩)⟩
                  case measure => simp [intOf]; omega
                · have d8' : (s[j].toNat : Int) - 48 ≤ 8 := by omega
                  clear d8
                  go_wp2
                  go_round
                  case rel => exact ⟨j + 1, 922337203685477580 * 10 + ((s[j].toNat : Int) - 48), false, sg + 1, by omega, by omega, by go_num, rfl, rfl, by go_num, by omega, by omega, by omega, by rw [HP.out]; exact HI.out.next _ HB.out.1 HB.out.2 HZ.out (Or.inr ⟨rfl, d8'⟩)⟩
                  case measure => simp [intOf]; omega
          · go_wp2
            go_round
            case rel => exact ⟨j + 1, mag, true, sg + 1, by omega, by omega, by go_num, rfl, rfl, by go_num, hm0, hm1, by omega, by rw [HP.out]; exact HI.out.stay _ HZ.out⟩
            case measure => simp [intOf]; omega
    · have HI : Hid (MInv ds mag ov sg) := by rw [HDS.out, ← proc_end s 1 j hlt]; exact hI
      clear hI
      by_cases hn : num ds ≤ lim true
      · obtain ⟨e1, e2⟩ := HI.out.small true hn
        obtain ⟨r1, r2⟩ := rd_small true ds HD.out hn
        have HR : Hid (V = -mag ∧ Bo = true) := by rw [HV.out.1, HV.out.2, r1, r2, e2]; exact ⟨rfl, rfl⟩
        have hml : mag ≤ 9223372036854775808 := by rw [lim_true] at hn; omega
        clear hn e2 r1 r2
        subst e1
        go_wp2
        go_ret2
        rw [HR.out.1, HR.out.2]
        exact ⟨ret_two (neg_wrap mag hm0 hml), rfl⟩
      · have hb := HI.out.big true hn
        by_cases hl : 19 < sg
        · obtain ⟨r1, r2⟩ := rd_long' true ds (by rw [← HI.out.sig]; exact hl)
          have HR : Hid (V = 0 ∧ Bo = false) := by rw [HV.out.1, HV.out.2, r1, r2]; exact ⟨rfl, rfl⟩
          clear hn r1 r2
          rcases hb with rfl | ⟨_, h, _⟩
          rotate_left
          · cases h
          all_goals
            go_wp2
            go_ret2
            rw [HR.out.1, HR.out.2]
            exact ⟨rfl, rfl⟩
        · obtain ⟨r1, r2⟩ := rd_over true ds HD.out hn (by rw [← HI.out.sig]; exact hl)
          have HR : Hid (V = -9223372036854775808 ∧ Bo = false) := by rw [HV.out.1, HV.out.2, r1, r2]; exact ⟨rfl, rfl⟩
          clear hn r1 r2
          rcases hb with rfl | ⟨_, h, _⟩
          rotate_left
          · cases h
          all_goals
            go_wp2
            go_ret2
            rw [HR.out.1, HR.out.2]
            exact ⟨rfl, rfl⟩

/-- The saturating model at every text of the form: what readExponent answers. -/
theorem model_any (s : ByteArray) (neg : Bool) (ds : List UInt8) (hs : s.size ≤ 1048576) (hl : Signed neg s.data.toList ds) (hne : ds ≠ []) (hd : ∀ c ∈ ds, IsDig c) (w : World) :
    Calls Tryd.prog 9 #[.string s] w fun e w' => e = .returned (.tuple #[.int .i64 (rdV neg ds), .bool (rdB neg ds)]) ∧ w' = w := by
  have e0 : s.data.toList.length = s.size := Array.length_toList
  have hp := List.length_pos_iff.2 hne
  have head : ∀ b : UInt8, s.data.toList = b :: ds → ∃ h : 0 < s.size, s[0] = b := fun b hb => by
    have h : 0 < s.size := by rw [hb] at e0; simp at e0; omega
    refine ⟨h, ?_⟩
    rw [← byte_at s 0 h]
    have : s.data.toList[0]? = some b := by rw [hb]; rfl
    rw [List.getElem?_eq_getElem (by omega)] at this
    exact Option.some.inj this
  rcases hl with ⟨hl, rfl⟩ | ⟨hl, rfl⟩ | ⟨hl, rfl⟩
  · have e : s.data.toList.drop 0 = ds := hl
    rw [← e] at hd ⊢
    exact model_plain s w hs (by rw [hl] at e0; omega) hd
  · have e : s.data.toList.drop 1 = ds := by rw [hl]; rfl
    obtain ⟨h, hb⟩ := head 43 hl
    rw [← e] at hd ⊢
    exact model_plus s w hs h hb hd
  · have e : s.data.toList.drop 1 = ds := by rw [hl]; rfl
    obtain ⟨h, hb⟩ := head 45 hl
    rw [← e] at hd ⊢
    exact model_minus s w hs h hb hd
end Go.Proofs.Qxb6602354aDoor
