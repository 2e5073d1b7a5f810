import Derived.Test.Qxb6000399aZeros
import Derived.Deep.DeepCutAuto
import Derived.Deep.CutBlock
import Derived.Lib.IndexBytes
namespace Go.Proofs.Qxb6000399a
open Go.RowKit
set_option linter.unusedVariables false
set_option linter.unusedSimpArgs false

/-- The box of the receiver. -/
def Box (w : World) (b : Nat) (s : ByteArray) (exp scale : Int) (neg : Bool) : Prop :=
  w.cell? ⟨b, 0, none⟩ = some (.string s) ∧ w.cell? ⟨b, 1, none⟩ = some (.int .i32 exp) ∧ w.cell? ⟨b, 2, none⟩ = some (.int .i32 scale) ∧ w.cell? ⟨b, 3, none⟩ = some (.bool neg)

theorem Box.later {w wc : World} {s : ByteArray} {exp scale : Int} {neg : Bool} (h : Below (w.heap.size + 1) (w.alloc (.cells #[.string s, .int .i32 exp, .int .i32 scale, .bool neg] 25)) wc) : Box wc w.heap.size s exp scale neg := by
  refine ⟨?_, ?_, ?_, ?_⟩ <;> rw [h.cell (by simp), World.cell?_alloc_at _ _ _ _ rfl] <;> rfl
theorem one_new' (w : World) (n : Nat) (c : UInt8) (v : Int) (hv : v = (c.toNat : Int)) (hn : n = w.heap.size) : ∀ j u, (Lib.byteCells [c])[j]? = some u → (w.alloc (.cells #[.int .u8 v] 5)).cell? ((⟨n, 0, none⟩ : Addr).add j) = some u := by
  subst hn; exact one_new w c v hv

/-- What is owned stays owned while every old block stands. -/
theorem Owns.stay {w w2 : World} {B : Nat} {v : Value} {K : List UInt8} (h : Owns w B v K) (hb : Below w.heap.size w w2) : Owns w2 B v K := by
  obtain ⟨h1, h2⟩ := h
  refine ⟨h1, ?_⟩
  rcases h2 with h2 | ⟨g, cap, cur, hv, hB, hg, h3, h4, h5, h6⟩
  · exact Or.inl h2
  · refine Or.inr ⟨g, cap, cur, hv, hB, ?_, h3, h4, h5, h6⟩
    rw [hb.block g ?_]
    · exact hg
    · rcases Nat.lt_or_ge g w.heap.size with h | h
      · exact h
      · rw [Array.getElem?_eq_none h] at hg; cases hg
theorem strCells_bytes (s : ByteArray) : Lib.strCells s = Lib.byteCells s.data.toList := rfl
/-- Behind the append of a string. -/
theorem Owns.str {w1 : World} {B : Nat} {v1 : Value} {K : List UInt8} {t : ByteArray} (X : List UInt8) (hX : t.data.toList = X) (h : w1.ownsRow B 5 1 v1 (K.length + t.size) (Lib.byteCells K ++ Lib.strCells t)) : Owns w1 B v1 (K ++ X) := by
  rw [strCells_bytes, hX] at h
  exact Owns.next X (by rw [← hX, Array.length_toList]; rfl) h
theorem wholeOf_bd (l : List UInt8) (exp : Int) (hl : l.length ≤ 65536) (h0 : -65536 ≤ exp) (h1 : exp ≤ 65536) : -65536 ≤ wholeOf l exp ∧ wholeOf l exp ≤ 131072 := by
  unfold wholeOf; split <;> omega

/-- appendZeros, its count an int. -/
theorem zeros_int (B : Nat) (z : Int) (v : Value) (K : List UInt8) (w : World) (hB : B ≤ w.heap.size) (hz0 : 0 ≤ z) (hK : (K.length : Int) + z ≤ 1000000) (hown : Owns w B v K) :
    Calls Try.prog 27 #[v, .int .i64 z] w fun e w' => (∃ v', e = .returned v' ∧ Owns w' B v' (K ++ List.replicate z.toNat 48)) ∧ Below B w w' := by
  have h := zeros_any B z.toNat v K w hB (by omega) hown
  rw [Int.toNat_of_nonneg hz0] at h
  exact h

set_option maxHeartbeats 1600000 in
theorem append_any (s : ByteArray) (exp scale : Int) (neg : Bool) (w : World) (hs : s.size ≤ 65536) (hB : Bounded s.data.toList exp scale neg) :
    Calls Try.prog 12 #[.agg #[.string s, .int .i32 exp, .int .i32 scale, .bool neg], .slice none 0 0] w fun e w' => (∃ v', e = .returned v' ∧ Owns w' (w.heap.size + 1) v' (textP s.data.toList exp scale neg)) ∧ Below w.heap.size w w' := by
  obtain ⟨i0, hi, hz0, hz1, hz2⟩ := info_parts info5
  have HB : Hid (Bounded s.data.toList exp scale neg) := hB
  have e0 := hB.lo
  have e1 := hB.hi
  have s1 := hB.sc
  have s0 := hB.shape.scale0
  clear hB
  go_enter Try.func12, Try.ntmps12
  go_upto_if 9 with fail
  go_cut [1] (fun v wr => Owns wr (w.heap.size + 1) v (sgnL neg) ∧ Below (w.heap.size + 1) (w.alloc (.cells #[.string s, .int .i32 exp, .int .i32 scale, .bool neg] 25)) wr)
  case first =>
    cases neg
    · go_wp2
      go_meet
      case rel => exact ⟨World.ownsRow_nil _ _ _ _, Below.refl _ _⟩
    · have hO : (w.alloc (.cells #[.string s, .int .i32 exp, .int .i32 scale, .bool true] 25)).ownsRow (w.heap.size + 1) 5 1 (.slice none 0 0) ([] : List UInt8).length (Lib.byteCells []) := World.ownsRow_nil _ _ _ _
      have hsz : w.heap.size + 1 ≤ (w.alloc (.cells #[.string s, .int .i32 exp, .int .i32 scale, .bool true] 25)).heap.size := by simp
      go_wp2_with (at_builtin; refine wpList_append_own _ rfl (.tmp 10) (.tmp 11) 23 rfl (w.heap.size + 1) 5 i0 (.int .u8 0) 1 1 Try.underlying23 hi hz0 hz1 hz2 rfl (by decide) _ 0 (Lib.byteCells []) rfl (hO.alloc _) ⟨w.heap.size + 1, 0, none⟩ 1 1 (Lib.byteCells [45]) rfl rfl (one_new' _ _ 45 45 rfl (by simp)) (one_bytes _) (by unfold maxLen; omega) (by omega) (le_alloc hsz _) ?_; intro v1 w1 hown1 hgrow1 hnil1; refine Hid.out ?_)
      refine (show ∀ {p : Prop}, p → Hid p from fun h => h) ?_
      have ho1 : Owns w1 (w.heap.size + 1) v1 (sgnL true) := Owns.next (K := []) [45] rfl hown1
      have hb1 : Below (w.heap.size + 1) (w.alloc (.cells #[.string s, .int .i32 exp, .int .i32 scale, .bool true] 25)) w1 := ((Below.refl _ _).alloc hsz _).grown hgrow1 (le_alloc hsz _) (by intro k hk; cases hk)
      clear hown1 hgrow1 hnil1 hO
      go_wp2
      go_meet
      case rel => exact ⟨ho1, hb1⟩
  case rest =>
    obtain ⟨ho, hb⟩ := hcut
    have hwc : w.heap.size + 1 ≤ wc.heap.size := by have := hb.size; simpa using this
    have hbox : Box wc w.heap.size s exp scale neg := Box.later hb
    obtain ⟨x0, x1, x2, x3⟩ := hbox
    have h26 := intDigits_any s exp scale neg wc (by omega) e0 e1
    have hls : s.data.toList.length = s.size := Array.length_toList
    have hwb := wholeOf_bd s.data.toList exp (by omega) e0 e1
    obtain ⟨wh, hwh⟩ : ∃ wh, wh = wholeOf s.data.toList exp := ⟨_, rfl⟩
    rw [← hwh] at h26 hwb
    obtain ⟨hw0, hw1⟩ := hwb
    have HWH : Hid (wh = wholeOf s.data.toList exp) := hwh
    have HLS : Hid (s.data.toList.length = s.size) := hls
    clear hwh hls
    go_upto_block 0 with (go_at_call 26; refine h26.mono ?_; rintro e w2 ⟨rfl, hb2⟩)
    have ho2 := ho.stay hb2
    have hb3 := hb.trans (hb2.mono hwc)
    have hw2 : w.heap.size + 1 ≤ w2.heap.size := Nat.le_trans hwc hb2.size
    obtain ⟨y0, y1, y2, y3⟩ := Box.later hb3
    clear h26 ho hb hb2 x0 x1 x2 x3
    go_cut [1] (fun v wr => Owns wr (w.heap.size + 1) v (sgnL neg ++ intP s.data.toList wh) ∧ Below (w.heap.size + 1) (w.alloc (.cells #[.string s, .int .i32 exp, .int .i32 scale, .bool neg] 25)) wr)
    case first =>
      have hsl := sgnL_len neg
      obtain ⟨K, hK⟩ : ∃ K, K = sgnL neg := ⟨_, rfl⟩
      rw [← hK] at hsl ho2
      have HK : Hid (K = sgnL neg) := hK
      clear hK
      have hO : w2.ownsRow (w.heap.size + 1) 5 1 _ K.length (Lib.byteCells K) := ho2
      by_cases c1 : wh ≤ 0
      · have HI : Hid (intP s.data.toList wh = [48]) := by unfold intP; rw [if_pos c1]; rfl
        go_wp2_with (at_builtin; refine wpList_append_own _ rfl (.tmp 29) (.tmp 30) 23 rfl (w.heap.size + 1) 5 i0 (.int .u8 0) 1 1 Try.underlying23 hi hz0 hz1 hz2 rfl (by decide) _ K.length (Lib.byteCells K) rfl (hO.alloc _) ⟨w2.heap.size, 0, none⟩ 1 1 (Lib.byteCells [48]) rfl rfl (one_new w2 48 48 rfl) (one_bytes _) (by unfold maxLen; omega) (by omega) (le_alloc hw2 _) ?_; intro v1 w3 hown1 hgrow1 hnil1; refine Hid.out ?_)
        refine (show ∀ {p : Prop}, p → Hid p from fun h => h) ?_
        have ho3 : Owns w3 (w.heap.size + 1) v1 (K ++ [48]) := Owns.next [48] rfl hown1
        have hb4 := (hb3.alloc hw2 _).grown hgrow1 (le_alloc hw2 _) (own_ge ho2)
        clear hown1 hgrow1 hnil1 hO
        go_wp2
        go_meet
        case rel => exact ⟨by rw [HI.out, ← HK.out]; exact ho3, hb4⟩
      · have c1' : 0 < wh := by omega
        clear c1
        by_cases c2 : wh ≤ s.size
        · have HI : Hid (intP s.data.toList wh = s.data.toList.take wh.toNat) := by
            unfold intP; rw [if_neg (by omega), if_pos (by rw [HLS.out]; exact c2)]; rfl
          have HT : Hid ((s.extract 0 wh.toNat).data.toList = s.data.toList.take wh.toNat) := by
            show _ = _
            rw [Lib.extract_data, List.drop_zero, Nat.sub_zero]
          have hts : (s.extract 0 wh.toNat).size ≤ 65536 := by
            rw [Lib.size_eq, HT.out, List.length_take, HLS.out]; omega
          have HZ1 : Hid (K.length + (s.extract 0 wh.toNat).size ≤ maxLen) := by show _ ≤ _; unfold maxLen; omega
          have HZ2 : Hid (K.length + (s.extract 0 wh.toNat).size ≤ 140737488355328) := by show _ ≤ _; omega
          clear hts
          go_wp2_with (at_builtin; refine Lib.wpList_append_own_string _ rfl (.tmp 38) (.tmp 42) 23 9 rfl (w.heap.size + 1) 5 i0 Try.underlying23 Try.underlying9 hi hz0 hz1 hz2 _ K.length (Lib.byteCells K) rfl hO (s.extract 0 wh.toNat) rfl HZ1.out HZ2.out hw2 ?_; intro v1 w3 hown1 hgrow1 hnil1; refine Hid.out ?_)
          refine (show ∀ {p : Prop}, p → Hid p from fun h => h) ?_
          have ho3 : Owns w3 (w.heap.size + 1) v1 (K ++ s.data.toList.take wh.toNat) := Owns.str _ HT.out hown1
          have hb4 := hb3.grown hgrow1 hw2 (own_ge ho2)
          clear hown1 hgrow1 hnil1 hO
          go_wp2
          go_meet
          case rel => exact ⟨by rw [HI.out, ← HK.out]; exact ho3, hb4⟩
        · have c2' : (s.size : Int) < wh := by omega
          clear c2
          have HI : Hid (intP s.data.toList wh = s.data.toList ++ List.replicate (wh - s.size).toNat 48) := by
            unfold intP; rw [if_neg (by omega), if_neg (by rw [HLS.out]; omega), HLS.out]; rfl
          go_wp2_with (at_builtin; refine Lib.wpList_append_own_string _ rfl (.tmp 15) (.tmp 17) 23 9 rfl (w.heap.size + 1) 5 i0 Try.underlying23 Try.underlying9 hi hz0 hz1 hz2 _ K.length (Lib.byteCells K) rfl hO s rfl (by unfold maxLen; omega) (by omega) hw2 ?_; intro v1 w3 hown1 hgrow1 hnil1; refine Hid.out ?_)
          refine (show ∀ {p : Prop}, p → Hid p from fun h => h) ?_
          have ho3 : Owns w3 (w.heap.size + 1) v1 (K ++ s.data.toList) := Owns.str _ rfl hown1
          have hb4 := hb3.grown hgrow1 hw2 (own_ge ho2)
          have hw3 : w.heap.size + 1 ≤ w3.heap.size := by have := hb4.size; simpa using this
          obtain ⟨z0, z1, z2, z3⟩ := Box.later hb4
          have h27 := zeros_int (w.heap.size + 1) (wh - s.size) v1 (K ++ s.data.toList) w3 hw3 (by omega) (by rw [List.length_append, HLS.out]; omega) ho3
          clear hown1 hgrow1 hnil1 hO ho2 ho3 y0 y1 y2 y3
          go_wp2_with (go_at_call 27; refine h27.mono ?_; rintro e w4 ⟨⟨v2, rfl, ho4⟩, hb5⟩)
          go_meet
          case rel => exact ⟨by rw [HI.out, ← HK.out, ← List.append_assoc]; exact ho4, hb4.trans hb5⟩
    case rest =>
      obtain ⟨ho, hb⟩ := hcut
      clear ho2 hb3 hw2 y0 y1 y2 y3 hwc
      have hwc : w.heap.size + 1 ≤ wc.heap.size := by have := hb.size; simpa using this
      obtain ⟨y0, y1, y2, y3⟩ := Box.later hb
      have hfull : Below w.heap.size w wc := ((Below.refl _ _).alloc (Nat.le_refl _) _).trans (hb.mono (by omega))
      have hKl : (sgnL neg ++ intP s.data.toList wh).length ≤ 200001 := by
        have h1 := sgnL_len neg
        have h2 := intP_len s.data.toList wh (by omega) (by rw [HLS.out]; exact hs)
        rw [List.length_append]; omega
      obtain ⟨K, hK⟩ : ∃ K, K = sgnL neg ++ intP s.data.toList wh := ⟨_, rfl⟩
      rw [← hK] at hKl ho
      have HK : Hid (K = sgnL neg ++ intP s.data.toList wh) := hK
      clear hK
      have HT : Hid (textP s.data.toList exp scale neg = K ++ tailP scale (fracP s.data.toList exp scale wh)) := by
        show _ = _; unfold textP; rw [← HWH.out, ← HK.out]
      have hO : wc.ownsRow (w.heap.size + 1) 5 1 _ K.length (Lib.byteCells K) := ho
      by_cases c0 : scale = 0
      · have c0' : (scale == 0) = true := by simpa using c0
        have HTT : Hid (textP s.data.toList exp scale neg = K) := by
          show _ = _; rw [HT.out]; unfold tailP; rw [if_pos c0, List.append_nil]
        clear c0 hO
        go_wp2
        go_ret
        exact ⟨⟨_, rfl, by rw [HTT.out]; exact ho⟩, hfull⟩
      · have c0' : (scale == 0) = false := by simpa using c0
        have HTT : Hid (textP s.data.toList exp scale neg = (K ++ [46]) ++ fracP s.data.toList exp scale wh) := by
          show _ = _; rw [HT.out]; unfold tailP; rw [if_neg c0, List.append_assoc]; rfl
        clear c0 HT
        have hexp : 0 ≤ exp ∨ exp < 0 := by omega
        by_cases c1 : exp < 0
        · have hshown := HB.out.shape.shown
          have hwe : wh = (s.size : Int) + exp := by
            rw [HWH.out]; unfold wholeOf
            rw [if_neg (fun h => by have := (HB.out.shape.zero h).2; omega), HLS.out]
          have HWE : Hid (wh = (s.size : Int) + exp) := hwe
          clear hwe
          by_cases c2 : wh < 0
          · have hL : s.size ≤ 65536 := hs
            go_wp2_with (at_builtin; refine wpList_append_own _ rfl (.tmp 48) (.tmp 49) 23 rfl (w.heap.size + 1) 5 i0 (.int .u8 0) 1 1 Try.underlying23 hi hz0 hz1 hz2 rfl (by decide) _ K.length (Lib.byteCells K) rfl (hO.alloc _) ⟨wc.heap.size, 0, none⟩ 1 1 (Lib.byteCells [46]) rfl rfl (one_new wc 46 46 rfl) (one_bytes _) (by unfold maxLen; omega) (by omega) (le_alloc hwc _) ?_; intro v1 w3 hown1 hgrow1 hnil1; refine Hid.out ?_)
            refine (show ∀ {p : Prop}, p → Hid p from fun h => h) ?_
            have ho3 : Owns w3 (w.heap.size + 1) v1 (K ++ [46]) := Owns.next [46] rfl hown1
            have hb4 := (hb.alloc hwc _).grown hgrow1 (le_alloc hwc _) (own_ge ho)
            have hw3 : w.heap.size + 1 ≤ w3.heap.size := by have := hb4.size; simpa using this
            have hf4 : Below w.heap.size w w3 := ((Below.refl _ _).alloc (Nat.le_refl _) _).trans (hb4.mono (by omega))
            obtain ⟨z0, z1, z2, z3⟩ := Box.later hb4
            have h27 := zeros_int (w.heap.size + 1) (-wh) v1 (K ++ [46]) w3 hw3 (by omega) (by rw [List.length_append, List.length_singleton]; omega) ho3
            clear hown1 hgrow1 hnil1 hO ho ho3 y0 y1 y2 y3
            go_wp2_with (go_at_call 27; refine h27.mono ?_; rintro e w4 ⟨⟨v2, rfl, ho4⟩, hb5⟩; refine Hid.out ?_)
            refine (show ∀ {p : Prop}, p → Hid p from fun h => h) ?_
            have hb6 := hb4.trans hb5
            have hw4 : w.heap.size + 1 ≤ w4.heap.size := by have := hb6.size; simpa using this
            obtain ⟨x0, x1, x2, x3⟩ := Box.later hb6
            clear z0 z1 z2 z3 h27
            have hl4 : (K ++ [46] ++ List.replicate (-wh).toNat 48).length ≤ 300000 := by rw [List.length_append, List.length_append, List.length_replicate, List.length_singleton]; omega
            obtain ⟨K4, hK4⟩ : ∃ K4, K4 = K ++ [46] ++ List.replicate (-wh).toNat 48 := ⟨_, rfl⟩
            rw [← hK4] at ho4 hl4
            have HK4 : Hid (K4 = K ++ [46] ++ List.replicate (-wh).toNat 48) := hK4
            clear hK4
            have hO4 : w4.ownsRow (w.heap.size + 1) 5 1 v2 K4.length (Lib.byteCells K4) := ho4
            go_wp2_with (at_builtin; refine Lib.wpList_append_own_string _ rfl (.tmp 67) (.tmp 68) 23 9 rfl (w.heap.size + 1) 5 i0 Try.underlying23 Try.underlying9 hi hz0 hz1 hz2 _ K4.length (Lib.byteCells K4) rfl hO4 s rfl (by unfold maxLen; omega) (by omega) hw4 ?_; intro v5 w5 hown5 hgrow5 hnil5; refine Hid.out ?_)
            refine (show ∀ {p : Prop}, p → Hid p from fun h => h) ?_
            have ho5 : Owns w5 (w.heap.size + 1) v5 (K4 ++ s.data.toList) := Owns.str _ rfl hown5
            have hb7 := hb6.grown hgrow5 hw4 (own_ge ho4)
            have hw5 : w.heap.size + 1 ≤ w5.heap.size := by have := hb7.size; simpa using this
            have hf7 : Below w.heap.size w w5 := ((Below.refl _ _).alloc (Nat.le_refl _) _).trans (hb7.mono (by omega))
            obtain ⟨z0, z1, z2, z3⟩ := Box.later hb7
            clear hown5 hgrow5 hnil5 hO4 ho4 x0 x1 x2 x3
            have hz : scale - (-wh + (s.size : Int)) = scale + exp := by have := HWE.out; omega
            have h27 := zeros_int (w.heap.size + 1) (scale - (-wh + (s.size : Int))) v5 (K4 ++ s.data.toList) w5 hw5 (by omega) (by rw [List.length_append, HLS.out]; omega) ho5
            have HZ : Hid (scale - (-wh + (s.size : Int)) = scale + exp) := hz
            have HF : Hid (fracP s.data.toList exp scale wh = (List.replicate (-wh).toNat 48 ++ s.data.toList) ++ List.replicate (scale + exp).toNat 48) := by unfold fracP; rw [if_pos c1, if_pos c2]; rfl
            clear hz ho5
            go_wp2_with (go_at_call 27; refine h27.mono ?_; rintro e w6 ⟨⟨v6, rfl, ho6⟩, hb8⟩)
            go_ret
            refine ⟨⟨_, rfl, ?_⟩, hf7.trans (hb8.mono (by omega))⟩
            rw [HTT.out, HF.out]
            rw [HZ.out, HK4.out] at ho6
            have e : K ++ [46] ++ (List.replicate (-wh).toNat 48 ++ s.data.toList ++ List.replicate (scale + exp).toNat 48) = K ++ [46] ++ List.replicate (-wh).toNat 48 ++ s.data.toList ++ List.replicate (scale + exp).toNat 48 := by simp only [List.append_assoc]
            rw [e]; exact ho6
          · have c2' : 0 ≤ wh := by omega
            have hwle : wh ≤ (s.size : Int) := by have := HWE.out; omega
            clear c2
            go_wp2_with (at_builtin; refine wpList_append_own _ rfl (.tmp 48) (.tmp 49) 23 rfl (w.heap.size + 1) 5 i0 (.int .u8 0) 1 1 Try.underlying23 hi hz0 hz1 hz2 rfl (by decide) _ K.length (Lib.byteCells K) rfl (hO.alloc _) ⟨wc.heap.size, 0, none⟩ 1 1 (Lib.byteCells [46]) rfl rfl (one_new wc 46 46 rfl) (one_bytes _) (by unfold maxLen; omega) (by omega) (le_alloc hwc _) ?_; intro v1 w3 hown1 hgrow1 hnil1; refine Hid.out ?_)
            refine (show ∀ {p : Prop}, p → Hid p from fun h => h) ?_
            have ho3 : Owns w3 (w.heap.size + 1) v1 (K ++ [46]) := Owns.next [46] rfl hown1
            have hb4 := (hb.alloc hwc _).grown hgrow1 (le_alloc hwc _) (own_ge ho)
            have hw3 : w.heap.size + 1 ≤ w3.heap.size := by have := hb4.size; simpa using this
            have hf4 : Below w.heap.size w w3 := ((Below.refl _ _).alloc (Nat.le_refl _) _).trans (hb4.mono (by omega))
            obtain ⟨z0, z1, z2, z3⟩ := Box.later hb4
            have hO3 : w3.ownsRow (w.heap.size + 1) 5 1 v1 (K ++ [46]).length (Lib.byteCells (K ++ [46])) := ho3
            have hl3 : (K ++ [46]).length ≤ 200002 := by rw [List.length_append, List.length_singleton]; omega
            obtain ⟨K3, hK3⟩ : ∃ K3, K3 = K ++ [46] := ⟨_, rfl⟩
            rw [← hK3] at ho3 hO3 hl3
            have HK3 : Hid (K3 = K ++ [46]) := hK3
            have HX : Hid ((s.extract wh.toNat s.size).data.toList = s.data.toList.drop wh.toNat) := Lib.extract_to_end s _
            have hxs : (s.extract wh.toNat s.size).size ≤ 65536 := by rw [Lib.size_eq, HX.out, List.length_drop, HLS.out]; omega
            have HZ1 : Hid (K3.length + (s.extract wh.toNat s.size).size ≤ maxLen) := by show _ ≤ _; unfold maxLen; omega
            have HZ2 : Hid (K3.length + (s.extract wh.toNat s.size).size ≤ 140737488355328) := by show _ ≤ _; omega
            clear hown1 hgrow1 hnil1 hO ho y0 y1 y2 y3 hK3 hxs
            go_wp2_with (at_builtin; refine Lib.wpList_append_own_string _ rfl (.tmp 67) (.tmp 68) 23 9 rfl (w.heap.size + 1) 5 i0 Try.underlying23 Try.underlying9 hi hz0 hz1 hz2 _ K3.length (Lib.byteCells K3) rfl hO3 (s.extract wh.toNat s.size) rfl HZ1.out HZ2.out hw3 ?_; intro v5 w5 hown5 hgrow5 hnil5; refine Hid.out ?_)
            refine (show ∀ {p : Prop}, p → Hid p from fun h => h) ?_
            have ho5 : Owns w5 (w.heap.size + 1) v5 (K3 ++ s.data.toList.drop wh.toNat) := Owns.str _ HX.out hown5
            have hb7 := hb4.grown hgrow5 hw3 (own_ge ho3)
            have hw5 : w.heap.size + 1 ≤ w5.heap.size := by have := hb7.size; simpa using this
            have hf7 : Below w.heap.size w w5 := ((Below.refl _ _).alloc (Nat.le_refl _) _).trans (hb7.mono (by omega))
            clear z0 z1 z2 z3
            obtain ⟨z0, z1, z2, z3⟩ := Box.later hb7
            clear hown5 hgrow5 hnil5 hO3 ho3
            have hz : scale - ((s.size - wh.toNat : Nat) : Int) = scale + exp := by have := HWE.out; omega
            have h27 := zeros_int (w.heap.size + 1) (scale - ((s.size - wh.toNat : Nat) : Int)) v5 (K3 ++ s.data.toList.drop wh.toNat) w5 hw5 (by omega) (by rw [List.length_append, List.length_drop, HLS.out]; omega) ho5
            have HZ : Hid (scale - ((s.size - wh.toNat : Nat) : Int) = scale + exp) := hz
            have HF : Hid (fracP s.data.toList exp scale wh = s.data.toList.drop wh.toNat ++ List.replicate (scale + exp).toNat 48) := by unfold fracP; rw [if_pos c1, if_neg (by omega)]; rfl
            clear hz ho5
            go_wp2_with (go_at_call 27; refine h27.mono ?_; rintro e w6 ⟨⟨v6, rfl, ho6⟩, hb8⟩)
            go_ret
            refine ⟨⟨_, rfl, ?_⟩, hf7.trans (hb8.mono (by omega))⟩
            rw [HTT.out, HF.out]
            rw [HZ.out, HK3.out] at ho6
            rw [← List.append_assoc]; exact ho6
        · have HF : Hid (fracP s.data.toList exp scale wh = List.replicate scale.toNat 48) := by unfold fracP; rw [if_neg c1]; rfl
          have c1' : 0 ≤ exp := by omega
          clear c1 hexp
          go_wp2_with (at_builtin; refine wpList_append_own _ rfl (.tmp 48) (.tmp 49) 23 rfl (w.heap.size + 1) 5 i0 (.int .u8 0) 1 1 Try.underlying23 hi hz0 hz1 hz2 rfl (by decide) _ K.length (Lib.byteCells K) rfl (hO.alloc _) ⟨wc.heap.size, 0, none⟩ 1 1 (Lib.byteCells [46]) rfl rfl (one_new wc 46 46 rfl) (one_bytes _) (by unfold maxLen; omega) (by omega) (le_alloc hwc _) ?_; intro v1 w3 hown1 hgrow1 hnil1; refine Hid.out ?_)
          refine (show ∀ {p : Prop}, p → Hid p from fun h => h) ?_
          have ho3 : Owns w3 (w.heap.size + 1) v1 (K ++ [46]) := Owns.next [46] rfl hown1
          have hb4 := (hb.alloc hwc _).grown hgrow1 (le_alloc hwc _) (own_ge ho)
          have hw3 : w.heap.size + 1 ≤ w3.heap.size := by have := hb4.size; simpa using this
          have hf4 : Below w.heap.size w w3 := ((Below.refl _ _).alloc (Nat.le_refl _) _).trans (hb4.mono (by omega))
          obtain ⟨z0, z1, z2, z3⟩ := Box.later hb4
          have h27 := zeros_int (w.heap.size + 1) scale v1 (K ++ [46]) w3 hw3 s0 (by rw [List.length_append, List.length_singleton]; omega) ho3
          clear hown1 hgrow1 hnil1 hO ho ho3 y0 y1 y2 y3
          go_wp2_with (go_at_call 27; refine h27.mono ?_; rintro e w4 ⟨⟨v2, rfl, ho4⟩, hb5⟩)
          go_ret
          exact ⟨⟨_, rfl, by rw [HTT.out, HF.out]; exact ho4⟩, hf4.trans (hb5.mono (by omega))⟩
end Go.Proofs.Qxb6000399a
