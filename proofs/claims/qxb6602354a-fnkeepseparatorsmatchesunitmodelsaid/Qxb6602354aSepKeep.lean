import Derived.Test.Qxb6602354aSepConv
import Derived.Lib.SmallJoins
namespace Go.Proofs.Qxb6602354a
open Go.RowKit
set_option linter.unusedVariables false
set_option linter.unusedSimpArgs false

/-- keepSeparators at a round's head. -/
structure KRel (us : List (List Int)) (zs : List Int) (B p s : Nat) (v : Value) (K : List Int) (w wr : World) : Prop where
  ki : KI us zs p s K
  own : wr.ownsRow B 5 1 v K.length (bcells K)
  nil : v = .slice none 0 0 → K = [] ∧ s = 0
  len : K.length ≤ s
  below : Below B w wr

/-- The relation behind a separator. -/
theorem KRel.sep {us : List (List Int)} {zs : List Int} {B p s : Nat} {v v1 v2 : Value} {K c : List Int} {w wr w1 w2 : World} (R : KRel us zs B p s v K w wr) (hB : B = w.heap.size) (hp : p ≤ zs.length) (hs : s ≤ p)
    (hc : c.length = 3) (hki : KI us zs (p + 6) (p + 6) ((K ++ (zs.take p).drop s) ++ c))
    (o1 : w1.ownsRow B 5 1 v1 (K.length + (p - s)) (bcells K ++ bcells (seg zs s p))) (g1 : wr.grownBy w1 v.ownBlock) (ob : Obj)
    (o2 : w2.ownsRow B 5 1 v2 (K.length + (p - s) + 3) ((bcells K ++ bcells (seg zs s p)) ++ bcells c)) (g2 : (w1.alloc ob).grownBy w2 v1.ownBlock) (n2 : v2 = .slice none 0 0 ↔ v1 = .slice none 0 0 ∧ 3 = 0) :
    KRel us zs B (p + 6) (p + 6) v2 ((K ++ (zs.take p).drop s) ++ c) w w2 := by
  have hl : ((K ++ (zs.take p).drop s) ++ c).length = K.length + (p - s) + 3 := by
    have := seg_len zs s p hp
    unfold seg at this
    rw [List.length_append, List.length_append, this, hc]
  have hb1 : Below B w w1 := R.below.grown g1 (by have := R.below.size; omega) (own_ge R.own)
  refine ⟨hki, ?_, ?_, ?_, ?_⟩
  · rw [hl, bcells_append, bcells_append]; exact o2
  · intro h; have := (n2.1 h).2; omega
  · rw [hl]; have := R.len; omega
  · have hsz := hb1.size
    refine (hb1.alloc (by omega) ob).grown g2 (by simp; omega) (own_ge o1)

set_option maxHeartbeats 800000 in
set_option maxRecDepth 20000 in
theorem keep_any (tb n : Nat) (us : List (List Int)) (zs : List Int) (w : World) (hu : Units us zs) (hn : zs.length = n) (hm : n ≤ 1048576)
    (hbd : ∀ z ∈ zs, 0 ≤ z ∧ z ≤ 255) (hc : RowAt w tb zs) (htb : tb < w.heap.size) :
    Calls Try.prog 23 #[.slice (some ⟨tb, 0, none⟩) n n] w fun e w' => (∃ g ocap, e = .returned (.slice (some ⟨g, 0, none⟩) (kept us).length ocap) ∧ RowAt w' g (kept us)) ∧ Below w.heap.size w w' := by
  obtain ⟨i0, hi, hz0, hz1, hz2⟩ := info_parts info5
  have q22 := eql_nil22
  have HU : Hid (Units us zs) := hu
  have HN : Hid (zs.length = n) := hn
  have HBD : Hid (∀ z ∈ zs, 0 ≤ z ∧ z ≤ 255) := hbd
  clear hu hbd hn
  go_enter Try.func23, Try.ntmps23
  go_wp2
  go_loopw [3, 4, 5] (fun v st i wr => ∃ (p s : Nat) (K : List Int), p ≤ n ∧ s ≤ p ∧ st = .int .i64 s ∧ i = .int .i64 p ∧ KRel us zs w.heap.size p s v K w wr) (fun _ _ i _ => n - (intOf i).toNat)
  case atStart => exact ⟨0, 0, [], by omega, by omega, rfl, rfl, KI.zero _ _, World.ownsRow_nil _ _ _ _, fun _ => ⟨rfl, rfl⟩, by simp, Below.refl _ _⟩
  case round =>
    obtain ⟨p, s, K, hp, hs, rfl, rfl, R⟩ := hrel
    have HC : RowAt wr tb zs := fun k hk => by rw [R.below.cell (p := ⟨tb, k, none⟩) htb]; exact hc k hk
    by_cases hlt : p < n
    · obtain ⟨u, hnx⟩ := R.ki.go HU.out hs (by rw [HN.out]; exact hlt)
      have hfit := hnx.fits
      rw [HN.out] at hfit
      have hcu : ∀ i, i < u.length → wr.cell? ⟨tb, p + i, none⟩ = some (.int .u8 (u.getD i 0)) := fun i hi => by
        rw [HC (p + i) (by rw [HN.out]; omega), hnx.text i hi]
      have hbu : ∀ z ∈ u, 0 ≤ z ∧ z ≤ 255 := fun z hz => by
        obtain ⟨i, hi, rfl⟩ := List.getElem_of_mem hz
        rw [← getD_at hi, ← hnx.text i hi, getD_at (by rw [HN.out]; omega)]
        exact HBD.out _ (List.getElem_mem _)
      rcases hnx.unit with ⟨c, hc1, rfl⟩ | ⟨d, hd1, rfl⟩ | ⟨a, b, c, d, rfl⟩
      · have hcl : wr.cell? ⟨tb, p, none⟩ = some (.int .u8 c) := hcu 0 (by simp)
        have hc1' : (c == 92) = false := by simpa using hc1
        have HK : Hid (KI us zs (p + 1) s K) := hnx.plain (conv_plain (by simp [sep8]) (by simp [sep9]))
        clear hnx hcu hbu
        go_wp2
        go_roundw
        case rel => exact ⟨p + 1, s, K, by omega, by omega, rfl, by go_num, HK.out, R.own, R.nil, R.len, R.below⟩
        case measure => simp [intOf]; omega
      · have hfit : p + 2 ≤ n := hfit
        have c0 : wr.cell? ⟨tb, p, none⟩ = some (.int .u8 92) := hcu 0 (by simp)
        have c1 : wr.cell? ⟨tb, p + 1, none⟩ = some (.int .u8 d) := hcu 1 (by simp)
        have hd1' : (d == 117) = false := by simpa using hd1
        have HK : Hid (KI us zs (p + 2) s K) := hnx.plain (conv_plain (by simp [sep8]) (by simp [sep9]))
        obtain ⟨str, hcv, s8, s9⟩ := conv_run tb p 2 (n - p) [92, d] wr rfl hbu hcu
        rw [decide_eq_false (by simp [sep8])] at s8
        rw [decide_eq_false (by simp [sep9])] at s9
        clear hnx hcu hbu
        go_wp2
        go_roundw
        case rel => exact ⟨p + 2, s, K, by omega, by omega, rfl, by go_num, HK.out, R.own, R.nil, R.len, R.below⟩
        case measure => simp [intOf]; omega
      · have hfit : p + 6 ≤ n := hfit
        have c0 : wr.cell? ⟨tb, p, none⟩ = some (.int .u8 92) := hcu 0 (by simp)
        have c1 : wr.cell? ⟨tb, p + 1, none⟩ = some (.int .u8 117) := hcu 1 (by simp)
        have c5 : wr.cell? ⟨tb, p + 5, none⟩ = some (.int .u8 d) := hcu 5 (by simp)
        obtain ⟨str, hcv, s8, s9⟩ := conv_run tb p 6 (n - p) [92, 117, a, b, c, d] wr rfl hbu hcu
        by_cases h8 : [92, 117, a, b, c, d] = sep8
        · have HK : Hid (KI us zs (p + 6) (p + 6) ((K ++ (zs.take p).drop s) ++ [226, 128, 168])) := by have := hnx.sep; rw [h8, conv8] at this; exact this
          have hd : d = 56 := by simp [sep8] at h8; omega
          subst hd
          rw [decide_eq_true h8] at s8
          clear hnx hcu hbu h8 s9
          have hseg := seg_cells HC s p (by rw [HN.out]; omega)
          have hsl : (bcells (seg zs s p)).length = (p - s) * 1 := by rw [bcells_len, seg_len zs s p (by rw [HN.out]; omega), Nat.mul_one]
          have hK := R.len
          have hwB : w.heap.size ≤ wr.heap.size := R.below.size
          have HSEG := (show Hid _ from hseg)
          have HSL := (show Hid _ from hsl)
          clear hseg hsl
          go_wp2_with (first | (at_builtin; refine wpList_append_own _ rfl (.tmp 37) (.tmp 41) 22 rfl w.heap.size 5 i0 (.int .u8 0) 1 1 Try.underlying22 hi hz0 hz1 hz2 rfl (by decide) _ K.length (bcells K) rfl R.own ⟨tb, s, none⟩ (p - s) (n - s) (bcells (seg zs s p)) rfl HSL.out HSEG.out (one_bcells _) (by unfold maxLen; omega) (by omega) hwB ?_; intro v1 w1 hown1 hgrow1 hnil1; refine Hid.out ?_))
          refine (show ∀ {p : Prop}, p → Hid p from fun h => h) ?_
          have hb1 : Below w.heap.size w w1 := R.below.grown hgrow1 hwB (own_ge R.own)
          have c51 : w1.cell? ⟨tb, p + 5, none⟩ = some (.int .u8 56) := by
            rw [hb1.cell (p := ⟨tb, p + 5, none⟩) htb, ← R.below.cell (p := ⟨tb, p + 5, none⟩) htb]; exact c5
          have hwB1 : w.heap.size ≤ w1.heap.size := hb1.size
          have HG1 := (show Hid _ from hgrow1)
          have HNL1 := (show Hid _ from hnil1)
          clear hgrow1 hnil1 c5 c0 c1 hcv
          go_wp2_with (first | (at_builtin; refine wpList_append_own _ rfl (.tmp 43) (.tmp 49) 22 rfl w.heap.size 5 i0 (.int .u8 0) 1 1 Try.underlying22 hi hz0 hz1 hz2 rfl (by decide) _ (K.length + (p - s)) (bcells K ++ bcells (seg zs s p)) rfl (hown1.alloc _) ⟨w1.heap.size, 0, none⟩ 3 3 (bcells [226, 128, 168]) rfl rfl (three_new w1 226 128 168) (one_bcells _) (by unfold maxLen; omega) (by omega) (le_alloc hwB1 _) ?_; intro v2 w2 hown2 hgrow2 hnil2; refine Hid.out ?_))
          refine (show ∀ {p : Prop}, p → Hid p from fun h => h) ?_
          have R2 := R.sep rfl (by rw [HN.out]; omega) hs rfl HK.out hown1 HG1.out _ hown2 hgrow2 hnil2
          clear hown1 hown2 hgrow2 hnil2 R HG1 HNL1
          go_wp2
          go_roundw
          case rel => exact ⟨p + 6, p + 6, _, by omega, by omega, by go_num, by go_num, R2⟩
          case measure => simp [intOf]; omega
        · by_cases h9 : [92, 117, a, b, c, d] = sep9
          · have HK : Hid (KI us zs (p + 6) (p + 6) ((K ++ (zs.take p).drop s) ++ [226, 128, 169])) := by have := hnx.sep; rw [h9, conv9] at this; exact this
            have hd : d = 57 := by simp [sep9] at h9; omega
            subst hd
            rw [decide_eq_false h8] at s8
            rw [decide_eq_true h9] at s9
            clear hnx hcu hbu h8 h9
            have hseg := seg_cells HC s p (by rw [HN.out]; omega)
            have hsl : (bcells (seg zs s p)).length = (p - s) * 1 := by rw [bcells_len, seg_len zs s p (by rw [HN.out]; omega), Nat.mul_one]
            have hK := R.len
            have hwB : w.heap.size ≤ wr.heap.size := R.below.size
            have HSEG := (show Hid _ from hseg)
            have HSL := (show Hid _ from hsl)
            clear hseg hsl
            go_wp2_with (first | (at_builtin; refine wpList_append_own _ rfl (.tmp 37) (.tmp 41) 22 rfl w.heap.size 5 i0 (.int .u8 0) 1 1 Try.underlying22 hi hz0 hz1 hz2 rfl (by decide) _ K.length (bcells K) rfl R.own ⟨tb, s, none⟩ (p - s) (n - s) (bcells (seg zs s p)) rfl HSL.out HSEG.out (one_bcells _) (by unfold maxLen; omega) (by omega) hwB ?_; intro v1 w1 hown1 hgrow1 hnil1; refine Hid.out ?_))
            refine (show ∀ {p : Prop}, p → Hid p from fun h => h) ?_
            have hb1 : Below w.heap.size w w1 := R.below.grown hgrow1 hwB (own_ge R.own)
            have c51 : w1.cell? ⟨tb, p + 5, none⟩ = some (.int .u8 57) := by
              rw [hb1.cell (p := ⟨tb, p + 5, none⟩) htb, ← R.below.cell (p := ⟨tb, p + 5, none⟩) htb]; exact c5
            have hwB1 : w.heap.size ≤ w1.heap.size := hb1.size
            have HG1 := (show Hid _ from hgrow1)
            have HNL1 := (show Hid _ from hnil1)
            clear hgrow1 hnil1 c5 c0 c1 hcv
            go_wp2_with (first | (at_builtin; refine wpList_append_own _ rfl (.tmp 43) (.tmp 49) 22 rfl w.heap.size 5 i0 (.int .u8 0) 1 1 Try.underlying22 hi hz0 hz1 hz2 rfl (by decide) _ (K.length + (p - s)) (bcells K ++ bcells (seg zs s p)) rfl (hown1.alloc _) ⟨w1.heap.size, 0, none⟩ 3 3 (bcells [226, 128, 169]) rfl rfl (three_new w1 226 128 169) (one_bcells _) (by unfold maxLen; omega) (by omega) (le_alloc hwB1 _) ?_; intro v2 w2 hown2 hgrow2 hnil2; refine Hid.out ?_))
            refine (show ∀ {p : Prop}, p → Hid p from fun h => h) ?_
            have R2 := R.sep rfl (by rw [HN.out]; omega) hs rfl HK.out hown1 HG1.out _ hown2 hgrow2 hnil2
            clear hown1 hown2 hgrow2 hnil2 R HG1 HNL1
            go_wp2
            go_roundw
            case rel => exact ⟨p + 6, p + 6, _, by omega, by omega, by go_num, by go_num, R2⟩
            case measure => simp [intOf]; omega
          · have HK : Hid (KI us zs (p + 6) s K) := hnx.plain (conv_plain h8 h9)
            rw [decide_eq_false h8] at s8
            rw [decide_eq_false h9] at s9
            clear hnx hcu hbu h8 h9
            go_wp2
            go_roundw
            case rel => exact ⟨p + 6, s, K, by omega, by omega, rfl, by go_num, HK.out, R.own, R.nil, R.len, R.below⟩
            case measure => simp [intOf]; omega
    · obtain rfl : p = n := by omega
      have HD : Hid (K ++ zs.drop s = kept us) := R.ki.done HU.out (by rw [HN.out]; omega)
      rcases Go.Joins.ownsRow_forms R.own with ⟨hv, hK0⟩ | ⟨g, cap, hv⟩
      · obtain ⟨rfl, rfl⟩ := R.nil hv
        have HD : Hid (zs = kept us) := HD.out
        have HB := R.below
        subst hv
        go_wp2
        go_ret
        have hl : (kept us).length = p := by rw [← HD.out, HN.out]
        exact ⟨⟨tb, p, ret_val (by rw [hl]; rfl), by rw [← HD.out]; exact HC⟩, HB⟩
      · have hwB : w.heap.size ≤ wr.heap.size := R.below.size
        have hK := R.len
        have hnn : Value.slice (some ⟨g, 0, none⟩) K.length cap ≠ .slice none 0 0 := by simp
        by_cases hsn : s < p
        · have HSEG := (show Hid _ from seg_cells HC s p (by rw [HN.out]; omega))
          have HSL : Hid ((bcells (seg zs s p)).length = (p - s) * 1) := show _ = _ by rw [bcells_len, seg_len zs s p (by rw [HN.out]; omega), Nat.mul_one]
          subst hv
          go_wp2_with (first | (at_builtin; refine wpList_append_own _ rfl (.tmp 63) (.tmp 66) 22 rfl w.heap.size 5 i0 (.int .u8 0) 1 1 Try.underlying22 hi hz0 hz1 hz2 rfl (by decide) _ K.length (bcells K) rfl R.own ⟨tb, s, none⟩ (p - s) (p - s) (bcells (seg zs s p)) rfl HSL.out HSEG.out (one_bcells _) (by unfold maxLen; omega) (by omega) hwB ?_; intro v1 w1 hown1 hgrow1 hnil1; refine Hid.out ?_))
          refine (show ∀ {p : Prop}, p → Hid p from fun h => h) ?_
          have hb1 : Below w.heap.size w w1 := R.below.grown hgrow1 hwB (own_ge R.own)
          rw [← bcells_append, seg_end zs s p HN.out, HD.out] at hown1
          obtain ⟨g2, oc, hv2, hrow⟩ := end_row hown1 (fun h => hnn (hnil1.1 h).1)
          clear hown1 hgrow1 hnil1
          subst hv2
          go_wp2
          go_ret
          exact ⟨⟨g2, oc, rfl, hrow⟩, hb1⟩
        · obtain rfl : s = p := by omega
          subst hv
          go_wp2_with (first | (at_builtin; refine wpList_append_own _ rfl (.tmp 63) (.tmp 66) 22 rfl w.heap.size 5 i0 (.int .u8 0) 1 1 Try.underlying22 hi hz0 hz1 hz2 rfl (by decide) _ K.length (bcells K) rfl R.own _ 0 _ [] rfl rfl (fun j u h => by simp at h) (fun u h => by simp at h) (by unfold maxLen; omega) (by omega) hwB ?_; intro v1 w1 hown1 hgrow1 hnil1; refine Hid.out ?_))
          refine (show ∀ {p : Prop}, p → Hid p from fun h => h) ?_
          have hb1 : Below w.heap.size w w1 := R.below.grown hgrow1 hwB (own_ge R.own)
          have hke : K = kept us := by have := HD.out; rw [List.drop_of_length_le (by rw [HN.out]; omega), List.append_nil] at this; exact this
          rw [List.append_nil, hke] at hown1
          obtain ⟨g2, oc, hv2, hrow⟩ := end_row hown1 (fun h => hnn (hnil1.1 h).1)
          clear hown1 hgrow1 hnil1 hke
          subst hv2
          go_wp2
          go_ret
          exact ⟨⟨g2, oc, rfl, hrow⟩, hb1⟩
end Go.Proofs.Qxb6602354a
