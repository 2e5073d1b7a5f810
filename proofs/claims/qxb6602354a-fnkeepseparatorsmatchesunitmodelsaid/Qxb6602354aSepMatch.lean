import Derived.Test.Qxb6602354aSepUnit
import Derived.Deep.QuietTactic
import Derived.BigQuiet
namespace Go.Proofs.Qxb6602354a
open Go.RowKit
set_option linter.unusedVariables false
set_option linter.unusedSimpArgs false

set_option maxHeartbeats 400000 in
theorem unitLen_any (b n cap j : Nat) (zs : List Int) (w : World) (hn : zs.length = n) (hm : n ≤ 1048576) (hj : j < n) (hc : RowAt w b zs) :
    Calls Try.prog 25 #[.slice (some ⟨b, 0, none⟩) n cap, .int .i64 j] w fun e w' => e = .returned (.int .i64 (ulen zs j)) ∧ w' = w := by
  have g0 := hc j (by omega)
  have g1 : j + 1 < n → w.cell? ⟨b, j + 1, none⟩ = some (.int .u8 (zs.getD (j + 1) 0)) := fun h => hc (j + 1) (by omega)
  have hu : ulen zs j = if zs.getD j 0 = 92 then (if j + 2 ≤ n ∧ zs.getD (j + 1) 0 = 117 then 6 else 2) else 1 := by unfold ulen; rw [hn]
  rw [hu]
  clear hu hc
  generalize zs.getD j 0 = c0 at *
  generalize zs.getD (j + 1) 0 = c1 at *
  by_cases e0 : c0 = 92
  · by_cases h2 : j + 2 ≤ n
    · have g1 := g1 (by omega)
      by_cases e1 : c1 = 117
      · subst e0 e1
        rw [if_pos rfl, if_pos ⟨h2, rfl⟩]
        go_enter Try.func25, Try.ntmps25
        go_wp2
        go_ret
        exact ⟨rfl, rfl⟩
      · have e1' : (c1 == 117) = false := by simpa using e1
        rw [if_pos e0, if_neg (fun h => e1 h.2)]
        subst e0
        go_enter Try.func25, Try.ntmps25
        go_wp2
        go_ret
        exact ⟨rfl, rfl⟩
    · rw [if_pos e0, if_neg (fun h => h2 h.1)]
      subst e0
      clear g1
      go_enter Try.func25, Try.ntmps25
      go_wp2
      go_ret
      exact ⟨rfl, rfl⟩
  · have e0' : (c0 == 92) = false := by simpa using e0
    rw [if_neg e0]
    clear g1
    go_enter Try.func25, Try.ntmps25
    go_wp2
    go_ret
    exact ⟨rfl, rfl⟩

theorem ret_bool' {a b : Bool} (h : a = b) : Ending.returned (.bool a) = .returned (.bool b) := by rw [h]

set_option maxHeartbeats 800000 in
set_option maxRecDepth 20000 in
theorem match_any (tb ob n cap m ocap : Nat) (us : List (List Int)) (zs out : List Int) (w : World) (hu : ∀ u ∈ us, IsUnit u) (hz : us.flatten = zs) (ho : kept us = out)
    (hn : zs.length = n) (hmm : out.length = m) (hm : n ≤ 1048576) (hmo : m ≤ n) (hc : RowAt w tb zs) (hd : RowAt w ob out) :
    Calls Try.prog 12 #[.slice (some ⟨tb, 0, none⟩) n cap, .slice (some ⟨ob, 0, none⟩) m ocap] w fun e w' => e = .returned (.bool true) ∧ Below w.heap.size w w' := by
  go_enter Try.func12, Try.ntmps12
  go_wp2
  go_loopw [5, 6] (fun j k wr => ∃ p q : Nat, p ≤ n ∧ q ≤ m ∧ j = .int .i64 p ∧ k = .int .i64 q ∧ Hid (At us p q) ∧ RowAt wr tb zs ∧ RowAt wr ob out ∧ Below w.heap.size w wr) (fun j _ _ => n - (intOf j).toNat)
  case atStart => exact ⟨0, 0, by omega, by omega, rfl, rfl, At.zero us, hc, hd, Below.refl _ _⟩
  case round =>
    obtain ⟨p, q, hp, hq, rfl, rfl, HA, hcr, hdr, hb⟩ := hrel
    by_cases hlt : p < n
    · obtain ⟨u, hnx⟩ := HA.out.go hu (by rw [hz]; omega)
      have hsep := hnx.sepB
      have hul := hnx.ulen
      rw [hz] at hsep hul
      have h24 := isSep_any tb n cap p zs wr hn hm hlt hcr
      have h25 := unitLen_any tb n cap p zs wr hn hm hlt hcr
      rw [hsep] at h24
      rw [hul] at h25
      clear hsep hul
      by_cases h8 : u = sep8
      · subst h8
        have hcv := conv8
        have hd1 : decide (sep8 = sep8 ∨ sep8 = sep9) = true := decide_eq_true (by simp)
        rw [hd1] at h24
        have hfit := hnx.fits
        have hroom := hnx.room
        rw [hcv] at hroom
        rw [hz, hn] at hfit
        rw [ho, hmm] at hroom
        have hfit : p + 6 ≤ n := hfit
        have hroom : q + 3 ≤ m := hroom
        have t5 : wr.cell? ⟨tb, p + 5, none⟩ = some (.int .u8 56) := by
          rw [hcr (p + 5) (by omega)]
          have := hnx.text 5 (by decide); rw [hz] at this; rw [this]; rfl
        have HO : Hid (∀ i, i < 3 → out.getD (q + i) 0 = [226, 128, 168].getD i 0) := by have := hnx.out; rw [ho, hcv] at this; exact this
        have o0 : wr.cell? ⟨ob, q, none⟩ = some (.int .u8 226) := by
          rw [hdr q (by omega)]; have := HO.out 0 (by omega); rw [Nat.add_zero] at this; rw [this]; rfl
        have o1 : wr.cell? ⟨ob, q + 1, none⟩ = some (.int .u8 128) := by
          rw [hdr (q + 1) (by omega)]; have := HO.out 1 (by omega); rw [this]; rfl
        have o2 : wr.cell? ⟨ob, q + 2, none⟩ = some (.int .u8 168) := by
          rw [hdr (q + 2) (by omega)]; have := HO.out 2 (by omega); rw [this]; rfl
        have HN : Hid (At us (p + 6) (q + 3)) := by have := hnx.next; rw [hcv] at this; exact this
        clear hnx hd1 hcv h25 HO
        go_wp2_with (go_at_call 24; refine h24.mono ?_; rintro e w' ⟨rfl, rfl⟩)
        go_roundw
        case rel => exact ⟨p + 6, q + 3, by omega, by omega, by go_num, by go_num, HN.out, hcr, hdr, hb⟩
        case measure => simp [intOf]; omega
      · by_cases h9 : u = sep9
        · subst h9
          clear h8
          have hcv := conv9
          have hd1 : decide (sep9 = sep8 ∨ sep9 = sep9) = true := decide_eq_true (by simp)
          rw [hd1] at h24
          have hfit := hnx.fits
          have hroom := hnx.room
          rw [hcv] at hroom
          rw [hz, hn] at hfit
          rw [ho, hmm] at hroom
          have hfit : p + 6 ≤ n := hfit
          have hroom : q + 3 ≤ m := hroom
          have t5 : wr.cell? ⟨tb, p + 5, none⟩ = some (.int .u8 57) := by
            rw [hcr (p + 5) (by omega)]
            have := hnx.text 5 (by decide); rw [hz] at this; rw [this]; rfl
          have HO : Hid (∀ i, i < 3 → out.getD (q + i) 0 = [226, 128, 169].getD i 0) := by have := hnx.out; rw [ho, hcv] at this; exact this
          have o0 : wr.cell? ⟨ob, q, none⟩ = some (.int .u8 226) := by
            rw [hdr q (by omega)]; have := HO.out 0 (by omega); rw [Nat.add_zero] at this; rw [this]; rfl
          have o1 : wr.cell? ⟨ob, q + 1, none⟩ = some (.int .u8 128) := by
            rw [hdr (q + 1) (by omega)]; have := HO.out 1 (by omega); rw [this]; rfl
          have o2 : wr.cell? ⟨ob, q + 2, none⟩ = some (.int .u8 169) := by
            rw [hdr (q + 2) (by omega)]; have := HO.out 2 (by omega); rw [this]; rfl
          have HN : Hid (At us (p + 6) (q + 3)) := by have := hnx.next; rw [hcv] at this; exact this
          clear hnx hd1 hcv h25 HO
          go_wp2_with (go_at_call 24; refine h24.mono ?_; rintro e w' ⟨rfl, rfl⟩)
          go_roundw
          case rel => exact ⟨p + 6, q + 3, by omega, by omega, by go_num, by go_num, HN.out, hcr, hdr, hb⟩
          case measure => simp [intOf]; omega
        · have hcv := conv_plain h8 h9
          have hd0 : decide (u = sep8 ∨ u = sep9) = false := decide_eq_false (by intro h; exact h.elim h8 h9)
          rw [hd0] at h24
          have hfit := hnx.fits
          have hroom := hnx.room
          have hpos := unit_pos hnx.unit
          have hl6 : u.length ≤ 6 := by rcases hnx.unit with ⟨c, _, rfl⟩ | ⟨d, _, rfl⟩ | ⟨a, b, c, d, rfl⟩ <;> simp
          rw [hcv] at hroom
          rw [hz, hn] at hfit
          rw [ho, hmm] at hroom
          have HT : Hid (∀ i, i < u.length → zs.getD (p + i) 0 = u.getD i 0) := by have := hnx.text; rw [hz] at this; exact this
          have HO : Hid (∀ i, i < u.length → out.getD (q + i) 0 = u.getD i 0) := by have := hnx.out; rw [ho, hcv] at this; exact this
          have HN : Hid (At us (p + u.length) (q + u.length)) := by have := hnx.next; rw [hcv] at this; exact this
          generalize u.length = L at *
          clear hnx hd0 h8 h9 hcv
          go_wp2_with (first | (go_at_call 24; refine h24.mono ?_; rintro e w' ⟨rfl, rfl⟩) | (go_at_call 25; refine h25.mono ?_; rintro e w' ⟨rfl, rfl⟩))
          clear h24 h25
          go_loopw [9] (fun mi wx => ∃ i : Nat, i ≤ L ∧ mi = .int .i64 i ∧ RowAt wx tb zs ∧ RowAt wx ob out ∧ Below w.heap.size w wx) (fun mi _ => L - (intOf mi).toNat)
          case atStart => exact ⟨0, by omega, rfl, hcr, hdr, hb⟩
          case round =>
            rename_i wx
            obtain ⟨i, hi, rfl, hcx, hdx, hbx⟩ := hrel
            by_cases hil : i < L
            · have t0 := hcx (p + i) (by omega)
              have o0 := hdx (q + i) (by omega)
              rw [HT.out i hil] at t0
              rw [HO.out i hil] at o0
              generalize u.getD i 0 = x at t0 o0
              have b1 : (p : Int) + (i : Int) < (n : Int) := by omega
              have b2 : (q : Int) + (i : Int) < (m : Int) := by omega
              go_wp2
              go_quiet (fail)
              go_wp2
              go_roundw
              case rel => exact ⟨i + 1, by omega, by go_num, hcx, hdx, below_drewN hbx _⟩
              case measure => simp [intOf]; omega
            · have hiL : i = L := by omega
              subst hiL
              clear hil hi
              go_wp2
              go_roundw
              case rel => exact ⟨p + i, q + i, by omega, by omega, by go_num, by go_num, HN.out, hcx, hdx, hbx⟩
              case measure => simp [intOf]; omega
    · have hq' := HA.out.done hu (by rw [hz]; omega)
      rw [ho, hmm] at hq'
      subst hq'
      go_wp2
      go_ret
      exact ⟨ret_bool' (by simp), hb⟩
end Go.Proofs.Qxb6602354a
