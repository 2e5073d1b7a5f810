import Derived.Test.Qxb6602354aDoorZeros
import Derived.Test.Qxb6602354aDoorShelf
import Derived.Deep.QuietTactic
import Derived.BigQuiet
import Derived.Lib.SmallJoins
import Derived.Lib.IndexBytes
namespace Go.Proofs.Qxb6602354aDoor
open Go.RowKit
set_option linter.unusedVariables false
set_option linter.unusedSimpArgs false

/-- strconv.ParseInt at a sign and at most nineteen digits that an int64 holds. -/
theorem parse15_ok (t : ByteArray) (neg : Bool) (z : List UInt8) (h : Signed neg t.data.toList z) (hd : ∀ c ∈ z, IsDig c) (hne : z ≠ []) (hl : z.length ≤ 19) (hn : num z ≤ lim neg) (hsz : t.size ≤ 9223372036854775806) (w : World) :
    Calls Tryd.prog 15 #[.string t, .int .i64 10, .int .i64 64] w fun e w' => e = .returned (.tuple #[.int .i64 (sgn neg (num z)), .nilIface]) ∧ Below w.heap.size w w' := by
  refine (Tryd.strconv_ParseInt_10_at64_ok t hsz _ (parse_ok neg _ z h hd hne hl hn) w).mono ?_
  rintro e w' ⟨rfl, hw⟩
  refine ⟨rfl, ?_⟩
  rcases hw with rfl | ⟨u, rfl⟩
  · exact Below.refl _ _
  · exact Lib.bytesWorld_below _ _ _
/-- .. and at one that none holds. -/
theorem parse15_range (t : ByteArray) (neg : Bool) (z : List UInt8) (h : Signed neg t.data.toList z) (hd : ∀ c ∈ z, IsDig c) (hne : z ≠ []) (hl : z.length ≤ 19) (hn : ¬ num z ≤ lim neg) (hsz : t.size ≤ 281474976710656) (w : World) (tp : TypeId) (p : Value) (hvar : w.var? Tryd.prog "strconv.ErrRange" = some #[.iface tp p]) :
    Calls Tryd.prog 15 #[.string t, .int .i64 10, .int .i64 64] w fun e w' => ∃ N, e = .returned (.tuple #[.int .i64 (satOf neg), .iface 41 (.pointer (some ⟨N, 0, none⟩))]) ∧ Below w.heap.size w w' := by
  obtain ⟨h1, h2⟩ := parse_range neg _ z h hd hne hl hn
  refine (Tryd.strconv_ParseInt_10_at64_range_var t hsz h1 tp p w hvar).mono ?_
  rintro e w' ⟨N, rfl, _, _, hb⟩
  exact ⟨N, by rw [h2], hb⟩

/-- The text past the leading zeros. -/
theorem cut_list (s : ByteArray) (k : Nat) (hk : k = s.size - (strip s.data.toList).length) : (s.extract k s.size).data.toList = strip s.data.toList := by
  rw [Lib.extract_to_end]
  have h := strip_drop s.data.toList
  have e : s.data.toList.length = s.size := Array.length_toList
  rw [e, ← hk] at h
  exact h.symm

set_option maxHeartbeats 400000 in
theorem read_plain (s : ByteArray) (ds : List UInt8) (hs : s.size ≤ 1048576) (hl : s.data.toList = ds) (h0 : 0 < s.size) (hd : ∀ c ∈ ds, IsDig c) (w : World) (tp : TypeId) (p : Value) (hvar : w.var? Tryd.prog "strconv.ErrRange" = some #[.iface tp p]) :
    Calls Tryd.prog 13 #[.string s] w fun e w' => e = .returned (.tuple #[.int .i64 (rdV false ds), .bool (rdB false ds)]) ∧ Below w.heap.size w w' := by
  have hd0 : IsDig s[0] := by rw [← byte_at s 0 h0]; exact hd _ (by rw [← hl]; exact List.getElem_mem _)
  unfold IsDig at hd0
  have h43 : ((s[0].toNat : Int) == 43) = false := by simp; omega
  have h45 : ((s[0].toNat : Int) == 45) = false := by simp; omega
  obtain ⟨k, hk⟩ : ∃ k, k = s.size - (strip s.data.toList).length := ⟨_, rfl⟩
  have h14 := zeros_any s w hs
  rw [← hk] at h14
  have hcut := cut_list s k hk
  rw [hl] at hcut hk
  have hks : k ≤ s.size := by omega
  have hlen : s.size - k = (strip ds).length := by
    have := strip_len ds
    have e : s.data.toList.length = s.size := Array.length_toList
    rw [hl] at e; omega
  clear hk hl hd0
  by_cases hz : strip ds = []
  · obtain ⟨e1, e2⟩ := rd_nil false ds hz
    rw [e1, e2]
    have hE : (s.extract k s.size).toList.isEmpty = true := by rw [ByteArray.toList_eq, hcut, hz]; rfl
    clear hcut hlen hvar e1 e2 hz hd
    go_enter Tryd.func13, Tryd.ntmps13
    go_wp2_with (go_at_call 14; refine h14.mono ?_; rintro e w' ⟨rfl, hw⟩; subst w')
    go_ret2
    exact ⟨rfl, Below.refl _ _⟩
  · have hE : (s.extract k s.size).toList.isEmpty = false := by
      rw [ByteArray.toList_eq, hcut]
      cases hzz : strip ds with
      | nil => exact absurd hzz hz
      | cons c r => rfl
    by_cases hlong : 19 < (strip ds).length
    · obtain ⟨e1, e2⟩ := rd_long' false ds hlong
      rw [e1, e2]
      have hlong' : (19 : Int) < ((s.size - k : Nat) : Int) := by omega
      clear hcut hlen hvar e1 e2 hz hd hlong
      go_enter Tryd.func13, Tryd.ntmps13
      go_wp2_with (go_at_call 14; refine h14.mono ?_; rintro e w' ⟨rfl, hw⟩; subst w')
      go_ret2
      exact ⟨rfl, Below.refl _ _⟩
    · have hshort : ((s.size - k : Nat) : Int) ≤ 19 := by omega
      have hdz : ∀ c ∈ strip ds, IsDig c := fun c hc => hd c (strip_mem ds c hc)
      have hsg : Signed false ((⟨#[]⟩ : ByteArray) ++ s.extract k s.size).data.toList (strip ds) := Or.inl ⟨by rw [Joins.data_append, hcut]; rfl, rfl⟩
      have hszt : ((⟨#[]⟩ : ByteArray) ++ s.extract k s.size).size ≤ 1048576 := by
        have e : ∀ t : ByteArray, t.size = t.data.toList.length := Lib.size_eq
        rw [e, Joins.data_append, hcut, List.length_append]
        show 0 + _ ≤ _
        omega
      by_cases hn : num ds ≤ lim false
      · obtain ⟨e1, e2⟩ := rd_small false ds hd hn
        have h15 := parse15_ok _ false (strip ds) hsg hdz hz (by omega) (by rw [num_strip]; exact hn) (by omega) w
        rw [num_strip, ← e1] at h15
        rw [e2]
        generalize rdV false ds = v at h15 ⊢
        clear hcut hlen hvar e1 e2 hz hd hlong hdz hsg hn
        go_enter Tryd.func13, Tryd.ntmps13
        go_wp2_with (first | (go_at_call 14; refine h14.mono ?_; rintro e w' ⟨rfl, hw⟩; subst w') | (go_at_call 15; refine h15.mono ?_; rintro e w1 ⟨rfl, hb⟩))
        go_quiet (fail)
        go_wp2
        go_ret2
        exact ⟨rfl, below_drewN hb _⟩
      · obtain ⟨e1, e2⟩ := rd_over false ds hd hn hlong
        have h15 := parse15_range _ false (strip ds) hsg hdz hz (by omega) (by rw [num_strip]; exact hn) (by omega) w tp p hvar
        have e3 : rdV false ds = satOf false := e1
        rw [← e3] at h15
        rw [e2]
        generalize rdV false ds = v at h15 ⊢
        clear hcut hlen hvar e1 e2 e3 hz hd hlong hdz hsg hn
        go_enter Tryd.func13, Tryd.ntmps13
        go_wp2_with (first | (go_at_call 14; refine h14.mono ?_; rintro e w' ⟨rfl, hw⟩; subst w') | (go_at_call 15; refine h15.mono ?_; rintro e w1 ⟨N, rfl, hb⟩))
        go_quiet (fail)
        go_wp2
        go_ret2
        exact ⟨rfl, below_drewN hb _⟩

set_option maxHeartbeats 400000 in
theorem read_plus (s : ByteArray) (ds : List UInt8) (hs : s.size ≤ 1048576) (hl : s.data.toList = 43 :: ds) (hd : ∀ c ∈ ds, IsDig c) (w : World) (tp : TypeId) (p : Value) (hvar : w.var? Tryd.prog "strconv.ErrRange" = some #[.iface tp p]) :
    Calls Tryd.prog 13 #[.string s] w fun e w' => e = .returned (.tuple #[.int .i64 (rdV false ds), .bool (rdB false ds)]) ∧ Below w.heap.size w w' := by
  have e0 : s.data.toList.length = s.size := Array.length_toList
  have h0 : 0 < s.size := by rw [hl] at e0; simp at e0; omega
  have hb0 : s[0] = 43 := by
    rw [← byte_at s 0 h0]
    have : s.data.toList[0]? = some 43 := by rw [hl]; rfl
    rw [List.getElem?_eq_getElem (by omega)] at this
    exact Option.some.inj this
  have h43 : ((s[0].toNat : Int) == 43) = true := by rw [hb0]; rfl

  obtain ⟨t, ht⟩ : ∃ t, t = s.extract 1 s.size := ⟨_, rfl⟩
  have htl : t.data.toList = ds := by rw [ht, Lib.extract_to_end, hl]; rfl
  have hsgl : (s.extract 0 1).data.toList = [43] := by rw [Lib.extract_data, hl]; rfl
  have hts : t.size ≤ 1048576 := by
    have e : t.data.toList.length = t.size := Array.length_toList
    rw [htl] at e; rw [hl] at e0; simp at e0; omega
  obtain ⟨k, hk⟩ : ∃ k, k = t.size - (strip t.data.toList).length := ⟨_, rfl⟩
  have h14 := fun w => zeros_any t w hts
  rw [← hk] at h14
  have hcut := cut_list t k hk
  have hks : k ≤ t.size := by omega
  have hlen : t.size - k = (strip ds).length := by
    have := strip_len ds
    have e : t.data.toList.length = t.size := Array.length_toList
    rw [htl] at e hk; omega
  rw [htl] at hcut
  have HT : Hid (t = s.extract 1 s.size) := ht
  have b1 : (1 : Int) ≤ (s.size : Int) := by omega
  clear hk hl hb0 e0 ht htl
  by_cases hz : strip ds = []
  · obtain ⟨e1, e2⟩ := rd_nil false ds hz
    rw [e1, e2]
    have hE : (t.extract k t.size).toList.isEmpty = true := by rw [ByteArray.toList_eq, hcut, hz]; rfl
    clear hcut hlen hvar e1 e2 hz hd hsgl
    go_enter Tryd.func13, Tryd.ntmps13
    go_wp2
    go_quiet (fail)
    rw [← HT.out]
    go_wp2_with (go_at_call 14; refine (h14 _).mono ?_; rintro e w' ⟨rfl, hw⟩; subst w')
    go_ret2
    exact ⟨rfl, below_drewN (Below.refl _ _) _⟩
  · have hE : (t.extract k t.size).toList.isEmpty = false := by
      rw [ByteArray.toList_eq, hcut]
      cases hzz : strip ds with
      | nil => exact absurd hzz hz
      | cons c r => rfl
    by_cases hlong : 19 < (strip ds).length
    · obtain ⟨e1, e2⟩ := rd_long' false ds hlong
      rw [e1, e2]
      have hlong' : (19 : Int) < ((t.size - k : Nat) : Int) := by omega
      clear hcut hlen hvar e1 e2 hz hd hlong hsgl
      go_enter Tryd.func13, Tryd.ntmps13
      go_wp2
      go_quiet (fail)
      rw [← HT.out]
      go_wp2_with (go_at_call 14; refine (h14 _).mono ?_; rintro e w' ⟨rfl, hw⟩; subst w')
      go_ret2
      exact ⟨rfl, below_drewN (Below.refl _ _) _⟩
    · have hshort : ((t.size - k : Nat) : Int) ≤ 19 := by omega
      have hdz : ∀ c ∈ strip ds, IsDig c := fun c hc => hd c (strip_mem ds c hc)
      have hcat : (s.extract 0 1 ++ t.extract k t.size).data.toList = 43 :: strip ds := by rw [Joins.data_append, hcut, hsgl]; rfl
      have hsg : Signed false (s.extract 0 1 ++ t.extract k t.size).data.toList (strip ds) := Or.inr (Or.inl ⟨hcat, rfl⟩)
      have hszt : (s.extract 0 1 ++ t.extract k t.size).size ≤ 1048576 := by
        rw [Lib.size_eq, hcat, List.length_cons]
        omega
      by_cases hn : num ds ≤ lim false
      · obtain ⟨e1, e2⟩ := rd_small false ds hd hn
        have h15 := fun w => parse15_ok _ false (strip ds) hsg hdz hz (by omega) (by rw [num_strip]; exact hn) (by omega) w
        rw [num_strip, ← e1] at h15
        rw [e2]
        generalize rdV false ds = v at h15 ⊢
        clear hcut hlen hvar e1 e2 hz hd hlong hdz hsg hn hcat hsgl
        go_enter Tryd.func13, Tryd.ntmps13
        go_wp2
        go_quiet (fail)
        rw [← HT.out]
        go_wp2_with (first | (go_at_call 14; refine (h14 _).mono ?_; rintro e w' ⟨rfl, hw⟩; subst w') | (go_at_call 15; refine (h15 _).mono ?_; rintro e w1 ⟨rfl, hb⟩))
        go_quiet (fail)
        go_wp2
        go_ret2
        exact ⟨rfl, below_drewN ((below_drewN (Below.refl _ _) _).trans hb) _⟩
      · obtain ⟨e1, e2⟩ := rd_over false ds hd hn hlong
        have h15 := fun nq => parse15_range _ false (strip ds) hsg hdz hz (by omega) (by rw [num_strip]; exact hn) (by omega) (w.drewN nq) tp p hvar
        have e3 : rdV false ds = satOf false := e1
        rw [← e3] at h15
        rw [e2]
        generalize rdV false ds = v at h15 ⊢
        clear hcut hlen hvar e1 e2 e3 hz hd hlong hdz hsg hn hcat hsgl
        go_enter Tryd.func13, Tryd.ntmps13
        go_wp2
        go_quiet (fail)
        rw [← HT.out]
        go_wp2_with (first | (go_at_call 14; refine (h14 _).mono ?_; rintro e w' ⟨rfl, hw⟩; subst w') | (go_at_call 15; refine (h15 _).mono ?_; rintro e w1 ⟨N, rfl, hb⟩))
        go_quiet (fail)
        go_wp2
        go_ret2
        exact ⟨rfl, below_drewN ((below_drewN (Below.refl _ _) _).trans hb) _⟩

set_option maxHeartbeats 400000 in
theorem read_minus (s : ByteArray) (ds : List UInt8) (hs : s.size ≤ 1048576) (hl : s.data.toList = 45 :: ds) (hd : ∀ c ∈ ds, IsDig c) (w : World) (tp : TypeId) (p : Value) (hvar : w.var? Tryd.prog "strconv.ErrRange" = some #[.iface tp p]) :
    Calls Tryd.prog 13 #[.string s] w fun e w' => e = .returned (.tuple #[.int .i64 (rdV true ds), .bool (rdB true ds)]) ∧ Below w.heap.size w w' := by
  have e0 : s.data.toList.length = s.size := Array.length_toList
  have h0 : 0 < s.size := by rw [hl] at e0; simp at e0; omega
  have hb0 : s[0] = 45 := by
    rw [← byte_at s 0 h0]
    have : s.data.toList[0]? = some 45 := by rw [hl]; rfl
    rw [List.getElem?_eq_getElem (by omega)] at this
    exact Option.some.inj this
  have h43 : ((s[0].toNat : Int) == 43) = false := by rw [hb0]; rfl
  have h45 : ((s[0].toNat : Int) == 45) = true := by rw [hb0]; rfl

  obtain ⟨t, ht⟩ : ∃ t, t = s.extract 1 s.size := ⟨_, rfl⟩
  have htl : t.data.toList = ds := by rw [ht, Lib.extract_to_end, hl]; rfl
  have hsgl : (s.extract 0 1).data.toList = [45] := by rw [Lib.extract_data, hl]; rfl
  have hts : t.size ≤ 1048576 := by
    have e : t.data.toList.length = t.size := Array.length_toList
    rw [htl] at e; rw [hl] at e0; simp at e0; omega
  obtain ⟨k, hk⟩ : ∃ k, k = t.size - (strip t.data.toList).length := ⟨_, rfl⟩
  have h14 := fun w => zeros_any t w hts
  rw [← hk] at h14
  have hcut := cut_list t k hk
  have hks : k ≤ t.size := by omega
  have hlen : t.size - k = (strip ds).length := by
    have := strip_len ds
    have e : t.data.toList.length = t.size := Array.length_toList
    rw [htl] at e hk; omega
  rw [htl] at hcut
  have HT : Hid (t = s.extract 1 s.size) := ht
  have b1 : (1 : Int) ≤ (s.size : Int) := by omega
  clear hk hl hb0 e0 ht htl
  by_cases hz : strip ds = []
  · obtain ⟨e1, e2⟩ := rd_nil true ds hz
    rw [e1, e2]
    have hE : (t.extract k t.size).toList.isEmpty = true := by rw [ByteArray.toList_eq, hcut, hz]; rfl
    clear hcut hlen hvar e1 e2 hz hd hsgl
    go_enter Tryd.func13, Tryd.ntmps13
    go_wp2
    go_quiet (fail)
    rw [← HT.out]
    go_wp2_with (go_at_call 14; refine (h14 _).mono ?_; rintro e w' ⟨rfl, hw⟩; subst w')
    go_ret2
    exact ⟨rfl, below_drewN (Below.refl _ _) _⟩
  · have hE : (t.extract k t.size).toList.isEmpty = false := by
      rw [ByteArray.toList_eq, hcut]
      cases hzz : strip ds with
      | nil => exact absurd hzz hz
      | cons c r => rfl
    by_cases hlong : 19 < (strip ds).length
    · obtain ⟨e1, e2⟩ := rd_long' true ds hlong
      rw [e1, e2]
      have hlong' : (19 : Int) < ((t.size - k : Nat) : Int) := by omega
      clear hcut hlen hvar e1 e2 hz hd hlong hsgl
      go_enter Tryd.func13, Tryd.ntmps13
      go_wp2
      go_quiet (fail)
      rw [← HT.out]
      go_wp2_with (go_at_call 14; refine (h14 _).mono ?_; rintro e w' ⟨rfl, hw⟩; subst w')
      go_ret2
      exact ⟨rfl, below_drewN (Below.refl _ _) _⟩
    · have hshort : ((t.size - k : Nat) : Int) ≤ 19 := by omega
      have hdz : ∀ c ∈ strip ds, IsDig c := fun c hc => hd c (strip_mem ds c hc)
      have hcat : (s.extract 0 1 ++ t.extract k t.size).data.toList = 45 :: strip ds := by rw [Joins.data_append, hcut, hsgl]; rfl
      have hsg : Signed true (s.extract 0 1 ++ t.extract k t.size).data.toList (strip ds) := Or.inr (Or.inr ⟨hcat, rfl⟩)
      have hszt : (s.extract 0 1 ++ t.extract k t.size).size ≤ 1048576 := by
        rw [Lib.size_eq, hcat, List.length_cons]
        omega
      by_cases hn : num ds ≤ lim true
      · obtain ⟨e1, e2⟩ := rd_small true ds hd hn
        have h15 := fun w => parse15_ok _ true (strip ds) hsg hdz hz (by omega) (by rw [num_strip]; exact hn) (by omega) w
        rw [num_strip, ← e1] at h15
        rw [e2]
        generalize rdV true ds = v at h15 ⊢
        clear hcut hlen hvar e1 e2 hz hd hlong hdz hsg hn hcat hsgl
        go_enter Tryd.func13, Tryd.ntmps13
        go_wp2
        go_quiet (fail)
        rw [← HT.out]
        go_wp2_with (first | (go_at_call 14; refine (h14 _).mono ?_; rintro e w' ⟨rfl, hw⟩; subst w') | (go_at_call 15; refine (h15 _).mono ?_; rintro e w1 ⟨rfl, hb⟩))
        go_quiet (fail)
        go_wp2
        go_ret2
        exact ⟨rfl, below_drewN ((below_drewN (Below.refl _ _) _).trans hb) _⟩
      · obtain ⟨e1, e2⟩ := rd_over true ds hd hn hlong
        have h15 := fun nq => parse15_range _ true (strip ds) hsg hdz hz (by omega) (by rw [num_strip]; exact hn) (by omega) (w.drewN nq) tp p hvar
        have e3 : rdV true ds = satOf true := e1
        rw [← e3] at h15
        rw [e2]
        generalize rdV true ds = v at h15 ⊢
        clear hcut hlen hvar e1 e2 e3 hz hd hlong hdz hsg hn hcat hsgl
        go_enter Tryd.func13, Tryd.ntmps13
        go_wp2
        go_quiet (fail)
        rw [← HT.out]
        go_wp2_with (first | (go_at_call 14; refine (h14 _).mono ?_; rintro e w' ⟨rfl, hw⟩; subst w') | (go_at_call 15; refine (h15 _).mono ?_; rintro e w1 ⟨N, rfl, hb⟩))
        go_quiet (fail)
        go_wp2
        go_ret2
        exact ⟨rfl, below_drewN ((below_drewN (Below.refl _ _) _).trans hb) _⟩

/-- readExponent at every text of the form: a sign or none, then digits. -/
theorem read_any (s : ByteArray) (neg : Bool) (ds : List UInt8) (hs : s.size ≤ 1048576) (hl : Signed neg s.data.toList ds) (hne : ds ≠ []) (hd : ∀ c ∈ ds, IsDig c) (w : World) (tp : TypeId) (p : Value) (hvar : w.var? Tryd.prog "strconv.ErrRange" = some #[.iface tp p]) :
    Calls Tryd.prog 13 #[.string s] w fun e w' => e = .returned (.tuple #[.int .i64 (rdV neg ds), .bool (rdB neg ds)]) ∧ Below w.heap.size w w' := by
  rcases hl with ⟨hl, rfl⟩ | ⟨hl, rfl⟩ | ⟨hl, rfl⟩
  · refine read_plain s ds hs hl ?_ hd w tp p hvar
    have e0 : s.data.toList.length = s.size := Array.length_toList
    rw [hl] at e0
    have := List.length_pos_iff.2 hne
    omega
  · exact read_plus s ds hs hl hd w tp p hvar
  · exact read_minus s ds hs hl hd w tp p hvar

set_option maxHeartbeats 400000 in
theorem zzread_any (s : ByteArray) (neg : Bool) (ds : List UInt8) (hs : s.size ≤ 1048576) (hl : Signed neg s.data.toList ds) (hne : ds ≠ []) (hd : ∀ c ∈ ds, IsDig c) (w : World) (tp : TypeId) (p : Value) (hvar : w.var? Tryd.prog "strconv.ErrRange" = some #[.iface tp p]) :
    Calls Tryd.prog 8 #[.string s] w fun e w' => e = .returned (.tuple #[.int .i64 (rdV neg ds), .bool (rdB neg ds)]) ∧ Below w.heap.size w w' := by
  have h13 := read_any s neg ds hs hl hne hd w tp p hvar
  generalize rdV neg ds = v at h13 ⊢
  generalize rdB neg ds = b at h13 ⊢
  clear hl hne hd hvar
  go_enter Tryd.func8, Tryd.ntmps8
  go_wp2_with (go_at_call 13; refine h13.mono ?_; rintro e w1 ⟨rfl, hb⟩)
  go_ret2
  exact ⟨rfl, hb⟩
end Go.Proofs.Qxb6602354aDoor
