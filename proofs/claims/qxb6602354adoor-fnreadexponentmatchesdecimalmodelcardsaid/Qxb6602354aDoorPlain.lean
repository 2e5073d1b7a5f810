import Derived.Lib.ParseIntB
/-! The plain arithmetic of readExponent: decimal digits as bytes. No Go in sight. -/
namespace Go.Proofs.Qxb6602354aDoor
set_option linter.unusedVariables false
set_option linter.unusedSimpArgs false

def IsDig (c : UInt8) : Prop := 48 ≤ c.toNat ∧ c.toNat ≤ 57
def num (l : List UInt8) : Nat := l.foldl (fun a c => a * 10 + (c.toNat - 48)) 0
/-- The digits past the leading zeros. -/
def strip (l : List UInt8) : List UInt8 := l.dropWhile (· == 48)

theorem num_nil : num [] = 0 := rfl
theorem num_snoc (l : List UInt8) (c : UInt8) : num (l ++ [c]) = num l * 10 + (c.toNat - 48) := by simp [num, List.foldl_append]
theorem num_from (l : List UInt8) : ∀ a : Nat, l.foldl (fun a c => a * 10 + (c.toNat - 48)) a = a * 10 ^ l.length + num l := by
  induction l with
  | nil => intro a; simp [num]
  | cons c l ih =>
    intro a
    have e : num (c :: l) = l.foldl (fun a c => a * 10 + (c.toNat - 48)) (0 * 10 + (c.toNat - 48)) := rfl
    rw [e, List.foldl_cons, ih, ih, List.length_cons, Nat.pow_succ, Nat.add_mul, Nat.zero_mul, Nat.zero_add, Nat.add_assoc, Nat.mul_assoc, Nat.mul_comm 10]
theorem num_cons (c : UInt8) (l : List UInt8) : num (c :: l) = (c.toNat - 48) * 10 ^ l.length + num l := by
  have e : num (c :: l) = l.foldl (fun a c => a * 10 + (c.toNat - 48)) (0 * 10 + (c.toNat - 48)) := rfl
  rw [e, num_from, Nat.zero_mul, Nat.zero_add]
theorem num_append (l m : List UInt8) : num (l ++ m) = num l * 10 ^ m.length + num m := by
  unfold num; rw [List.foldl_append, num_from]; rfl
theorem num_lt (l : List UInt8) (h : ∀ c ∈ l, IsDig c) : num l < 10 ^ l.length := by
  induction l with
  | nil => simp [num]
  | cons c l ih =>
    have h1 := ih (fun c hc => h c (List.mem_cons_of_mem _ hc))
    have h2 := h c List.mem_cons_self
    unfold IsDig at h2
    rw [num_cons, List.length_cons, Nat.pow_succ]
    have : (c.toNat - 48) * 10 ^ l.length ≤ 9 * 10 ^ l.length := Nat.mul_le_mul_right _ (by omega)
    omega
theorem strip_cons_zero (l : List UInt8) : strip (48 :: l) = strip l := by unfold strip; rfl
theorem strip_cons_other {c : UInt8} (l : List UInt8) (h : c ≠ 48) : strip (c :: l) = c :: l := by
  unfold strip; rw [List.dropWhile_cons]; simp [h]
theorem num_strip (l : List UInt8) : num (strip l) = num l := by
  induction l with
  | nil => rfl
  | cons c l ih =>
    by_cases h : c = 48
    · subst h; rw [strip_cons_zero, ih, num_cons]; simp
    · rw [strip_cons_other l h]
theorem strip_len (l : List UInt8) : (strip l).length ≤ l.length := by
  induction l with
  | nil => exact Nat.le_refl _
  | cons c l ih =>
    by_cases h : c = 48
    · subst h; rw [strip_cons_zero, List.length_cons]; omega
    · rw [strip_cons_other l h]; exact Nat.le_refl _
theorem strip_mem (l : List UInt8) : ∀ c ∈ strip l, c ∈ l := by
  induction l with
  | nil => intro c h; exact h
  | cons d l ih =>
    by_cases h : d = 48
    · subst h; rw [strip_cons_zero]; intro c hc; exact List.mem_cons_of_mem _ (ih c hc)
    · rw [strip_cons_other l h]; intro c hc; exact hc
theorem strip_big (l : List UInt8) (h : ∀ c ∈ l, IsDig c) (hz : strip l ≠ []) : 10 ^ ((strip l).length - 1) ≤ num l := by
  induction l with
  | nil => exact absurd rfl hz
  | cons c l ih =>
    by_cases hc : c = 48
    · subst hc
      rw [strip_cons_zero] at hz ⊢
      have := ih (fun c hc => h c (List.mem_cons_of_mem _ hc)) hz
      rw [num_cons]; simpa using this
    · rw [strip_cons_other l hc, num_cons, List.length_cons, Nat.add_sub_cancel]
      have h2 := h c List.mem_cons_self
      unfold IsDig at h2
      have h3 : 48 < c.toNat := by
        rcases Nat.lt_or_ge 48 c.toNat with h | h
        · exact h
        · exact absurd (UInt8.toNat_inj.1 (show c.toNat = (48 : UInt8).toNat by show c.toNat = 48; omega)) hc
      have : 1 * 10 ^ l.length ≤ (c.toNat - 48) * 10 ^ l.length := Nat.mul_le_mul_right _ (by omega)
      omega
theorem strip_snoc (l : List UInt8) (c : UInt8) : strip (l ++ [c]) = if strip l = [] ∧ c = 48 then [] else strip l ++ [c] := by
  induction l with
  | nil =>
    by_cases h : c = 48
    · subst h; rfl
    · rw [List.nil_append, strip_cons_other [] h, if_neg (fun hh => h hh.2)]; rfl
  | cons d l ih =>
    by_cases h : d = 48
    · subst h; rw [List.cons_append, strip_cons_zero, strip_cons_zero, ih]
    · rw [List.cons_append, strip_cons_other _ h, strip_cons_other _ h, if_neg (fun hh => by cases hh.1)]; rfl
theorem strip_nil_num {l : List UInt8} (h : strip l = []) : num l = 0 := by rw [← num_strip, h]; rfl

/-- What readExponent answers: the value and whether an int64 holds it. -/
def rdV (neg : Bool) (ds : List UInt8) : Int :=
  if strip ds = [] then 0 else if 19 < (strip ds).length then 0
  else if neg then (if num ds ≤ 9223372036854775808 then -(num ds : Int) else -9223372036854775808)
  else (if num ds ≤ 9223372036854775807 then (num ds : Int) else 9223372036854775807)
def rdB (neg : Bool) (ds : List UInt8) : Bool :=
  if strip ds = [] then true else if 19 < (strip ds).length then false
  else if neg then decide (num ds ≤ 9223372036854775808) else decide (num ds ≤ 9223372036854775807)
def lim (neg : Bool) : Nat := if neg then 9223372036854775808 else 9223372036854775807
def sgn (neg : Bool) (n : Nat) : Int := if neg then -(n : Int) else (n : Int)

theorem big_of_long (ds : List UInt8) (h : ∀ c ∈ ds, IsDig c) (hl : 19 < (strip ds).length) : 10000000000000000000 ≤ num ds := by
  have hz : strip ds ≠ [] := by intro e; rw [e] at hl; simp at hl
  have h1 := strip_big ds h hz
  have h2 : (10 : Nat) ^ 19 ≤ 10 ^ ((strip ds).length - 1) := Nat.pow_le_pow_right (by decide) (by omega)
  have h3 : (10 : Nat) ^ 19 = 10000000000000000000 := by decide
  omega
theorem rd_small (neg : Bool) (ds : List UInt8) (h : ∀ c ∈ ds, IsDig c) (hn : num ds ≤ lim neg) : rdV neg ds = sgn neg (num ds) ∧ rdB neg ds = true := by
  unfold rdV rdB
  by_cases hz : strip ds = []
  · rw [if_pos hz, if_pos hz, strip_nil_num hz]; cases neg <;> exact ⟨rfl, rfl⟩
  · rw [if_neg hz, if_neg hz]
    by_cases hl : 19 < (strip ds).length
    · have := big_of_long ds h hl
      cases neg <;> simp only [lim, if_true, Bool.false_eq_true, if_false] at hn <;> omega
    · rw [if_neg hl, if_neg hl]
      cases neg
      · simp only [lim, Bool.false_eq_true, if_false] at hn
        simp only [Bool.false_eq_true, if_false]
        rw [if_pos hn]; exact ⟨rfl, decide_eq_true hn⟩
      · simp only [lim, if_true] at hn
        simp only [if_true]
        rw [if_pos hn]; exact ⟨rfl, decide_eq_true hn⟩
theorem rd_long (neg : Bool) (ds : List UInt8) (h : ∀ c ∈ ds, IsDig c) (hn : ¬ num ds ≤ lim neg) (hl : 19 < (strip ds).length) : rdV neg ds = 0 ∧ rdB neg ds = false := by
  have hz : strip ds ≠ [] := by intro e; rw [e] at hl; simp at hl
  unfold rdV rdB
  rw [if_neg hz, if_neg hz, if_pos hl, if_pos hl]; exact ⟨rfl, rfl⟩
theorem rd_over (neg : Bool) (ds : List UInt8) (h : ∀ c ∈ ds, IsDig c) (hn : ¬ num ds ≤ lim neg) (hl : ¬ 19 < (strip ds).length) :
    rdV neg ds = (if neg then -9223372036854775808 else 9223372036854775807) ∧ rdB neg ds = false := by
  have hz : strip ds ≠ [] := by
    intro e; rw [strip_nil_num e] at hn; exact hn (Nat.zero_le _)
  unfold rdV rdB
  rw [if_neg hz, if_neg hz, if_neg hl, if_neg hl]
  cases neg
  · simp only [lim, Bool.false_eq_true, if_false] at hn
    simp only [Bool.false_eq_true, if_false]
    rw [if_neg hn]; exact ⟨rfl, decide_eq_false hn⟩
  · simp only [lim, if_true] at hn
    simp only [if_true]
    rw [if_neg hn]; exact ⟨rfl, decide_eq_false hn⟩

/-! ### strconv.ParseInt at a sign and digits -/
theorem parseUintM_dig (M : Nat) (hM : 9999999999999999999 ≤ M) (l : List UInt8) : ∀ acc : Nat, (∀ c ∈ l, IsDig c) → acc * 10 ^ l.length + num l ≤ 9999999999999999999 → Lib.parseUintM M acc l = .ok (acc * 10 ^ l.length + num l) := by
  induction l with
  | nil => intro acc _ _; simp [Lib.parseUintM, num]
  | cons c l ih =>
    intro acc hd hb
    have hc := hd c List.mem_cons_self
    have hp : 0 < 10 ^ l.length := Nat.pow_pos (by decide)
    rw [num_cons, List.length_cons, Nat.pow_succ, Nat.mul_comm (10 ^ l.length) 10, ← Nat.mul_assoc, ← Nat.add_assoc, ← Nat.add_mul] at hb ⊢
    have hle : acc * 10 + (c.toNat - 48) ≤ (acc * 10 + (c.toNat - 48)) * 10 ^ l.length := Nat.le_mul_of_pos_right _ hp
    unfold Lib.parseUintM
    unfold IsDig at hc
    rw [if_pos hc, if_neg (by omega), if_neg (by omega)]
    exact ih _ (fun c hc => hd c (List.mem_cons_of_mem _ hc)) hb
theorem parseUintB_dig (l : List UInt8) (hd : ∀ c ∈ l, IsDig c) (hne : l ≠ []) (hl : l.length ≤ 19) : Lib.parseUintB 64 l = .ok (num l) := by
  unfold Lib.parseUintB
  rw [if_neg hne]
  have h1 := num_lt l hd
  have h2 : (10 : Nat) ^ l.length ≤ 10 ^ 19 := Nat.pow_le_pow_right (by decide) hl
  have h3 : (10 : Nat) ^ 19 = 10000000000000000000 := by decide
  have := parseUintM_dig (2 ^ 64 - 1) (by decide) l 0 hd (by rw [Nat.zero_mul, Nat.zero_add]; omega)
  rw [Nat.zero_mul, Nat.zero_add] at this
  exact this
theorem dig_head {c : UInt8} (h : IsDig c) : c.toNat ≠ 43 ∧ c.toNat ≠ 45 := by unfold IsDig at h; omega
def sgl (neg : Bool) : List UInt8 := if neg then [45] else [43]
/-- ParseInt at plain digits. -/
theorem parse_plain (l : List UInt8) (hd : ∀ c ∈ l, IsDig c) (hne : l ≠ []) (hl : l.length ≤ 19) :
    Lib.parseIntB 64 l = if num l ≤ 9223372036854775807 then .ok (num l : Int) else .range := by
  cases l with
  | nil => exact absurd rfl hne
  | cons c r =>
    have hc := dig_head (hd c List.mem_cons_self)
    unfold Lib.parseIntB
    simp only [hc.1, hc.2, or_self, if_false, not_false_eq_true, true_and, false_and]
    rw [parseUintB_dig (c :: r) hd hne hl]
    generalize num (c :: r) = n
    show (if 9223372036854775808 ≤ n then Lib.NumEnd.range else .ok (n : Int)) = _
    by_cases h : n ≤ 9223372036854775807
    · rw [if_pos h, if_neg (by omega)]
    · rw [if_neg h, if_pos (by omega)]
theorem parse_plus (l : List UInt8) (hd : ∀ c ∈ l, IsDig c) (hne : l ≠ []) (hl : l.length ≤ 19) :
    Lib.parseIntB 64 (43 :: l) = if num l ≤ 9223372036854775807 then .ok (num l : Int) else .range := by
  unfold Lib.parseIntB
  have e : (43 : UInt8).toNat = 43 := rfl
  simp only [e, true_or, if_true, parseUintB_dig l hd hne hl]
  generalize num l = n
  show (if ¬ (43 : Nat) = 45 ∧ 9223372036854775808 ≤ n then Lib.NumEnd.range else if (43 : Nat) = 45 ∧ 9223372036854775808 < n then Lib.NumEnd.range else .ok (if (43 : Nat) = 45 then -(n : Int) else n)) = _
  by_cases h : n ≤ 9223372036854775807
  · rw [if_pos h, if_neg (by omega), if_neg (by omega), if_neg (by omega)]
  · rw [if_neg h, if_pos (by omega)]
theorem parse_minus (l : List UInt8) (hd : ∀ c ∈ l, IsDig c) (hne : l ≠ []) (hl : l.length ≤ 19) :
    Lib.parseIntB 64 (45 :: l) = if num l ≤ 9223372036854775808 then .ok (-(num l : Int)) else .range := by
  unfold Lib.parseIntB
  have e : (45 : UInt8).toNat = 45 := rfl
  simp only [e, or_true, if_true, parseUintB_dig l hd hne hl]
  generalize num l = n
  show (if ¬ True ∧ 9223372036854775808 ≤ n then Lib.NumEnd.range else if True ∧ 9223372036854775808 < n then Lib.NumEnd.range else .ok (-(n : Int))) = _
  by_cases h : n ≤ 9223372036854775808
  · rw [if_pos h, if_neg (by simp), if_neg (by simp; omega)]
  · rw [if_neg h, if_neg (by simp), if_pos (by simp; omega)]
theorem sat_plain {c : UInt8} (r : List UInt8) (h : c.toNat ≠ 45) : Lib.intSat 64 (c :: r) = 9223372036854775807 := by
  unfold Lib.intSat
  rw [if_neg (by simpa using h)]; rfl
theorem sat_minus (r : List UInt8) : Lib.intSat 64 (45 :: r) = -9223372036854775808 := by
  unfold Lib.intSat
  rw [if_pos (by rfl)]; rfl
theorem strip_zeros (z r : List UInt8) (h : ∀ c ∈ z, c = 48) : strip (z ++ r) = strip r := by
  induction z with
  | nil => rfl
  | cons c z ih =>
    rw [List.cons_append, h c List.mem_cons_self, strip_cons_zero]
    exact ih (fun c hc => h c (List.mem_cons_of_mem _ hc))
theorem strip_eight (l : List UInt8) (k : Nat) (h : (l.drop k).take 8 = [48, 48, 48, 48, 48, 48, 48, 48]) : strip (l.drop k) = strip (l.drop (k + 8)) := by
  have e : l.drop k = (l.drop k).take 8 ++ l.drop (k + 8) := by
    rw [← List.drop_drop, List.take_append_drop]
  rw [e, h]
  exact strip_zeros _ _ (by simp)
theorem strip_one (l : List UInt8) (k : Nat) (hk : k < l.length) (h : l[k] = 48) : strip (l.drop k) = strip (l.drop (k + 1)) := by
  rw [List.drop_eq_getElem_cons hk, h, strip_cons_zero]
theorem strip_stop (l : List UInt8) (k : Nat) (hk : k < l.length) (h : l[k] ≠ 48) : strip (l.drop k) = l.drop k := by
  rw [List.drop_eq_getElem_cons hk, strip_cons_other _ h]
theorem strip_drop (l : List UInt8) : strip l = l.drop (l.length - (strip l).length) := by
  induction l with
  | nil => rfl
  | cons c l ih =>
    by_cases h : c = 48
    · subst h
      rw [strip_cons_zero]
      have := strip_len l
      rw [List.length_cons, show l.length + 1 - (strip l).length = (l.length - (strip l).length) + 1 by omega, List.drop_succ_cons]
      exact ih
    · rw [strip_cons_other l h, Nat.sub_self]; rfl
theorem rd_nil (neg : Bool) (ds : List UInt8) (h : strip ds = []) : rdV neg ds = 0 ∧ rdB neg ds = true := by
  unfold rdV rdB; rw [if_pos h, if_pos h]; exact ⟨rfl, rfl⟩
theorem rd_long' (neg : Bool) (ds : List UInt8) (hl : 19 < (strip ds).length) : rdV neg ds = 0 ∧ rdB neg ds = false := by
  have hz : strip ds ≠ [] := by intro e; rw [e] at hl; simp at hl
  unfold rdV rdB
  rw [if_neg hz, if_neg hz, if_pos hl, if_pos hl]; exact ⟨rfl, rfl⟩
/-- The number beside the range error, by the sign. -/
def satOf (neg : Bool) : Int := if neg then -9223372036854775808 else 9223372036854775807
/-- A text that ParseInt is handed: digits behind a sign or none. -/
def Signed (neg : Bool) (l z : List UInt8) : Prop := (l = z ∧ neg = false) ∨ (l = 43 :: z ∧ neg = false) ∨ (l = 45 :: z ∧ neg = true)
theorem lim_false : lim false = 9223372036854775807 := rfl
theorem lim_true : lim true = 9223372036854775808 := rfl
theorem parse_ok (neg : Bool) (l z : List UInt8) (h : Signed neg l z) (hd : ∀ c ∈ z, IsDig c) (hne : z ≠ []) (hl : z.length ≤ 19) (hn : num z ≤ lim neg) : Lib.parseIntB 64 l = .ok (sgn neg (num z)) := by
  rcases h with ⟨rfl, rfl⟩ | ⟨rfl, rfl⟩ | ⟨rfl, rfl⟩ <;> first | rw [lim_false] at hn | rw [lim_true] at hn
  · rw [parse_plain l hd hne hl, if_pos hn]; rfl
  · rw [parse_plus z hd hne hl, if_pos hn]; rfl
  · rw [parse_minus z hd hne hl, if_pos hn]; rfl
theorem parse_range (neg : Bool) (l z : List UInt8) (h : Signed neg l z) (hd : ∀ c ∈ z, IsDig c) (hne : z ≠ []) (hl : z.length ≤ 19) (hn : ¬ num z ≤ lim neg) : Lib.parseIntB 64 l = .range ∧ Lib.intSat 64 l = satOf neg := by
  rcases h with ⟨rfl, rfl⟩ | ⟨rfl, rfl⟩ | ⟨rfl, rfl⟩ <;> first | rw [lim_false] at hn | rw [lim_true] at hn
  · refine ⟨by rw [parse_plain l hd hne hl, if_neg hn], ?_⟩
    cases l with
    | nil => exact absurd rfl hne
    | cons c r => exact sat_plain r (dig_head (hd c List.mem_cons_self)).2
  · exact ⟨by rw [parse_plus z hd hne hl, if_neg hn], sat_plain z (by decide)⟩
  · exact ⟨by rw [parse_minus z hd hne hl, if_neg hn], sat_minus z⟩
end Go.Proofs.Qxb6602354aDoor
