import Derived.Test.Qxb6000399aPlain
/-! The number that a row of digits spells. No Go in sight. -/
namespace Go.Proofs.Qxb6000399a
set_option linter.unusedVariables false
set_option linter.unusedSimpArgs false

def num (l : List UInt8) : Nat := l.foldl (fun a c => a * 10 + (c.toNat - 48)) 0
theorem num_nil : num [] = 0 := rfl
theorem num_snoc (l : List UInt8) (c : UInt8) : num (l ++ [c]) = num l * 10 + (c.toNat - 48) := by simp [num, List.foldl_append]
theorem num_from (l : List UInt8) : ∀ a : Nat, l.foldl (fun a c => a * 10 + (c.toNat - 48)) a = a * 10 ^ l.length + num l := by
  induction l with
  | nil => intro a; simp [num]
  | cons c l ih =>
    intro a
    have e : num (c :: l) = l.foldl (fun a c => a * 10 + (c.toNat - 48)) (0 * 10 + (c.toNat - 48)) := rfl
    rw [e, List.foldl_cons, ih, ih, List.length_cons, Nat.pow_succ, Nat.add_mul, Nat.zero_mul, Nat.zero_add, Nat.add_assoc, Nat.mul_assoc, Nat.mul_comm 10]
theorem num_cons (c : UInt8) (l : List UInt8) : num (c :: l) = (c.toNat - 48) * 10 ^ l.length + num l := by
  have e : num (c :: l) = l.foldl (fun a c => a * 10 + (c.toNat - 48)) (0 * 10 + (c.toNat - 48)) := rfl
  rw [e, num_from, Nat.zero_mul, Nat.zero_add]
theorem num_append (l m : List UInt8) : num (l ++ m) = num l * 10 ^ m.length + num m := by
  unfold num; rw [List.foldl_append, num_from]; rfl
theorem num_lt (l : List UInt8) (h : ∀ c ∈ l, IsDig c) : num l < 10 ^ l.length := by
  induction l with
  | nil => simp [num]
  | cons c l ih =>
    have h1 := ih (fun c hc => h c (List.mem_cons_of_mem _ hc))
    have h2 := h c List.mem_cons_self
    unfold IsDig at h2
    rw [num_cons, List.length_cons, Nat.pow_succ]
    have : (c.toNat - 48) * 10 ^ l.length ≤ 9 * 10 ^ l.length := Nat.mul_le_mul_right _ (by omega)
    omega
theorem num_zeros (k : Nat) : num (List.replicate k 48) = 0 := by
  induction k with
  | zero => rfl
  | succ k ih => rw [List.replicate_succ, num_cons, ih]; simp
theorem num_pad (l : List UInt8) (k : Nat) : num (l ++ List.replicate k 48) = num l * 10 ^ k := by
  rw [num_append, num_zeros, List.length_replicate, Nat.add_zero]
theorem num_ge (l : List UInt8) (h : ∀ c ∈ l, IsDig c) (hne : l ≠ []) (hh : l.head? ≠ some 48) : 10 ^ (l.length - 1) ≤ num l := by
  cases l with
  | nil => exact absurd rfl hne
  | cons c l =>
    rw [num_cons, List.length_cons, Nat.add_sub_cancel]
    have h2 := h c List.mem_cons_self
    unfold IsDig at h2
    have h3 : 48 < c.toNat := by
      rcases Nat.lt_or_ge 48 c.toNat with h | h
      · exact h
      · exact absurd (show (c :: l).head? = some 48 by
          have e : c = 48 := UInt8.toNat_inj.1 (show c.toNat = (48 : UInt8).toNat by show c.toNat = 48; omega)
          rw [e]; rfl) hh
    have : 1 * 10 ^ l.length ≤ (c.toNat - 48) * 10 ^ l.length := Nat.mul_le_mul_right _ (by omega)
    omega
theorem pow_inj_len {a b : Nat} {x : Nat} (h1 : 10 ^ (a - 1) ≤ x) (h2 : x < 10 ^ a) (h3 : 10 ^ (b - 1) ≤ x) (h4 : x < 10 ^ b) (ha : 0 < a) (hb : 0 < b) : a = b := by
  rcases Nat.lt_trichotomy a b with h | h | h
  · have : (10 : Nat) ^ a ≤ 10 ^ (b - 1) := Nat.pow_le_pow_right (by decide) (by omega)
    omega
  · exact h
  · have : (10 : Nat) ^ b ≤ 10 ^ (a - 1) := Nat.pow_le_pow_right (by decide) (by omega)
    omega
theorem num_inj_len : ∀ (l m : List UInt8), l.length = m.length → (∀ c ∈ l, IsDig c) → (∀ c ∈ m, IsDig c) → num l = num m → l = m := by
  intro l
  induction l with
  | nil => intro m hl _ _ _; exact (List.eq_nil_of_length_eq_zero hl.symm).symm
  | cons c l ih =>
    intro m hl h1 h2 hn
    cases m with
    | nil => simp at hl
    | cons d m =>
      have hl' : l.length = m.length := by simpa using hl
      rw [num_cons, num_cons, hl'] at hn
      have a1 := num_lt l (fun c hc => h1 c (List.mem_cons_of_mem _ hc))
      have a2 := num_lt m (fun c hc => h2 c (List.mem_cons_of_mem _ hc))
      rw [hl'] at a1
      have b1 := h1 c List.mem_cons_self
      have b2 := h2 d List.mem_cons_self
      unfold IsDig at b1 b2
      have hcd : c.toNat - 48 = d.toNat - 48 := by
        generalize 10 ^ m.length = p at *
        rcases Nat.lt_trichotomy (c.toNat - 48) (d.toNat - 48) with h | h | h
        · have : (c.toNat - 48 + 1) * p ≤ (d.toNat - 48) * p := Nat.mul_le_mul_right _ h
          rw [Nat.add_mul, Nat.one_mul] at this; omega
        · exact h
        · have : (d.toNat - 48 + 1) * p ≤ (c.toNat - 48) * p := Nat.mul_le_mul_right _ h
          rw [Nat.add_mul, Nat.one_mul] at this; omega
      have e : c = d := UInt8.toNat_inj.1 (by omega)
      subst e
      rw [ih m hl' (fun c hc => h1 c (List.mem_cons_of_mem _ hc)) (fun c hc => h2 c (List.mem_cons_of_mem _ hc)) (by omega)]
/-- Two rows of digits without a leading zero that spell one number are one row. -/
theorem num_inj (l m : List UInt8) (h1 : ∀ c ∈ l, IsDig c) (h2 : ∀ c ∈ m, IsDig c) (g1 : l ≠ []) (g2 : m ≠ []) (k1 : l.head? ≠ some 48) (k2 : m.head? ≠ some 48) (hn : num l = num m) : l = m := by
  have a1 := num_lt l h1
  have a2 := num_lt m h2
  have b1 := num_ge l h1 g1 k1
  have b2 := num_ge m h2 g2 k2
  rw [← hn] at a2 b2
  exact num_inj_len l m (pow_inj_len b1 a1 b2 a2 (List.length_pos_iff.2 g1) (List.length_pos_iff.2 g2)) h1 h2 hn
end Go.Proofs.Qxb6000399a
