import Derived.Test.Qxb6000399aPlain
import Derived.Lib.Bytealg
/-! The plain law of Cmp: no Go in sight. -/
namespace Go.Proofs.Qxb6000399a
set_option linter.unusedVariables false
set_option linter.unusedSimpArgs false

def cmpI (a b : Int) : Int := if a < b then -1 else if b < a then 1 else 0
/-- The sign as Decimal.Sign and as zzSignDB1 reckon it. -/
def sign1 (l : List UInt8) (neg : Bool) : Int := if neg then -1 else if l = [] then 0 else 1
def sign2 (l : List UInt8) (neg : Bool) : Int := if l = [] then 0 else if neg then -1 else 1
theorem sign_eq {l : List UInt8} {exp scale : Int} {neg : Bool} (h : Bounded l exp scale neg) : sign1 l neg = sign2 l neg := by
  unfold sign1 sign2
  by_cases hl : l = []
  · have := (h.shape.zero hl).1
    subst this
    rw [if_pos hl]; simp [hl]
  · rw [if_neg hl, if_neg hl]
theorem cmpB_nil_left (l : List UInt8) (h : l ≠ []) : Lib.compareBytes [] l = -1 := by
  cases l with
  | nil => exact absurd rfl h
  | cons c r => rfl
theorem cmpB_nil_right (l : List UInt8) (h : l ≠ []) : Lib.compareBytes l [] = 1 := by
  cases l with
  | nil => exact absurd rfl h
  | cons c r => rfl
theorem cmpB_anti : ∀ a b : List UInt8, Lib.compareBytes b a = -Lib.compareBytes a b := by
  intro a
  induction a with
  | nil => intro b; cases b <;> rfl
  | cons x a ih =>
    intro b
    cases b with
    | nil => rfl
    | cons y b =>
      show (if y < x then (-1 : Int) else if x < y then 1 else Lib.compareBytes b a) = -(if x < y then (-1 : Int) else if y < x then 1 else Lib.compareBytes a b)
      by_cases h1 : x < y
      · have h2 : ¬ y < x := fun h => by rw [UInt8.lt_iff_toNat_lt] at h h1; omega
        rw [if_neg h2, if_pos h1, if_pos h1]; rfl
      · by_cases h2 : y < x
        · rw [if_pos h2, if_neg h1, if_pos h2]
        · rw [if_neg h2, if_neg h1, if_neg h1, if_neg h2]; exact ih b
theorem cmpB_zeros : ∀ (l : List UInt8) (k : Nat), l.length = k → 0 < k → (∀ c ∈ l, IsDig c) → l.getLast? ≠ some 48 → Lib.compareBytes l (List.replicate k 48) = 1 := by
  intro l
  induction l with
  | nil => intro k hl hk _ _; simp at hl; omega
  | cons c l ih =>
    intro k hl hk hd hlast
    obtain ⟨j, rfl⟩ : ∃ j, k = j + 1 := ⟨k - 1, by omega⟩
    have hlj : l.length = j := by simpa using hl
    have hc := hd c List.mem_cons_self
    unfold IsDig at hc
    rw [List.replicate_succ]
    unfold Lib.compareBytes
    have h1 : ¬ c < 48 := fun h => by rw [UInt8.lt_iff_toNat_lt] at h; have : (48 : UInt8).toNat = 48 := rfl; omega
    rw [if_neg h1]
    by_cases h2 : 48 < c
    · rw [if_pos h2]
    · rw [if_neg h2]
      have hc48 : c = 48 := UInt8.toNat_inj.1 (by
        rw [UInt8.lt_iff_toNat_lt] at h2
        have : (48 : UInt8).toNat = 48 := rfl
        omega)
      cases l with
      | nil => exact absurd (by rw [hc48]; rfl) hlast
      | cons d l =>
        apply ih j hlj (by rw [← hlj]; simp) (fun c hc => hd c (List.mem_cons_of_mem _ hc))
        rw [List.getLast?_cons_cons] at hlast
        exact hlast
theorem cmpB_pad : ∀ (lb la : List UInt8) (k : Nat), la.length = lb.length + k → (∀ c ∈ la, IsDig c) → la.getLast? ≠ some 48 → Lib.compareBytes la (lb ++ List.replicate k 48) = Lib.compareBytes la lb := by
  intro lb
  induction lb with
  | nil =>
    intro la k hl hd hlast
    rw [List.nil_append]
    rcases Nat.eq_zero_or_pos k with h | h
    · subst h; rfl
    · have hne : la ≠ [] := by intro e; rw [e] at hl; simp at hl; omega
      rw [cmpB_zeros la k (by simpa using hl) h hd hlast, cmpB_nil_right la hne]
  | cons b lb ih =>
    intro la k hl hd hlast
    cases la with
    | nil => simp at hl; omega
    | cons a la =>
      rw [List.cons_append]
      unfold Lib.compareBytes
      have hl' : la.length = lb.length + k := by simp at hl; omega
      cases hla : la with
      | nil =>
        have h0 : lb = [] := List.eq_nil_of_length_eq_zero (by rw [hla] at hl'; simp at hl'; omega)
        have hk0 : k = 0 := by rw [hla] at hl'; simp at hl'; omega
        subst h0 hk0; rfl
      | cons d la' =>
        rw [hla] at hlast hl' hd
        rw [ih (d :: la') k hl' (fun c hc => hd c (List.mem_cons_of_mem _ hc)) (by rw [List.getLast?_cons_cons] at hlast; exact hlast)]
/-- The model's comparison of two rows of digits. -/
def cmpMag (x y : List UInt8) : Int := if x.length < y.length then -1 else if y.length < x.length then 1 else Lib.compareBytes x y
def pad (l : List UInt8) (z : Int) : List UInt8 := l ++ List.replicate z.toNat 48
/-- Cmp's own answer for two numbers of one sign, not nought. -/
def cmpAbs (la : List UInt8) (ea : Int) (lb : List UInt8) (eb : Int) : Int :=
  if cmpI ((la.length : Int) + ea) ((lb.length : Int) + eb) = 0 then Lib.compareBytes la lb else cmpI ((la.length : Int) + ea) ((lb.length : Int) + eb)
theorem pad_len (l : List UInt8) (z : Int) (h : 0 ≤ z) : ((pad l z).length : Int) = (l.length : Int) + z := by
  unfold pad; rw [List.length_append, List.length_replicate]; omega
theorem pad_zero (l : List UInt8) : pad l 0 = l := by unfold pad; simp
/-- THE PLAIN LAW. -/
theorem cmp_agrees {la lb : List UInt8} {ea eb sa sb : Int} {na nb : Bool} (ha : Bounded la ea sa na) (hb : Bounded lb eb sb nb) (e : Int) (he : e = if eb < ea then eb else ea) :
    cmpAbs la ea lb eb = cmpMag (pad la (ea - e)) (pad lb (eb - e)) := by
  have e1 : e ≤ ea := by rw [he]; split <;> omega
  have e2 : e ≤ eb := by rw [he]; split <;> omega
  have p1 := pad_len la (ea - e) (by omega)
  have p2 := pad_len lb (eb - e) (by omega)
  unfold cmpAbs cmpMag cmpI
  by_cases h1 : (la.length : Int) + ea < (lb.length : Int) + eb
  · rw [if_pos h1, if_neg (by omega), if_pos (by omega)]
  · rw [if_neg h1]
    by_cases h2 : (lb.length : Int) + eb < (la.length : Int) + ea
    · rw [if_pos h2, if_neg (by omega), if_neg (by omega), if_pos (by omega)]
    · rw [if_neg h2, if_pos rfl, if_neg (by omega), if_neg (by omega)]
      by_cases h3 : eb < ea
      · rw [if_pos h3] at he
        have hz : eb - e = 0 := by omega
        rw [hz, pad_zero]
        have := cmpB_pad la lb (ea - e).toNat (by omega) hb.shape.dig hb.shape.last
        unfold pad
        rw [cmpB_anti lb (la ++ List.replicate (ea - e).toNat 48), this, ← cmpB_anti]
      · rw [if_neg h3] at he
        have hz : ea - e = 0 := by omega
        rw [hz, pad_zero]
        have := cmpB_pad lb la (eb - e).toNat (by omega) ha.shape.dig ha.shape.last
        unfold pad
        rw [this]
theorem cmpB_bd : ∀ a b : List UInt8, -1 ≤ Lib.compareBytes a b ∧ Lib.compareBytes a b ≤ 1 := by
  intro a
  induction a with
  | nil => intro b; cases b <;> simp [Lib.compareBytes]
  | cons x a ih =>
    intro b
    cases b with
    | nil => simp [Lib.compareBytes]
    | cons y b =>
      unfold Lib.compareBytes
      split
      · omega
      · split
        · omega
        · exact ih b
end Go.Proofs.Qxb6000399a
