import Derived.Test.Qxb6000399aParse
namespace Go.Proofs.Qxb6000399a
set_option linter.unusedVariables false
set_option linter.unusedSimpArgs false

theorem getD_mid (xs u ys : List UInt8) (i : Nat) (h : i < u.length) : (xs ++ (u ++ ys)).getD (xs.length + i) 0 = u.getD i 0 := by
  simp [List.getD, List.getElem?_append_right, List.getElem?_append_left h]
theorem dig_getD {l : List UInt8} (h : ∀ c ∈ l, IsDig c) {k : Nat} (hk : k < l.length) : IsDig (l.getD k 0) := by
  have e : l.getD k 0 = l[k] := by simp [List.getD, hk]
  rw [e]; exact h _ (List.getElem_mem hk)
def mk (neg : Bool) (I F : List UInt8) : List UInt8 := sgnL neg ++ (I ++ (if F = [] then [] else 46 :: F))
def stOf (neg : Bool) : Nat := if neg then 1 else 0
def qOf (neg : Bool) (I : List UInt8) : Nat := stOf neg + I.length
def fsOf (neg : Bool) (I F : List UInt8) : Nat := if F = [] then qOf neg I else qOf neg I + 1
theorem sgn_len (neg : Bool) : (sgnL neg).length = stOf neg := by cases neg <;> rfl
theorem mk_len (neg : Bool) (I F : List UInt8) : (mk neg I F).length = fsOf neg I F + F.length := by
  unfold mk fsOf qOf
  rw [List.length_append, List.length_append, sgn_len]
  by_cases h : F = []
  · subst h; simp
  · rw [if_neg h, if_neg h, List.length_cons]; omega
theorem mk_int (neg : Bool) (I F : List UInt8) (k : Nat) (h : k < I.length) : (mk neg I F).getD (stOf neg + k) 0 = I.getD k 0 := by
  unfold mk; rw [← sgn_len]; exact getD_mid _ _ _ k h
theorem mk_frac (neg : Bool) (I F : List UInt8) (k : Nat) (h : k < F.length) : (mk neg I F).getD (fsOf neg I F + k) 0 = F.getD k 0 := by
  have hF : F ≠ [] := by intro e; rw [e] at h; simp at h
  unfold mk fsOf qOf
  rw [if_neg hF, if_neg hF, ← sgn_len]
  have e : sgnL neg ++ (I ++ 46 :: F) = (sgnL neg ++ I ++ [46]) ++ (F ++ []) := by simp
  rw [e]
  have := getD_mid (sgnL neg ++ I ++ [46]) F [] k h
  rw [List.length_append, List.length_append, List.length_singleton] at this
  exact this
theorem pt_of (neg : Bool) (I F : List UInt8) (hI : I ≠ []) (dI : ∀ c ∈ I, IsDig c) (dF : ∀ c ∈ F, IsDig c) : PT (mk neg I F) neg (stOf neg) (qOf neg I) (fsOf neg I F) := by
  have hp := List.length_pos_iff.2 hI
  refine ⟨rfl, ?_, ?_, ?_, ?_, ?_⟩
  · rintro rfl; rfl
  · unfold qOf; omega
  · intro k h1 h2
    unfold qOf at h2
    have := mk_int neg I F (k - stOf neg) (by omega)
    rw [show stOf neg + (k - stOf neg) = k by omega] at this
    rw [this]; exact dig_getD dI (by omega)
  · intro k h1 h2
    rw [mk_len] at h2
    have := mk_frac neg I F (k - fsOf neg I F) (by omega)
    rw [show fsOf neg I F + (k - fsOf neg I F) = k by omega] at this
    rw [this]; exact dig_getD dF (by omega)
  · by_cases h : F = []
    · left
      rw [mk_len, h]
      unfold fsOf; rw [if_pos rfl]
      exact ⟨rfl, rfl⟩
    · right
      have hF := List.length_pos_iff.2 h
      have hf : fsOf neg I F = qOf neg I + 1 := by unfold fsOf; rw [if_neg h]
      refine ⟨hf, by rw [mk_len]; omega, ?_⟩
      unfold mk qOf
      rw [if_neg h, ← sgn_len]
      have e : sgnL neg ++ (I ++ 46 :: F) = (sgnL neg ++ I) ++ ([46] ++ F) := by simp
      rw [e]
      have := getD_mid (sgnL neg ++ I) [46] F 0 (by simp)
      rw [List.length_append, Nat.add_zero] at this
      exact this
theorem ext_getD {a b : List UInt8} (hl : a.length = b.length) (h : ∀ j, j < a.length → a.getD j 0 = b.getD j 0) : a = b := by
  apply List.ext_getElem hl
  intro j h1 h2
  have := h j h1
  simpa [List.getD, h1, h2] using this
theorem cut_int (neg : Bool) (I F : List UInt8) : cutT (mk neg I F) (stOf neg) (qOf neg I) = I := by
  have hq : qOf neg I ≤ (mk neg I F).length := by rw [mk_len]; unfold fsOf; split <;> omega
  apply ext_getD
  · rw [cutT_len _ _ _ hq]; unfold qOf; omega
  · intro j hj
    rw [cutT_len _ _ _ hq] at hj
    rw [cutT_get _ _ _ j hq hj]
    exact mk_int neg I F j (by unfold qOf at hj; omega)
theorem cut_frac (neg : Bool) (I F : List UInt8) : cutT (mk neg I F) (fsOf neg I F) (mk neg I F).length = F := by
  apply ext_getD
  · rw [cutT_len _ _ _ (Nat.le_refl _), mk_len]; omega
  · intro j hj
    rw [cutT_len _ _ _ (Nat.le_refl _)] at hj
    rw [cutT_get _ _ _ j (Nat.le_refl _) hj]
    exact mk_frac neg I F j (by rw [mk_len] at hj; omega)

/-! ### Zeros on both sides -/
theorem rep_get (a j : Nat) (h : j < a) : (List.replicate a (48 : UInt8)).getD j 0 = 48 := by simp [List.getD, h]
theorem side_left (a : Nat) (R : List UInt8) (j : Nat) (h : j < a) : (List.replicate a 48 ++ R).getD j 0 = 48 := by
  have := getD_mid [] (List.replicate a 48) R j (by simpa using h)
  rw [List.nil_append, List.length_nil, Nat.zero_add] at this
  rw [this]; exact rep_get a j h
theorem side_mid (a b : Nat) (l : List UInt8) (j : Nat) (h : j < l.length) : (List.replicate a 48 ++ (l ++ List.replicate b 48)).getD (a + j) 0 = l.getD j 0 := by
  have := getD_mid (List.replicate a 48) l (List.replicate b 48) j h
  rw [List.length_replicate] at this; exact this
theorem side_right (a b : Nat) (l : List UInt8) (j : Nat) (h : j < b) : (List.replicate a 48 ++ (l ++ List.replicate b 48)).getD (a + l.length + j) 0 = 48 := by
  have e : List.replicate a 48 ++ (l ++ List.replicate b 48) = (List.replicate a (48 : UInt8) ++ l) ++ (List.replicate b 48 ++ []) := by simp
  rw [e]
  have := getD_mid (List.replicate a 48 ++ l) (List.replicate b 48) [] j (by simpa using h)
  rw [List.length_append, List.length_replicate] at this
  rw [this]; exact rep_get b j h
theorem side_len (a b : Nat) (l : List UInt8) : (List.replicate a 48 ++ (l ++ List.replicate b 48)).length = a + l.length + b := by
  rw [List.length_append, List.length_append, List.length_replicate, List.length_replicate]; omega
theorem pz_some (a b : Nat) (l : List UInt8) (hl : l ≠ []) (h1 : l.head? ≠ some 48) (h2 : l.getLast? ≠ some 48) : PZ (List.replicate a 48 ++ (l ++ List.replicate b 48)) a (a + l.length) := by
  have hp := List.length_pos_iff.2 hl
  refine ⟨by omega, by rw [side_len]; omega, fun j hj => side_left a _ j hj, ?_, ?_, ?_⟩
  · intro _ e
    have := side_mid a b l 0 hp
    rw [Nat.add_zero] at this
    rw [this] at e
    apply h1
    rw [List.head?_eq_getElem?]
    simp [List.getD, hp] at e
    rw [List.getElem?_eq_getElem hp, e]
  · intro j h3 h4
    rw [side_len] at h4
    have := side_right a b l (j - (a + l.length)) (by omega)
    rw [show a + l.length + (j - (a + l.length)) = j by omega] at this
    exact this
  · intro _ e
    have := side_mid a b l (l.length - 1) (by omega)
    rw [show a + (l.length - 1) = a + l.length - 1 by omega] at this
    rw [this] at e
    apply h2
    rw [List.getLast?_eq_getElem?]
    have hq : l.length - 1 < l.length := by omega
    simp [List.getD, hq] at e
    rw [List.getElem?_eq_getElem hq, e]
theorem cut_mid (a b : Nat) (l : List UInt8) : cutT (List.replicate a 48 ++ (l ++ List.replicate b 48)) a (a + l.length) = l := by
  have hq : a + l.length ≤ (List.replicate a 48 ++ (l ++ List.replicate b 48)).length := by rw [side_len]; omega
  apply ext_getD
  · rw [cutT_len _ _ _ hq]; omega
  · intro j hj
    rw [cutT_len _ _ _ hq] at hj
    rw [cutT_get _ _ _ j hq hj]
    exact side_mid a b l j (by omega)
theorem pz_none (n : Nat) : PZ (List.replicate n 48) n n := by
  refine ⟨Nat.le_refl _, by simp, fun j hj => rep_get n j hj, ?_, ?_, ?_⟩
  · intro h; simp at h
  · intro j h1 h2; simp at h2; omega
  · intro h; omega
/-! ### The text of a decimal -/
theorem rep_add (a b : Nat) : List.replicate (a + b) (48 : UInt8) = List.replicate a 48 ++ List.replicate b 48 := List.replicate_append_replicate.symm
theorem dig48 : IsDig 48 := by unfold IsDig; decide
theorem dig_rep (n : Nat) : ∀ c ∈ List.replicate n (48 : UInt8), IsDig c := by
  intro c hc; rw [(List.mem_replicate.1 hc).2]; exact dig48
theorem dig_app {a b : List UInt8} (ha : ∀ c ∈ a, IsDig c) (hb : ∀ c ∈ b, IsDig c) : ∀ c ∈ a ++ b, IsDig c := by
  intro c hc; rcases List.mem_append.1 hc with h | h
  · exact ha c h
  · exact hb c h
/-- The digits behind the point, none where the scale is nought. -/
def fracOf (l : List UInt8) (exp scale : Int) : List UInt8 := if scale = 0 then [] else fracP l exp scale (wholeOf l exp)
theorem frac_len {l : List UInt8} {exp scale : Int} {neg : Bool} (h : Bounded l exp scale neg) : ((fracOf l exp scale).length : Int) = scale := by
  have h0 := h.shape.scale0
  have h1 := h.shape.shown
  unfold fracOf
  by_cases hs : scale = 0
  · rw [if_pos hs]; simp [hs]
  · rw [if_neg hs]
    unfold fracP
    by_cases he : exp < 0
    · have hl : l ≠ [] := fun e => by have := (h.shape.zero e).2; omega
      have hw : wholeOf l exp = (l.length : Int) + exp := by unfold wholeOf; rw [if_neg hl]
      rw [if_pos he, hw]
      by_cases hw0 : (l.length : Int) + exp < 0
      · rw [if_pos hw0, List.length_append, List.length_append, List.length_replicate, List.length_replicate]; omega
      · rw [if_neg hw0, List.length_append, List.length_drop, List.length_replicate]; omega
    · rw [if_neg he, List.length_replicate]; omega
theorem frac_dig {l : List UInt8} {exp scale : Int} {neg : Bool} (h : Bounded l exp scale neg) : ∀ c ∈ fracOf l exp scale, IsDig c := by
  have hd := h.shape.dig
  unfold fracOf
  split
  · intro c hc; cases hc
  · unfold fracP
    split
    · apply dig_app _ (dig_rep _)
      split
      · exact dig_app (dig_rep _) hd
      · intro c hc; exact hd c (List.mem_of_mem_drop hc)
    · exact dig_rep _
theorem int_dig {l : List UInt8} {exp scale : Int} {neg : Bool} (h : Bounded l exp scale neg) : ∀ c ∈ intP l (wholeOf l exp), IsDig c := by
  have hd := h.shape.dig
  unfold intP
  split
  · intro c hc; rw [List.mem_singleton.1 hc]; exact dig48
  · split
    · intro c hc; exact hd c (List.mem_of_mem_take hc)
    · exact dig_app hd (dig_rep _)
theorem int_ne {l : List UInt8} {exp scale : Int} {neg : Bool} (h : Bounded l exp scale neg) : intP l (wholeOf l exp) ≠ [] := by
  intro e
  have e1 := congrArg List.length e
  rw [List.length_nil] at e1
  unfold intP at e1
  split at e1
  · simp at e1
  · split at e1
    · rw [List.length_take] at e1; omega
    · rw [List.length_append, List.length_replicate] at e1; omega
theorem text_mk {l : List UInt8} {exp scale : Int} {neg : Bool} (h : Bounded l exp scale neg) : textP l exp scale neg = mk neg (intP l (wholeOf l exp)) (fracOf l exp scale) := by
  have hl := frac_len h
  unfold textP mk tailP
  rw [List.append_assoc]
  by_cases hs : scale = 0
  · have e : fracOf l exp scale = [] := by unfold fracOf; rw [if_pos hs]
    rw [e, if_pos hs, if_pos rfl]
  · have e : fracOf l exp scale = fracP l exp scale (wholeOf l exp) := by unfold fracOf; rw [if_neg hs]
    have hne : fracOf l exp scale ≠ [] := by intro e2; rw [e2] at hl; simp at hl; omega
    rw [if_neg hs, if_neg hne, e]
theorem coef_zero {exp scale : Int} {neg : Bool} (h : Bounded [] exp scale neg) : intP [] (wholeOf [] exp) ++ fracOf [] exp scale = List.replicate (1 + scale.toNat) 48 := by
  have he := (h.shape.zero rfl).2
  subst he
  have hw : wholeOf [] 0 = 0 := by unfold wholeOf; rw [if_pos rfl]
  unfold intP fracOf fracP
  rw [hw, if_pos (by omega), if_neg (by omega : ¬ (0 : Int) < 0), rep_add]
  by_cases hs : scale = 0
  · subst hs; rfl
  · rw [if_neg hs]; rfl
theorem coef_some {l : List UInt8} {exp scale : Int} {neg : Bool} (h : Bounded l exp scale neg) (hl : l ≠ []) :
    ∃ a, intP l (wholeOf l exp) ++ fracOf l exp scale = List.replicate a 48 ++ (l ++ List.replicate (exp + scale).toNat 48) := by
  have h0 := h.shape.scale0
  have h1 := h.shape.shown
  have hw : wholeOf l exp = (l.length : Int) + exp := by unfold wholeOf; rw [if_neg hl]
  have hp := List.length_pos_iff.2 hl
  have hc : exp + scale = scale + exp := Int.add_comm _ _
  unfold fracOf
  rw [hw, hc]
  by_cases he : exp < 0
  · have hs : scale ≠ 0 := by omega
    rw [if_neg hs]
    unfold intP fracP
    rw [if_pos he]
    by_cases hw0 : (l.length : Int) + exp ≤ 0
    · rw [if_pos hw0]
      by_cases hw1 : (l.length : Int) + exp < 0
      · refine ⟨1 + (-((l.length : Int) + exp)).toNat, ?_⟩
        rw [if_pos hw1, rep_add]
        simp
      · refine ⟨1, ?_⟩
        have : ((l.length : Int) + exp).toNat = 0 := by omega
        rw [if_neg hw1, this, List.drop_zero]
        rfl
    · refine ⟨0, ?_⟩
      rw [if_neg hw0, if_pos (by omega), if_neg (by omega), ← List.append_assoc, List.take_append_drop]
      rfl
  · refine ⟨0, ?_⟩
    have hF : (if scale = 0 then [] else fracP l exp scale ((l.length : Int) + exp)) = List.replicate scale.toNat 48 := by
      by_cases hs : scale = 0
      · rw [if_pos hs, hs]; rfl
      · rw [if_neg hs]; unfold fracP; rw [if_neg he]
    rw [hF]
    unfold intP
    rw [if_neg (by omega)]
    by_cases hw2 : (l.length : Int) + exp ≤ l.length
    · have he0 : exp = 0 := by omega
      rw [if_pos hw2, he0, List.take_of_length_le (by omega), Int.add_zero]; rfl
    · rw [if_neg hw2, List.append_assoc, ← rep_add]
      have : ((l.length : Int) + exp - l.length).toNat + scale.toNat = (scale + exp).toNat := by omega
      rw [this]; rfl
/-- THE PLAIN LAW: the text, cut as the parser cuts it, gives the fields back. -/
theorem round_trip {l : List UInt8} {exp scale : Int} {neg : Bool} (h : Bounded l exp scale neg) :
    ∃ la tr, PZ (intP l (wholeOf l exp) ++ fracOf l exp scale) la tr ∧ cutT (intP l (wholeOf l exp) ++ fracOf l exp scale) la tr = l ∧
      (if la = tr then 0 else ((intP l (wholeOf l exp) ++ fracOf l exp scale).length : Int) - tr - (fracOf l exp scale).length) = exp := by
  have hfl := frac_len h
  by_cases hl : l = []
  · subst hl
    refine ⟨1 + scale.toNat, 1 + scale.toNat, ?_, ?_, ?_⟩
    · rw [coef_zero h]; exact pz_none _
    · rw [cutT_self]
    · rw [if_pos rfl]; exact (h.shape.zero rfl).2.symm
  · obtain ⟨a, ha⟩ := coef_some h hl
    have hp := List.length_pos_iff.2 hl
    have h1 := h.shape.shown
    refine ⟨a, a + l.length, ?_, ?_, ?_⟩
    · rw [ha]; exact pz_some _ _ l hl h.shape.first h.shape.last
    · rw [ha]; exact cut_mid _ _ l
    · rw [if_neg (by omega), hfl, ha, side_len]; omega
theorem text_len {l : List UInt8} {exp scale : Int} {neg : Bool} (h : Bounded l exp scale neg) (hl : l.length ≤ 65536) : (textP l exp scale neg).length ≤ 400000 := by
  rw [text_mk h, mk_len]
  have h1 := frac_len h
  have h2 := intP_len l (wholeOf l exp) (by unfold wholeOf; have := h.hi; split <;> omega) hl
  have h3 := h.sc
  unfold fsOf qOf stOf
  split <;> split <;> omega
end Go.Proofs.Qxb6000399a
