import Derived.RowKit
/-! The plain lists of keepSeparators: text cut into units. No Go in sight. -/
namespace Go.Proofs.Qxb6602354a
set_option linter.unusedVariables false
set_option linter.unusedSimpArgs false

/-- A unit of well escaped text: a plain byte, an escape of two bytes, or one of six. -/
def IsUnit (u : List Int) : Prop := (∃ c, c ≠ 92 ∧ u = [c]) ∨ (∃ d, d ≠ 117 ∧ u = [92, d]) ∨ (∃ a b c d, u = [92, 117, a, b, c, d])
def sep8 : List Int := [92, 117, 50, 48, 50, 56]
def sep9 : List Int := [92, 117, 50, 48, 50, 57]
/-- What becomes of a unit. -/
def conv (u : List Int) : List Int := if u = sep8 then [226, 128, 168] else if u = sep9 then [226, 128, 169] else u
def Units (us : List (List Int)) (zs : List Int) : Prop := us.flatten = zs ∧ ∀ u ∈ us, IsUnit u
def kept (us : List (List Int)) : List Int := (us.map conv).flatten

theorem Units.nil : Units [] [] := ⟨rfl, fun u h => by cases h⟩
theorem Units.snoc {us : List (List Int)} {zs u : List Int} (h : Units us zs) (hu : IsUnit u) : Units (us ++ [u]) (zs ++ u) := by
  refine ⟨?_, ?_⟩
  · rw [List.flatten_append, h.1]; simp
  · intro x hx
    rcases List.mem_append.1 hx with hx | hx
    · exact h.2 x hx
    · rw [List.mem_singleton] at hx; subst hx; exact hu
theorem kept_snoc (us : List (List Int)) (u : List Int) : kept (us ++ [u]) = kept us ++ conv u := by simp [kept]
theorem kept_append (us vs : List (List Int)) : kept (us ++ vs) = kept us ++ kept vs := by simp [kept]
theorem kept_cons (u : List Int) (vs : List (List Int)) : kept (u :: vs) = conv u ++ kept vs := by simp [kept]
theorem flat_snoc (us : List (List Int)) (u : List Int) : (us ++ [u]).flatten = us.flatten ++ u := by simp

theorem take_more (zs : List Int) (k m : Nat) : zs.take (k + m) = zs.take k ++ (zs.drop k).take m := List.take_add
theorem getD_at {zs : List Int} {k : Nat} (h : k < zs.length) : zs.getD k 0 = zs[k] := by simp [List.getD, h]
theorem window_succ (zs : List Int) (k m : Nat) (h : k < zs.length) : (zs.drop k).take (m + 1) = zs.getD k 0 :: (zs.drop (k + 1)).take m := by
  rw [List.drop_eq_getElem_cons h, List.take_succ_cons, getD_at h]
theorem window1 (zs : List Int) (k : Nat) (h : k + 1 ≤ zs.length) : (zs.drop k).take 1 = [zs.getD k 0] := by
  rw [window_succ zs k 0 (by omega), List.take_zero]
theorem window2 (zs : List Int) (k : Nat) (h : k + 2 ≤ zs.length) : (zs.drop k).take 2 = [zs.getD k 0, zs.getD (k + 1) 0] := by
  rw [window_succ zs k 1 (by omega), window1 zs (k + 1) (by omega)]
theorem window6 (zs : List Int) (k : Nat) (h : k + 6 ≤ zs.length) :
    (zs.drop k).take 6 = [zs.getD k 0, zs.getD (k + 1) 0, zs.getD (k + 2) 0, zs.getD (k + 3) 0, zs.getD (k + 4) 0, zs.getD (k + 5) 0] := by
  rw [window_succ zs k 5 (by omega), window_succ zs (k + 1) 4 (by omega), window_succ zs (k + 2) 3 (by omega), window_succ zs (k + 3) 2 (by omega), window2 zs (k + 4) (by omega)]

theorem step1 {us : List (List Int)} {zs : List Int} {k : Nat} (h : Units us (zs.take k)) (hk : k + 1 ≤ zs.length) (h1 : zs.getD k 0 ≠ 92) :
    ∃ us', Units us' (zs.take (k + 1)) := by
  rw [take_more, window1 zs k hk]
  exact ⟨_, h.snoc (Or.inl ⟨_, h1, rfl⟩)⟩
theorem step2 {us : List (List Int)} {zs : List Int} {k : Nat} (h : Units us (zs.take k)) (hk : k + 2 ≤ zs.length) (h1 : zs.getD k 0 = 92) (h2 : zs.getD (k + 1) 0 ≠ 117) :
    ∃ us', Units us' (zs.take (k + 2)) := by
  rw [take_more, window2 zs k hk, h1]
  exact ⟨_, h.snoc (Or.inr (Or.inl ⟨_, h2, rfl⟩))⟩
theorem step6 {us : List (List Int)} {zs : List Int} {k : Nat} (h : Units us (zs.take k)) (hk : k + 6 ≤ zs.length) (h1 : zs.getD k 0 = 92) (h2 : zs.getD (k + 1) 0 = 117) :
    ∃ us', Units us' (zs.take (k + 6)) := by
  rw [take_more, window6 zs k hk, h1, h2]
  exact ⟨_, h.snoc (Or.inr (Or.inr ⟨_, _, _, _, rfl⟩))⟩

/-- Six bytes of text at j are one of the two escapes. -/
def sepB (zs : List Int) (j : Nat) : Bool :=
  decide (j + 6 ≤ zs.length ∧ zs.getD j 0 = 92 ∧ zs.getD (j + 1) 0 = 117 ∧ zs.getD (j + 2) 0 = 50 ∧ zs.getD (j + 3) 0 = 48 ∧ zs.getD (j + 4) 0 = 50 ∧ (zs.getD (j + 5) 0 = 56 ∨ zs.getD (j + 5) 0 = 57))
theorem sepB_no {zs : List Int} {j : Nat} (h : ¬ (j + 6 ≤ zs.length ∧ zs.getD j 0 = 92 ∧ zs.getD (j + 1) 0 = 117 ∧ zs.getD (j + 2) 0 = 50 ∧ zs.getD (j + 3) 0 = 48 ∧ zs.getD (j + 4) 0 = 50 ∧ (zs.getD (j + 5) 0 = 56 ∨ zs.getD (j + 5) 0 = 57))) : sepB zs j = false := by
  unfold sepB; exact decide_eq_false h
theorem sepB_yes {zs : List Int} {j : Nat} (h : j + 6 ≤ zs.length ∧ zs.getD j 0 = 92 ∧ zs.getD (j + 1) 0 = 117 ∧ zs.getD (j + 2) 0 = 50 ∧ zs.getD (j + 3) 0 = 48 ∧ zs.getD (j + 4) 0 = 50 ∧ (zs.getD (j + 5) 0 = 56 ∨ zs.getD (j + 5) 0 = 57)) : sepB zs j = true := by
  unfold sepB; exact decide_eq_true h
/-- The length of the unit at j, as zzUnitLen reckons it. -/
def ulen (zs : List Int) (j : Nat) : Nat := if zs.getD j 0 = 92 then (if j + 2 ≤ zs.length ∧ zs.getD (j + 1) 0 = 117 then 6 else 2) else 1

/-- A boundary between two units: p bytes of text, k bytes of the answer. -/
def At (us : List (List Int)) (p k : Nat) : Prop := ∃ pre post, us = pre ++ post ∧ p = pre.flatten.length ∧ k = (kept pre).length
theorem At.zero (us : List (List Int)) : At us 0 0 := ⟨[], us, rfl, rfl, rfl⟩

theorem unit_pos {u : List Int} (h : IsUnit u) : 0 < u.length := by
  rcases h with ⟨c, _, rfl⟩ | ⟨d, _, rfl⟩ | ⟨a, b, c, d, rfl⟩ <;> simp
theorem getD_mid (xs u ys : List Int) (i : Nat) (h : i < u.length) : (xs ++ (u ++ ys)).getD (xs.length + i) 0 = u.getD i 0 := by
  simp [List.getD, List.getElem?_append_right, List.getElem?_append_left h]

/-- What stands at a boundary that is not the end. -/
structure Next (us : List (List Int)) (p k : Nat) (u : List Int) : Prop where
  unit : IsUnit u
  fits : p + u.length ≤ us.flatten.length
  room : k + (conv u).length ≤ (kept us).length
  text : ∀ i, i < u.length → us.flatten.getD (p + i) 0 = u.getD i 0
  out : ∀ i, i < (conv u).length → (kept us).getD (k + i) 0 = (conv u).getD i 0
  next : At us (p + u.length) (k + (conv u).length)

theorem At.go {us : List (List Int)} {p k : Nat} (h : At us p k) (hu : ∀ u ∈ us, IsUnit u) (hp : p < us.flatten.length) : ∃ u, Next us p k u := by
  obtain ⟨pre, post, rfl, rfl, rfl⟩ := h
  cases post with
  | nil => simp at hp
  | cons u post =>
    refine ⟨u, hu u (by simp), ?_, ?_, ?_, ?_, ?_⟩
    · rw [List.flatten_append, List.flatten_cons, List.length_append, List.length_append]; omega
    · rw [kept_append, kept_cons, List.length_append, List.length_append]; omega
    · intro i hi
      rw [List.flatten_append, List.flatten_cons]
      exact getD_mid _ _ _ i hi
    · intro i hi
      rw [kept_append, kept_cons]
      exact getD_mid _ _ _ i hi
    · exact ⟨pre ++ [u], post, by simp, by simp, by rw [kept_snoc, List.length_append]⟩
theorem At.done {us : List (List Int)} {p k : Nat} (h : At us p k) (hu : ∀ u ∈ us, IsUnit u) (hp : ¬ p < us.flatten.length) : k = (kept us).length := by
  obtain ⟨pre, post, rfl, rfl, rfl⟩ := h
  cases post with
  | nil => simp
  | cons u post =>
    have := unit_pos (hu u (by simp))
    rw [List.flatten_append, List.flatten_cons, List.length_append, List.length_append] at hp
    omega

theorem conv_plain {u : List Int} (h8 : u ≠ sep8) (h9 : u ≠ sep9) : conv u = u := by unfold conv; rw [if_neg h8, if_neg h9]
theorem conv8 : conv sep8 = [226, 128, 168] := by decide
theorem conv9 : conv sep9 = [226, 128, 169] := by decide

theorem Next.ulen {us : List (List Int)} {p k : Nat} {u : List Int} (h : Next us p k u) : ulen us.flatten p = u.length := by
  have ht := h.text
  have hf := h.fits
  unfold Qxb6602354a.ulen
  rcases h.unit with ⟨c, hc, rfl⟩ | ⟨d, hd, rfl⟩ | ⟨a, b, c, d, rfl⟩
  · have t0 : us.flatten.getD p 0 = c := ht 0 (by simp)
    rw [t0, if_neg hc]; rfl
  · have t0 : us.flatten.getD p 0 = 92 := ht 0 (by simp)
    have t1 : us.flatten.getD (p + 1) 0 = d := ht 1 (by simp)
    rw [t0, t1, if_pos rfl, if_neg (fun hh => hd hh.2)]; rfl
  · have t0 : us.flatten.getD p 0 = 92 := ht 0 (by simp)
    have t1 : us.flatten.getD (p + 1) 0 = 117 := ht 1 (by simp)
    simp only [List.length_cons, List.length_nil] at hf
    rw [t0, t1, if_pos rfl, if_pos ⟨by omega, rfl⟩]; rfl

theorem Next.sepB {us : List (List Int)} {p k : Nat} {u : List Int} (h : Next us p k u) : sepB us.flatten p = decide (u = sep8 ∨ u = sep9) := by
  have ht := h.text
  have hf := h.fits
  rcases h.unit with ⟨c, hc, rfl⟩ | ⟨d, hd, rfl⟩ | ⟨a, b, c, d, rfl⟩
  · have t0 : us.flatten.getD p 0 = c := ht 0 (by simp)
    rw [sepB_no (by rw [t0]; intro hh; exact hc hh.2.1)]
    simp [sep8, sep9]
  · have t1 : us.flatten.getD (p + 1) 0 = d := ht 1 (by simp)
    rw [sepB_no (by rw [t1]; intro hh; exact hd hh.2.2.1)]
    simp [sep8, sep9]
  · have t0 : us.flatten.getD p 0 = 92 := ht 0 (by simp)
    have t1 : us.flatten.getD (p + 1) 0 = 117 := ht 1 (by simp)
    have t2 : us.flatten.getD (p + 2) 0 = a := ht 2 (by simp)
    have t3 : us.flatten.getD (p + 3) 0 = b := ht 3 (by simp)
    have t4 : us.flatten.getD (p + 4) 0 = c := ht 4 (by simp)
    have t5 : us.flatten.getD (p + 5) 0 = d := ht 5 (by simp)
    simp only [List.length_cons, List.length_nil] at hf
    unfold Qxb6602354a.sepB
    rw [t0, t1, t2, t3, t4, t5, Bool.eq_iff_iff]
    generalize us.flatten.length = L at hf
    have hL : p + 6 ≤ L := by omega
    simp only [hL, sep8, sep9, decide_eq_true_eq, List.cons.injEq, true_and, and_true]
    omega
theorem kept_le (us : List (List Int)) : (kept us).length ≤ us.flatten.length := by
  induction us with
  | nil => simp [kept]
  | cons u us ih =>
    rw [kept_cons, List.flatten_cons, List.length_append, List.length_append]
    have : (conv u).length ≤ u.length := by
      unfold conv
      split
      · rename_i h; rw [h]; decide
      · split
        · rename_i h; rw [h]; decide
        · omega
    omega
/-- keepSeparators at a boundary: K has been kept, the text from s on has not. -/
def KI (us : List (List Int)) (zs : List Int) (p s : Nat) (K : List Int) : Prop :=
  ∃ pre post, us = pre ++ post ∧ p = pre.flatten.length ∧ K ++ (zs.take p).drop s = kept pre
theorem KI.zero (us : List (List Int)) (zs : List Int) : KI us zs 0 0 [] := ⟨[], us, rfl, rfl, rfl⟩

structure KNext (us : List (List Int)) (zs : List Int) (p s : Nat) (K u : List Int) : Prop where
  unit : IsUnit u
  fits : p + u.length ≤ zs.length
  text : ∀ i, i < u.length → zs.getD (p + i) 0 = u.getD i 0
  plain : conv u = u → KI us zs (p + u.length) s K
  sep : KI us zs (p + u.length) (p + u.length) ((K ++ (zs.take p).drop s) ++ conv u)

theorem KI.go {us : List (List Int)} {zs : List Int} {p s : Nat} {K : List Int} (h : KI us zs p s K) (hu : Units us zs) (hs : s ≤ p) (hp : p < zs.length) : ∃ u, KNext us zs p s K u := by
  obtain ⟨hz, hu⟩ := hu
  obtain ⟨pre, post, rfl, rfl, hK⟩ := h
  cases post with
  | nil => rw [List.append_nil] at hz; rw [hz] at hp; omega
  | cons u post =>
    have hz' : pre.flatten ++ (u ++ post.flatten) = zs := by rw [← hz, List.flatten_append, List.flatten_cons]
    have e1 : zs.take pre.flatten.length = pre.flatten := by rw [← hz', List.take_left']; rfl
    have e2 : zs.take (pre.flatten.length + u.length) = pre.flatten ++ u := by
      rw [← hz', ← List.append_assoc, List.take_left']; rw [List.length_append]
    have e3 : (pre ++ [u]).flatten.length = pre.flatten.length + u.length := by rw [flat_snoc, List.length_append]
    rw [e1] at hK
    refine ⟨u, hu u (by simp), ?_, ?_, ?_, ?_⟩
    · rw [← hz', List.length_append, List.length_append]; omega
    · intro i hi; rw [← hz']; exact getD_mid _ _ _ i hi
    · intro hc
      refine ⟨pre ++ [u], post, by simp, e3.symm, ?_⟩
      rw [e2, kept_snoc, hc, ← hK, List.drop_append_of_le_length hs, List.append_assoc]
    · refine ⟨pre ++ [u], post, by simp, e3.symm, ?_⟩
      rw [e1, e2, kept_snoc, hK, ← e3, flat_snoc, List.drop_length, List.append_nil]
theorem KI.done {us : List (List Int)} {zs : List Int} {p s : Nat} {K : List Int} (h : KI us zs p s K) (hu : Units us zs) (hp : ¬ p < zs.length) : K ++ zs.drop s = kept us := by
  obtain ⟨hz, hu⟩ := hu
  obtain ⟨pre, post, rfl, rfl, hK⟩ := h
  cases post with
  | nil =>
    rw [List.append_nil] at hz ⊢
    rw [← hK, hz, List.take_length]
  | cons u post =>
    have := unit_pos (hu u (by simp))
    rw [← hz, List.flatten_append, List.flatten_cons, List.length_append, List.length_append] at hp
    omega
def seg (zs : List Int) (s p : Nat) : List Int := (zs.take p).drop s
theorem seg_len (zs : List Int) (s p : Nat) (h : p ≤ zs.length) : (seg zs s p).length = p - s := by simp [seg]; omega
theorem seg_get (zs : List Int) (s p j : Nat) (hp : p ≤ zs.length) (hj : j < p - s) : (seg zs s p).getD j 0 = zs.getD (s + j) 0 := by
  simp [seg, List.getD, List.getElem?_take, show s + j < p by omega]
end Go.Proofs.Qxb6602354a
