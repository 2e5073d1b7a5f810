import Derived.Laws.BitsAllLaws
import Derived.RowKit
import Derived.Laws.BitsLemmas
/-! The plain arithmetic of hexRune: no Go in sight. -/
namespace Go.Proofs.Qxb6602354a
open Go.RowKit
set_option linter.unusedVariables false
set_option linter.unusedSimpArgs false

/-- The value of a hexadecimal digit as hexRune reckons it. -/
def hexd (c : Int) : Int := if c ≤ 57 then c - 48 else if 97 ≤ c then c - 87 else c - 55

/-- A byte that is a hexadecimal digit of either case. -/
def IsHex (c : Int) : Prop := (48 ≤ c ∧ c ≤ 57) ∨ (97 ≤ c ∧ c ≤ 102) ∨ (65 ≤ c ∧ c ≤ 70)

theorem hexd_bd {c : Int} (h : IsHex c) : 0 ≤ hexd c ∧ hexd c < 16 := by
  unfold IsHex at h; unfold hexd; split <;> (try split) <;> omega

/-- One round of hexRune. -/
def hexStep (r c : Int) : Int := wrap32 (r * 16 + hexd c)
def hexFold (zs : List Int) : Int := zs.foldl hexStep 0

theorem hexFold_snoc (zs : List Int) (c : Int) : hexFold (zs ++ [c]) = hexStep (hexFold zs) c := by
  simp [hexFold, List.foldl_append]

theorem wrap32_bd (n : Int) : -2147483648 ≤ wrap32 n ∧ wrap32 n ≤ 2147483647 := by
  unfold wrap32; omega

theorem hexFold_bd (zs : List Int) : -2147483648 ≤ hexFold zs ∧ hexFold zs ≤ 2147483647 := by
  rcases List.eq_nil_or_concat zs with rfl | ⟨ys, c, rfl⟩
  · simp [hexFold]
  · rw [List.concat_eq_append, hexFold_snoc]; exact wrap32_bd _

theorem ofInt32 (x : Int) : (BitVec.ofInt 32 x).toNat = (x % 4294967296).toNat := by
  rw [BitVec.toNat_ofInt]; rfl

/-- 'r<<4 | rune(c)' is a sum: the low four bits of 'r<<4' are nought. -/
theorem or_join (r d : Int) (h0 : 0 ≤ d) (h1 : d < 16) : bits .or .i32 (wrap32 (r * 16)) d = wrap32 (r * 16 + d) := by
  have e1 : (BitVec.ofInt 32 (wrap32 (r * 16))).toNat = (r * 16 % 4294967296).toNat := by
    rw [ofInt32]; unfold wrap32; congr 1; omega
  have e2 : (BitVec.ofInt 32 d).toNat = d.toNat := by
    rw [ofInt32]; congr 1; omega
  have e3 : (BitVec.ofInt 32 (wrap32 (r * 16)) ||| BitVec.ofInt 32 d).toNat = (r * 16 % 4294967296).toNat + d.toNat := by
    rw [BitVec.toNat_or, e1, e2]
    exact nat_join 4 _ _ (by omega) (by omega)
  show IntKind.i32.wrap (((BitVec.ofInt 32 (wrap32 (r * 16)) ||| BitVec.ofInt 32 d).toNat : Nat) : Int) = _
  rw [e3]
  rw [IntKind.wrap_i32]; unfold wrap32
  omega

theorem step_lo (r c : Int) (h : IsHex c) (h1 : c ≤ 57) : bits .or .i32 (wrap32 (r * 16)) ((c - 48) % 256) = hexStep r c := by
  have hb := hexd_bd h
  have e : (c - 48) % 256 = hexd c := by unfold IsHex at h; unfold hexd; rw [if_pos h1]; omega
  rw [e, or_join r _ hb.1 hb.2]; rfl
theorem step_hi (r c : Int) (h : IsHex c) (h1 : 57 < c) (h2 : 97 ≤ c) : bits .or .i32 (wrap32 (r * 16)) ((c - 87) % 256) = hexStep r c := by
  have hb := hexd_bd h
  have e : (c - 87) % 256 = hexd c := by unfold IsHex at h; unfold hexd; rw [if_neg (by omega), if_pos h2]; omega
  rw [e, or_join r _ hb.1 hb.2]; rfl
theorem step_mid (r c : Int) (h : IsHex c) (h1 : 57 < c) (h2 : c < 97) : bits .or .i32 (wrap32 (r * 16)) (c - 55) = hexStep r c := by
  have hb := hexd_bd h
  have e : c - 55 = hexd c := by unfold hexd; rw [if_neg (by omega), if_neg (by omega)]
  rw [e, or_join r _ hb.1 hb.2]; rfl

theorem hexFold_take (zs : List Int) (k : Nat) (h : k < zs.length) : hexFold (zs.take (k + 1)) = hexStep (hexFold (zs.take k)) zs[k] := by
  rw [List.take_succ_eq_append_getElem h, hexFold_snoc]
/-- zzHexChar's answer. -/
def chrOf (d : Int) (up : Bool) : Int := if d < 10 then 48 + d else if up then 55 + d else 87 + d
theorem chrOf_lo {d : Int} (up : Bool) (h : d < 10) : chrOf d up = 48 + d := by simp [chrOf, h]
theorem chrOf_up {d : Int} (h : ¬ d < 10) : chrOf d true = 55 + d := by simp [chrOf, h]
theorem chrOf_dn {d : Int} (h : ¬ d < 10) : chrOf d false = 87 + d := by simp [chrOf, h]
theorem chrOf_hex {d : Int} (up : Bool) (h0 : 0 ≤ d) (h1 : d < 16) : IsHex (chrOf d up) := by
  unfold IsHex chrOf; split <;> (try split) <;> omega
theorem hexd_chrOf {d : Int} (up : Bool) (h0 : 0 ≤ d) (h1 : d < 16) : hexd (chrOf d up) = d := by
  by_cases h : d < 10
  · rw [chrOf_lo up h]; unfold hexd; rw [if_pos (by omega)]; omega
  · cases up
    · rw [chrOf_dn h]; unfold hexd; rw [if_neg (by omega), if_pos (by omega)]; omega
    · rw [chrOf_up h]; unfold hexd; rw [if_neg (by omega), if_neg (by omega)]; omega
/-- The j-th of m + 1 hexadecimal digits of u, the highest first. -/
def digAt (m : Nat) (u : Int) (j : Nat) : Int := u / 2 ^ (4 * (m - j)) % 16
theorem digAt_bd (m : Nat) (u : Int) (j : Nat) : 0 ≤ digAt m u j ∧ digAt m u j < 16 := by unfold digAt; omega
theorem wrap32_step (x d : Int) : wrap32 (wrap32 x * 16 + d) = wrap32 (x * 16 + d) := by unfold wrap32; omega
theorem range_succ_map (f : Nat → Int) (k : Nat) : (List.range (k + 1)).map f = (List.range k).map f ++ [f k] := by
  rw [List.range_succ, List.map_append]; rfl
theorem digits_fold (m : Nat) (u : Int) (h0 : 0 ≤ u) (h1 : u < 2 ^ (4 * (m + 1))) (up : Nat → Bool) :
    ∀ k, k ≤ m + 1 → hexFold ((List.range k).map fun j => chrOf (digAt m u j) (up j)) = wrap32 (u / 2 ^ (4 * (m + 1 - k))) := by
  intro k
  induction k with
  | zero => intro _; rw [Nat.sub_zero, Int.ediv_eq_zero_of_lt h0 h1]; rfl
  | succ k ih =>
    intro hk
    rw [range_succ_map, hexFold_snoc, ih (by omega)]
    unfold hexStep
    have hb := digAt_bd m u k
    rw [hexd_chrOf (up k) hb.1 hb.2, wrap32_step]
    have e1 : 4 * (m + 1 - k) = 4 * (m - k) + 4 := by omega
    have e2 : 4 * (m + 1 - (k + 1)) = 4 * (m - k) := by omega
    rw [e1, e2, Int.pow_add, ← Int.ediv_ediv_of_nonneg (Int.pow_nonneg (by decide))]
    unfold digAt
    congr 1
    generalize u / 2 ^ (4 * (m - k)) = q
    omega
theorem wrap32_u (a : Int) (h0 : -2147483648 ≤ a) (h1 : a ≤ 2147483647) : wrap32 (a % 4294967296) = a := by unfold wrap32; omega
theorem eight (a : Int) (h0 : -2147483648 ≤ a) (h1 : a ≤ 2147483647) (up : Nat → Bool) :
    hexFold ((List.range 8).map fun j => chrOf (digAt 7 (a % 4294967296) j) (up j)) = a := by
  rw [digits_fold 7 _ (by omega) (by show _ < (2 : Int) ^ 32; omega) up 8 (by omega)]
  show wrap32 (a % 4294967296 / 1) = a
  rw [Int.ediv_one, wrap32_u a h0 h1]
theorem digAt_low (u : Int) (j : Nat) (hj : j < 4) : digAt 3 u j = digAt 3 (u % 65536) j := by
  unfold digAt
  match j, hj with
  | 0, _ => show u / 4096 % 16 = u % 65536 / 4096 % 16; omega
  | 1, _ => show u / 256 % 16 = u % 65536 / 256 % 16; omega
  | 2, _ => show u / 16 % 16 = u % 65536 / 16 % 16; omega
  | 3, _ => show u / 1 % 16 = u % 65536 / 1 % 16; omega
theorem four (a : Int) (up : Nat → Bool) :
    hexFold ((List.range 4).map fun j => chrOf (digAt 3 (a % 4294967296) j) (up j)) = a % 65536 := by
  have e : (List.range 4).map (fun j => chrOf (digAt 3 (a % 4294967296) j) (up j)) = (List.range 4).map (fun j => chrOf (digAt 3 (a % 65536) j) (up j)) := by
    apply List.map_congr_left
    intro j hj
    rw [digAt_low _ j (List.mem_range.1 hj)]
    congr 2
    omega
  rw [e, digits_fold 3 _ (by omega) (by show _ < (2 : Int) ^ 16; omega) up 4 (by omega)]
  show wrap32 (a % 65536 / 1) = a % 65536
  rw [Int.ediv_one]; unfold wrap32; omega
theorem and_ffff (a : Int) : bits .and .i32 a 65535 = a % 65536 := by
  have e1 : (BitVec.ofInt 32 a).toNat = (a % 4294967296).toNat := ofInt32 a
  have e2 : (BitVec.ofInt 32 65535).toNat = 65535 := by decide
  have e3 : (BitVec.ofInt 32 a &&& BitVec.ofInt 32 65535).toNat = (a % 4294967296).toNat % 65536 := by
    rw [BitVec.toNat_and, e1, e2, nat_mask16]
  show IntKind.i32.wrap (((BitVec.ofInt 32 a &&& BitVec.ofInt 32 65535).toNat : Nat) : Int) = _
  rw [e3, IntKind.wrap_i32]
  omega
/-- The number that a row of hexadecimal digits spells, unbounded. -/
def hexNum (zs : List Int) : Int := zs.foldl (fun r c => r * 16 + hexd c) 0
theorem hexNum_snoc (zs : List Int) (c : Int) : hexNum (zs ++ [c]) = hexNum zs * 16 + hexd c := by simp [hexNum, List.foldl_append]
theorem hexFold_num_aux (zs : List Int) : ∀ r s : Int, r = wrap32 s → zs.foldl hexStep r = wrap32 (zs.foldl (fun r c => r * 16 + hexd c) s) := by
  induction zs with
  | nil => intro r s h; exact h
  | cons c zs ih =>
    intro r s h
    rw [List.foldl_cons, List.foldl_cons]
    apply ih
    unfold hexStep
    rw [h, wrap32_step]
theorem hexFold_num (zs : List Int) : hexFold zs = wrap32 (hexNum zs) := hexFold_num_aux zs 0 0 rfl
theorem foldl_from (zs : List Int) : ∀ r : Int, zs.foldl (fun r c => r * 16 + hexd c) r = r * 16 ^ zs.length + hexNum zs := by
  induction zs with
  | nil => intro r; simp [hexNum]
  | cons c zs ih =>
    intro r
    have e : hexNum (c :: zs) = zs.foldl (fun r c => r * 16 + hexd c) (0 * 16 + hexd c) := rfl
    rw [e, List.foldl_cons, ih, ih, List.length_cons, Int.pow_succ, Int.add_mul, Int.zero_mul, Int.zero_add, Int.add_assoc, Int.mul_assoc, Int.mul_comm 16]
theorem hexNum_append (xs ys : List Int) : hexNum (xs ++ ys) = hexNum xs * 16 ^ ys.length + hexNum ys := by
  unfold hexNum; rw [List.foldl_append, foldl_from]; rfl
theorem hexNum_cons (c : Int) (ys : List Int) : hexNum (c :: ys) = hexd c * 16 ^ ys.length + hexNum ys := by
  have := hexNum_append [c] ys
  simpa [hexNum] using this
theorem hexNum_bd (zs : List Int) (h : ∀ c ∈ zs, IsHex c) : 0 ≤ hexNum zs ∧ hexNum zs < 16 ^ zs.length := by
  induction zs with
  | nil => simp [hexNum]
  | cons c zs ih =>
    have h1 := ih (fun c hc => h c (List.mem_cons_of_mem _ hc))
    have h2 := hexd_bd (h c (List.mem_cons_self))
    rw [hexNum_cons, List.length_cons, Int.pow_succ]
    have hp : (0 : Int) < 16 ^ zs.length := Int.pow_pos (by decide)
    generalize (16 : Int) ^ zs.length = p at *
    have a1 : 0 ≤ hexd c * p := Int.mul_nonneg h2.1 (by omega)
    have a2 : hexd c * p ≤ 15 * p := Int.mul_le_mul_of_nonneg_right (by omega) (by omega)
    omega
theorem pow16_le (k : Nat) (hk : k < 8) : (16 : Int) ^ k * 16 ≤ 4294967296 := by
  have h : ∀ k : Fin 8, (16 : Int) ^ k.val * 16 ≤ 4294967296 := by decide
  exact h ⟨k, hk⟩
theorem pow16 (k : Nat) : (2 : Int) ^ (4 * k) = 16 ^ k := by
  rw [Int.pow_mul]; rfl
/-- One round of the model's loop: 'v |= d << (4*j)' is a sum. -/
theorem or_pos (v d : Int) (k : Nat) (hk : k < 8) (h0 : 0 ≤ v) (h1 : v < 16 ^ k) (g0 : 0 ≤ d) (g1 : d < 16) :
    bits .or .u32 v (d * 2 ^ (4 * k)) = d * 16 ^ k + v := by
  have hp : (0 : Int) < 16 ^ k := Int.pow_pos (by decide)
  have hpn : ((2 ^ (4 * k) : Nat) : Int) = 16 ^ k := by rw [Int.natCast_pow]; exact pow16 k
  have hle : (16 : Int) ^ k * 16 ≤ 4294967296 := pow16_le k hk
  rw [pow16]
  have a1 : 0 ≤ d * 16 ^ k := Int.mul_nonneg g0 (by omega)
  have a2 : d * 16 ^ k ≤ 15 * 16 ^ k := Int.mul_le_mul_of_nonneg_right (by omega) (by omega)
  have hm : (d * 16 ^ k).toNat % 2 ^ (4 * k) = 0 := by
    have : ((d * 16 ^ k).toNat : Int) % ((2 ^ (4 * k) : Nat) : Int) = 0 := by
      rw [Int.toNat_of_nonneg a1, hpn, Int.mul_emod_left]
    omega
  have hv : v.toNat < 2 ^ (4 * k) := by omega
  rw [u32_or v (d * 16 ^ k) h0 (by omega) a1 (by omega), Nat.or_comm, nat_join (4 * k) _ _ hm hv]
  omega
theorem shl_fits (d : Int) (k : Nat) (hk : k < 8) (g0 : 0 ≤ d) (g1 : d < 16) : 0 ≤ d * 2 ^ (4 * k) ∧ d * 2 ^ (4 * k) < 4294967296 := by
  have hp : (0 : Int) < 16 ^ k := Int.pow_pos (by decide)
  have hle : (16 : Int) ^ k * 16 ≤ 4294967296 := pow16_le k hk
  rw [pow16]
  have a1 : 0 ≤ d * 16 ^ k := Int.mul_nonneg g0 (by omega)
  have a2 : d * 16 ^ k ≤ 15 * 16 ^ k := Int.mul_le_mul_of_nonneg_right (by omega) (by omega)
  omega
theorem drop_pred (zs : List Int) (k : Nat) (hk : k < zs.length) : hexNum (zs.drop (zs.length - (k + 1))) = hexd (zs.getD (zs.length - 1 - k) 0) * 16 ^ k + hexNum (zs.drop (zs.length - k)) := by
  have e : zs.length - (k + 1) = zs.length - 1 - k := by omega
  have h1 : zs.length - 1 - k < zs.length := by omega
  have h2 : zs.length - 1 - k + 1 = zs.length - k := by omega
  rw [e, List.drop_eq_getElem_cons h1, hexNum_cons, h2]
  have h3 : (zs.drop (zs.length - k)).length = k := by rw [List.length_drop]; omega
  rw [h3]
  simp [List.getD, h1]
/-- The last eight digits decide. -/
theorem last_eight (zs : List Int) (k : Nat) (h : k = 8 ∨ (k ≤ 8 ∧ k = zs.length)) : wrap32 (hexNum (zs.drop (zs.length - k))) = hexFold zs := by
  rw [hexFold_num]
  by_cases hk : k = zs.length
  · subst hk; rw [Nat.sub_self, List.drop_zero]
  · obtain rfl : k = 8 := by omega
    by_cases hl : zs.length < 8
    · have e : zs.length - 8 = 0 := by omega
      rw [e, List.drop_zero]
    · have e := hexNum_append (zs.take (zs.length - 8)) (zs.drop (zs.length - 8))
      have h3 : (zs.drop (zs.length - 8)).length = 8 := by rw [List.length_drop]; omega
      rw [List.take_append_drop, h3] at e
      rw [e]
      generalize hexNum (zs.take (zs.length - 8)) = p
      generalize hexNum (zs.drop (zs.length - 8)) = q
      show _ = wrap32 (p * 4294967296 + q)
      unfold wrap32; omega
end Go.Proofs.Qxb6602354a
