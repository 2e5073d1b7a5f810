import Derived.Test.Qxb6602354aDoorZeros
import Derived.Laws.IdiomStrings
namespace Go.Proofs.Qxb6602354aDoor
open Go.RowKit
set_option linter.unusedVariables false
set_option linter.unusedSimpArgs false

/-- A buffer of 21 bytes in block B, of the call's own, that holds l from i on. -/
structure Buf (B i : Nat) (l : List UInt8) (wr : World) : Prop where
  all : ∀ j, j < 21 → ∃ v, wr.cell? ⟨B, j, none⟩ = some v
  done : ∀ j (hj : j < l.length), wr.cell? ⟨B, i + j, none⟩ = some (.int .u8 (l[j].toNat : Int))
  len : i + l.length = 21
  free : ∀ j, wr.frozen? ⟨B, j, none⟩ = false

theorem Buf.store {B k : Nat} {l : List UInt8} {wr : World} (h : Buf B (k + 1) l wr) (c : UInt8) (v : Int) (hv : v = (c.toNat : Int)) :
    Buf B k (c :: l) (wr.setCell ⟨B, k, none⟩ (.int .u8 v)) := by
  have hl := h.len
  have hk : k < 21 := by omega
  subst hv
  refine ⟨?_, ?_, ?_, ?_⟩
  · intro j hj
    by_cases e : k = j
    · subst e
      obtain ⟨v, hv⟩ := h.all k hk
      exact ⟨_, World.cell?_setCell_same _ _ _ hv⟩
    · obtain ⟨v, hv⟩ := h.all j hj
      exact ⟨v, by rw [World.cell?_setCell_other _ _ _ _ (by simp [e])]; exact hv⟩
  · intro j hj
    cases j with
    | zero =>
      obtain ⟨v, hv⟩ := h.all k hk
      exact World.cell?_setCell_same _ _ _ hv
    | succ j =>
      rw [World.cell?_setCell_other _ _ _ _ (by simp), List.getElem_cons_succ]
      have := h.done j (by simpa using hj)
      rw [show k + (j + 1) = k + 1 + j by omega]; exact this
  · rw [List.length_cons]; omega
  · intro j; rw [World.frozen?_setCell]; exact h.free j

theorem Buf.fresh (w : World) (cs : Array Value) (t : TypeId) (hc : cs.size = 21) : Buf w.heap.size 21 [] (w.alloc (.cells cs t)) := by
  refine ⟨?_, ?_, rfl, ?_⟩
  · intro j hj
    rw [World.cell?_alloc_at _ _ _ _ rfl]
    exact ⟨cs[j], Array.getElem?_eq_getElem (by omega)⟩
  · intro j hj; simp at hj
  · intro j; exact World.frozen?_alloc_at _ _ _ _ rfl

theorem conv_buf {B i : Nat} {l : List UInt8} {wr : World} (h : Buf B i l wr) (m c : Nat) (hm : m = l.length) : (convert 30 9 (.slice (some ⟨B, i, none⟩) m c)).run Tryd.prog wr = .ok (.string ⟨l.toArray⟩) wr := by
  subst hm
  exact run_convert_bytes_back (P := Tryd.prog) wr 30 9 5 ⟨B, i, none⟩ c l Tryd.underlying30 Tryd.underlying5 Tryd.underlying9 (fun j hj => by
    rw [Go.WideShapes.add_plain]; exact h.done j hj)

theorem slice29 (B i m : Nat) (l : Int) (hl : l = (i : Int)) (hi : i < 21) (hm : m = 21 - i) (W : World) :
    (Instr.sliceAt 29 (.pointer (some ⟨B, 0, none⟩)) (some (.int .i64 l)) none none).run Tryd.prog W = .ok (.slice (some ⟨B, i, none⟩) m m) W := by
  have e1 : Tryd.prog.arrayLen 29 = 21 := by kernel_rfl
  have e2 : Tryd.prog.elem 29 = 5 := by kernel_rfl
  have hu : Tryd.prog.underlying 29 = some (.array (Tryd.prog.arrayLen 29) (Tryd.prog.elem 29)) := by kernel_rfl
  have e3 : (sizeOf 5).run Tryd.prog W = .ok 1 W := by kernel_rfl
  rw [run_sliceAt_array_l W 29 ⟨B, 0, none⟩ hu .i64 l (by omega) (by rw [e1]; omega), e1, e2, e3]
  subst hm
  subst hl
  rw [Int.toNat_natCast]
  show Result.ok (Value.slice (some (if 21 = i then _ else _)) _ _) W = _
  rw [if_neg (by omega), Go.WideShapes.add_plain, Nat.mul_one, Nat.zero_add]

/-- What the loop has written so far: the low digits of M. -/
structure Dig (M : Nat) (x : Int) (l : List UInt8) : Prop where
  nonneg : 0 ≤ x
  dig : ∀ c ∈ l, IsDig c
  sum : (M : Int) = x * 10 ^ l.length + (num l : Int)
  pos : l = [] ∨ 0 < x

def cdig (x : Int) : UInt8 := UInt8.ofNat (48 + (x % 10).toNat)
theorem cdig_val (x : Int) (h : 0 ≤ x) : ((cdig x).toNat : Int) = 48 + x % 10 := by
  unfold cdig
  rw [UInt8.toNat_ofNat']
  omega
theorem Dig.step {M : Nat} {x : Int} {l : List UInt8} (h : Dig M x l) : (∀ c ∈ cdig x :: l, IsDig c) ∧ (M : Int) = (x / 10) * 10 ^ (cdig x :: l).length + (num (cdig x :: l) : Int) := by
  have hv := cdig_val x h.nonneg
  refine ⟨?_, ?_⟩
  · intro c hc
    rcases List.mem_cons.1 hc with rfl | hc
    · unfold IsDig; omega
    · exact h.dig c hc
  · rw [h.sum, num_cons, List.length_cons, Int.pow_succ]
    have e : ((cdig x).toNat - 48 : Nat) = (x % 10).toNat := by omega
    rw [e, Int.natCast_add, Int.natCast_mul, Int.natCast_pow, Int.toNat_of_nonneg (Int.emod_nonneg _ (by decide))]
    have e2 : x = x / 10 * 10 + x % 10 := by omega
    generalize (num l : Int) = y
    show _ = x / 10 * ((10 : Int) ^ l.length * 10) + (x % 10 * (10 : Int) ^ l.length + y)
    generalize (10 : Int) ^ l.length = q
    conv => lhs; rw [e2]
    rw [Int.add_mul, Int.mul_assoc, Int.mul_comm 10 q, Int.add_assoc]
theorem Dig.short {M : Nat} {x : Int} {l : List UInt8} (h : Dig M x l) (hM : M ≤ 9223372036854775808) : l.length ≤ 18 := by
  rcases h.pos with rfl | hx
  · simp
  · rcases Nat.lt_or_ge l.length 19 with h19 | h19
    · omega
    · have h1 : (10 : Nat) ^ 19 ≤ 10 ^ l.length := Nat.pow_le_pow_right (by decide) h19
      have h2 : (10 : Nat) ^ 19 = 10000000000000000000 := by decide
      have h3 : (1 : Int) * 10 ^ l.length ≤ x * 10 ^ l.length := Int.mul_le_mul_of_nonneg_right (by omega) (Int.pow_nonneg (by decide))
      have h4 := h.sum
      have h5 : ((10 ^ l.length : Nat) : Int) = (10 : Int) ^ l.length := by rw [Int.natCast_pow]; rfl
      omega
theorem Dig.le {M : Nat} {x : Int} {l : List UInt8} (h : Dig M x l) : x ≤ (M : Int) := by
  have h4 := h.sum
  have hp : (0 : Int) < 10 ^ l.length := Int.pow_pos (by decide)
  have : x * 1 ≤ x * 10 ^ l.length := Int.mul_le_mul_of_nonneg_left (by omega) h.nonneg
  omega

/-- The text that zzFormatInt64 writes. -/
def FmtEnd (n : Int) (e : Ending) : Prop := ∃ (t : ByteArray) (neg : Bool) (ds : List UInt8), e = .returned (.string t) ∧ t.size ≤ 21 ∧ Signed neg t.data.toList ds ∧ ds ≠ [] ∧ (∀ c ∈ ds, IsDig c) ∧ num ds ≤ lim neg ∧ sgn neg (num ds) = n

set_option maxHeartbeats 400000 in
theorem format_neg (n : Int) (plus : Bool) (w : World) (h0 : -9223372036854775808 ≤ n) (hn : n < 0) :
    Calls Tryd.prog 10 #[.int .i64 n, .bool plus] w fun e w' => FmtEnd n e ∧ Below w.heap.size w w' := by
  obtain ⟨M, hM⟩ : ∃ M : Nat, (M : Int) = -n := ⟨(-n).toNat, by omega⟩
  have hM2 : M ≤ 9223372036854775808 := by omega
  have HM : Hid ((M : Int) = -n) := hM
  have HM2 : Hid (M ≤ 9223372036854775808) := hM2
  have hw1 : IntKind.u64.wrap (-IntKind.u64.wrap n) = -n := by rw [IntKind.wrap_u64, IntKind.wrap_u64]; omega
  have HW1 : Hid (IntKind.u64.wrap (-IntKind.u64.wrap n) = -n) := hw1
  clear hM hM2 hw1
  go_enter Tryd.func10, Tryd.ntmps10
  go_wp2
  rw [HW1.out]
  go_loopw [6, 7] (fun u i wr => ∃ (x : Int) (q : Nat) (l : List UInt8), u = .int .u64 x ∧ i = .int .i64 ((q : Int) + 3) ∧ Buf w.heap.size (q + 3) l wr ∧ Dig M x l ∧ Below w.heap.size w wr) (fun _ i _ => (intOf i).toNat)
  case atStart => exact ⟨-n, 18, [], rfl, rfl, Buf.fresh _ _ _ rfl, ⟨by omega, fun c hc => by simp at hc, by rw [HM.out]; simp [num], Or.inl rfl⟩, (Below.refl _ _).alloc (Nat.le_refl _) _⟩
  case round =>
    obtain ⟨x, q, l, rfl, rfl, hbuf, hdig, hb⟩ := hrel
    have hx0 := hdig.nonneg
    have hx1 : x ≤ 9223372036854775808 := by have := hdig.le; have := HM2.out; omega
    obtain ⟨v, hv⟩ := hbuf.all (q + 2) (by have := hbuf.len; omega)
    have hf := hbuf.free (q + 2)
    have hq : q ≤ 18 := by have := hbuf.len; omega
    have hst := hdig.step
    have hs1 := hbuf.store (cdig x) (48 + x % 10) (cdig_val x hx0).symm
    by_cases hz : x / 10 = 0
    · have hz' : (x / 10 == 0) = true := by simpa using hz
      have HZ : Hid (x / 10 = 0) := hz
      have hs2 := hs1.store 45 45 rfl
      obtain ⟨v1, hv1⟩ := hbuf.all (q + 1) (by have := hbuf.len; omega)
      have hf1 := hbuf.free (q + 1)
      have hl2 := hs2.len
      obtain ⟨m, hm⟩ : ∃ m, m = 21 - (q + 1) := ⟨_, rfl⟩
      have hsl := slice29 w.heap.size (q + 1) m ((q : Int) + 3 - 1 - 1) (by omega) (by omega) hm
      have hcv := conv_buf hs2 m m (by omega)
      clear hz hm hl2
      go_wp2
      go_ret
      refine ⟨⟨_, true, cdig x :: l, rfl, ?_, Or.inr (Or.inr ⟨rfl, rfl⟩), by simp, hst.1, ?_, ?_⟩, (hb.setCell (Nat.le_refl _) _).setCell (Nat.le_refl _) _⟩
      · have := hs2.len; show (45 :: cdig x :: l).toArray.size ≤ 21; rw [List.size_toArray]; omega
      · have h2 := hst.2; have h3 := HM2.out; rw [HZ.out, Int.zero_mul, Int.zero_add] at h2; rw [lim_true]; omega
      · have h2 := hst.2; have h3 := HM.out; rw [HZ.out, Int.zero_mul, Int.zero_add] at h2; show -((num (cdig x :: l) : Nat) : Int) = n; omega
    · have hz' : (x / 10 == 0) = false := by simpa using hz
      have hd2 : Dig M (x / 10) (cdig x :: l) := ⟨by omega, hst.1, hst.2, Or.inr (by omega)⟩
      have hq1 : 1 ≤ q := by have h1 := hd2.short HM2.out; have h2 := hbuf.len; rw [List.length_cons] at h1; omega
      clear hz hst
      go_wp2
      go_roundw
      case rel => exact ⟨x / 10, q - 1, cdig x :: l, rfl, by go_num, by rw [show q - 1 + 3 = q + 2 by omega]; exact hs1, hd2, hb.setCell (Nat.le_refl _) _⟩
      case measure => simp [intOf]; omega
set_option maxHeartbeats 400000 in
theorem format_plus (n : Int) (w : World) (h1 : n ≤ 9223372036854775807) (hn : 0 ≤ n) :
    Calls Tryd.prog 10 #[.int .i64 n, .bool true] w fun e w' => FmtEnd n e ∧ Below w.heap.size w w' := by
  obtain ⟨M, hM⟩ : ∃ M : Nat, (M : Int) = n := ⟨n.toNat, by omega⟩
  have hM2 : M ≤ 9223372036854775807 := by omega
  have HM : Hid ((M : Int) = n) := hM
  have HM2 : Hid (M ≤ 9223372036854775807) := hM2
  clear hM hM2
  go_enter Tryd.func10, Tryd.ntmps10
  go_wp2
  go_loopw [6, 7] (fun u i wr => ∃ (x : Int) (q : Nat) (l : List UInt8), u = .int .u64 x ∧ i = .int .i64 ((q : Int) + 3) ∧ Buf w.heap.size (q + 3) l wr ∧ Dig M x l ∧ Below w.heap.size w wr) (fun _ i _ => (intOf i).toNat)
  case atStart => exact ⟨n, 18, [], rfl, rfl, Buf.fresh _ _ _ rfl, ⟨by omega, fun c hc => by simp at hc, by rw [HM.out]; simp [num], Or.inl rfl⟩, (Below.refl _ _).alloc (Nat.le_refl _) _⟩
  case round =>
    obtain ⟨x, q, l, rfl, rfl, hbuf, hdig, hb⟩ := hrel
    have hx0 := hdig.nonneg
    have hx1 : x ≤ 9223372036854775808 := by have := hdig.le; have := HM2.out; omega
    obtain ⟨v, hv⟩ := hbuf.all (q + 2) (by have := hbuf.len; omega)
    have hf := hbuf.free (q + 2)
    have hq : q ≤ 18 := by have := hbuf.len; omega
    have hst := hdig.step
    have hs1 := hbuf.store (cdig x) (48 + x % 10) (cdig_val x hx0).symm
    by_cases hz : x / 10 = 0
    · have hz' : (x / 10 == 0) = true := by simpa using hz
      have HZ : Hid (x / 10 = 0) := hz
      have hs2 := hs1.store 43 43 rfl
      obtain ⟨v1, hv1⟩ := hbuf.all (q + 1) (by have := hbuf.len; omega)
      have hf1 := hbuf.free (q + 1)
      have hl2 := hs2.len
      obtain ⟨m, hm⟩ : ∃ m, m = 21 - (q + 1) := ⟨_, rfl⟩
      have hsl := slice29 w.heap.size (q + 1) m ((q : Int) + 3 - 1 - 1) (by omega) (by omega) hm
      have hcv := conv_buf hs2 m m (by omega)
      clear hz hm hl2
      go_wp2
      go_ret
      refine ⟨⟨_, false, cdig x :: l, rfl, ?_, Or.inr (Or.inl ⟨rfl, rfl⟩), by simp, hst.1, ?_, ?_⟩, (hb.setCell (Nat.le_refl _) _).setCell (Nat.le_refl _) _⟩
      · have := hs2.len; show (43 :: cdig x :: l).toArray.size ≤ 21; rw [List.size_toArray]; omega
      · have h2 := hst.2; have h3 := HM2.out; rw [HZ.out, Int.zero_mul, Int.zero_add] at h2; rw [lim_false]; omega
      · have h2 := hst.2; have h3 := HM.out; rw [HZ.out, Int.zero_mul, Int.zero_add] at h2; show ((num (cdig x :: l) : Nat) : Int) = n; omega
    · have hz' : (x / 10 == 0) = false := by simpa using hz
      have hd2 : Dig M (x / 10) (cdig x :: l) := ⟨by omega, hst.1, hst.2, Or.inr (by omega)⟩
      have hq1 : 1 ≤ q := by have h1 := hd2.short (by have := HM2.out; omega); have h2 := hbuf.len; rw [List.length_cons] at h1; omega
      clear hz hst
      go_wp2
      go_roundw
      case rel => exact ⟨x / 10, q - 1, cdig x :: l, rfl, by go_num, by rw [show q - 1 + 3 = q + 2 by omega]; exact hs1, hd2, hb.setCell (Nat.le_refl _) _⟩
      case measure => simp [intOf]; omega
set_option maxHeartbeats 400000 in
theorem format_plain (n : Int) (w : World) (h1 : n ≤ 9223372036854775807) (hn : 0 ≤ n) :
    Calls Tryd.prog 10 #[.int .i64 n, .bool false] w fun e w' => FmtEnd n e ∧ Below w.heap.size w w' := by
  obtain ⟨M, hM⟩ : ∃ M : Nat, (M : Int) = n := ⟨n.toNat, by omega⟩
  have hM2 : M ≤ 9223372036854775807 := by omega
  have HM : Hid ((M : Int) = n) := hM
  have HM2 : Hid (M ≤ 9223372036854775807) := hM2
  clear hM hM2
  go_enter Tryd.func10, Tryd.ntmps10
  go_wp2
  go_loopw [6, 7] (fun u i wr => ∃ (x : Int) (q : Nat) (l : List UInt8), u = .int .u64 x ∧ i = .int .i64 ((q : Int) + 3) ∧ Buf w.heap.size (q + 3) l wr ∧ Dig M x l ∧ Below w.heap.size w wr) (fun _ i _ => (intOf i).toNat)
  case atStart => exact ⟨n, 18, [], rfl, rfl, Buf.fresh _ _ _ rfl, ⟨by omega, fun c hc => by simp at hc, by rw [HM.out]; simp [num], Or.inl rfl⟩, (Below.refl _ _).alloc (Nat.le_refl _) _⟩
  case round =>
    obtain ⟨x, q, l, rfl, rfl, hbuf, hdig, hb⟩ := hrel
    have hx0 := hdig.nonneg
    have hx1 : x ≤ 9223372036854775808 := by have := hdig.le; have := HM2.out; omega
    obtain ⟨v, hv⟩ := hbuf.all (q + 2) (by have := hbuf.len; omega)
    have hf := hbuf.free (q + 2)
    have hq : q ≤ 18 := by have := hbuf.len; omega
    have hst := hdig.step
    have hs1 := hbuf.store (cdig x) (48 + x % 10) (cdig_val x hx0).symm
    by_cases hz : x / 10 = 0
    · have hz' : (x / 10 == 0) = true := by simpa using hz
      have HZ : Hid (x / 10 = 0) := hz
      have hl2 := hs1.len
      obtain ⟨m, hm⟩ : ∃ m, m = 21 - (q + 2) := ⟨_, rfl⟩
      have hsl := slice29 w.heap.size (q + 2) m ((q : Int) + 3 - 1) (by omega) (by omega) hm
      have hcv := conv_buf hs1 m m (by omega)
      clear hz hm hl2
      go_wp2
      go_ret
      refine ⟨⟨_, false, cdig x :: l, rfl, ?_, Or.inl ⟨rfl, rfl⟩, by simp, hst.1, ?_, ?_⟩, hb.setCell (Nat.le_refl _) _⟩
      · have := hs1.len; show (cdig x :: l).toArray.size ≤ 21; rw [List.size_toArray]; omega
      · have h2 := hst.2; have h3 := HM2.out; rw [HZ.out, Int.zero_mul, Int.zero_add] at h2; rw [lim_false]; omega
      · have h2 := hst.2; have h3 := HM.out; rw [HZ.out, Int.zero_mul, Int.zero_add] at h2; show ((num (cdig x :: l) : Nat) : Int) = n; omega
    · have hz' : (x / 10 == 0) = false := by simpa using hz
      have hd2 : Dig M (x / 10) (cdig x :: l) := ⟨by omega, hst.1, hst.2, Or.inr (by omega)⟩
      have hq1 : 1 ≤ q := by have h1 := hd2.short (by have := HM2.out; omega); have h2 := hbuf.len; rw [List.length_cons] at h1; omega
      clear hz hst
      go_wp2
      go_roundw
      case rel => exact ⟨x / 10, q - 1, cdig x :: l, rfl, by go_num, by rw [show q - 1 + 3 = q + 2 by omega]; exact hs1, hd2, hb.setCell (Nat.le_refl _) _⟩
      case measure => simp [intOf]; omega
theorem format_any (n : Int) (plus : Bool) (w : World) (h0 : -9223372036854775808 ≤ n) (h1 : n ≤ 9223372036854775807) :
    Calls Tryd.prog 10 #[.int .i64 n, .bool plus] w fun e w' => FmtEnd n e ∧ Below w.heap.size w w' := by
  by_cases hn : n < 0
  · exact format_neg n plus w h0 hn
  · cases plus
    · exact format_plain n w h1 (by omega)
    · exact format_plus n w h1 (by omega)
end Go.Proofs.Qxb6602354aDoor
