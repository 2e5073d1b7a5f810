import Derived.Test.Qxb6000399aZeros
import Derived.Test.Qxb6000399aNum
import Derived.Deep.QuietTactic
import Derived.BigQuiet
namespace Go.Proofs.Qxb6000399a
open Go.RowKit
set_option linter.unusedVariables false
set_option linter.unusedSimpArgs false

/-- A buffer of 20 bytes in block B, of the call's own, that holds l from i on. -/
structure Buf (B i : Nat) (l : List UInt8) (wr : World) : Prop where
  all : ∀ j, j < 20 → ∃ v, wr.cell? ⟨B, j, none⟩ = some v
  done : ∀ j, j < l.length → wr.cell? ⟨B, i + j, none⟩ = some (.int .u8 ((l.getD j 0).toNat : Int))
  len : i + l.length = 20
  free : ∀ j, wr.frozen? ⟨B, j, none⟩ = false

theorem Buf.store {B k : Nat} {l : List UInt8} {wr : World} (h : Buf B (k + 1) l wr) (c : UInt8) (v : Int) (hv : v = (c.toNat : Int)) :
    Buf B k (c :: l) (wr.setCell ⟨B, k, none⟩ (.int .u8 v)) := by
  have hl := h.len
  have hk : k < 20 := by omega
  subst hv
  refine ⟨?_, ?_, ?_, ?_⟩
  · intro j hj
    by_cases e : k = j
    · subst e
      obtain ⟨v, hv⟩ := h.all k hk
      exact ⟨_, World.cell?_setCell_same _ _ _ hv⟩
    · obtain ⟨v, hv⟩ := h.all j hj
      exact ⟨v, by rw [World.cell?_setCell_other _ _ _ _ (by simp [e])]; exact hv⟩
  · intro j hj
    cases j with
    | zero =>
      obtain ⟨v, hv⟩ := h.all k hk
      exact World.cell?_setCell_same _ _ _ hv
    | succ j =>
      rw [World.cell?_setCell_other _ _ _ _ (by simp)]
      have := h.done j (by simpa using hj)
      rw [show k + (j + 1) = k + 1 + j by omega]
      rw [this]; rfl
  · rw [List.length_cons]; omega
  · intro j; rw [World.frozen?_setCell]; exact h.free j

theorem Buf.fresh (w : World) (cs : Array Value) (t : TypeId) (hc : cs.size = 20) : Buf w.heap.size 20 [] (w.alloc (.cells cs t)) := by
  refine ⟨?_, ?_, rfl, ?_⟩
  · intro j hj
    rw [World.cell?_alloc_at _ _ _ _ rfl]
    exact ⟨cs[j], Array.getElem?_eq_getElem (by omega)⟩
  · intro j hj; simp at hj
  · intro j; exact World.frozen?_alloc_at _ _ _ _ rfl

/-- What the loop has written so far: the low digits of M. -/
structure Dig (M : Nat) (x : Int) (l : List UInt8) : Prop where
  nonneg : 0 ≤ x
  dig : ∀ c ∈ l, IsDig c
  sum : (M : Int) = x * 10 ^ l.length + (num l : Int)
  fin : x = 0 → l ≠ [] ∧ l.head? ≠ some 48

def cdig (x : Int) : UInt8 := UInt8.ofNat (48 + (x % 10).toNat)
theorem cdig_val (x : Int) (h : 0 ≤ x) : ((cdig x).toNat : Int) = 48 + x % 10 := by
  unfold cdig
  rw [UInt8.toNat_ofNat']
  omega
theorem Dig.step {M : Nat} {x : Int} {l : List UInt8} (h : Dig M x l) (hx : 0 < x) : Dig M (x / 10) (cdig x :: l) := by
  have hv := cdig_val x h.nonneg
  refine ⟨by omega, ?_, ?_, ?_⟩
  · intro c hc
    rcases List.mem_cons.1 hc with rfl | hc
    · unfold IsDig; omega
    · exact h.dig c hc
  · rw [h.sum, num_cons, List.length_cons, Int.pow_succ]
    have e : ((cdig x).toNat - 48 : Nat) = (x % 10).toNat := by omega
    rw [e, Int.natCast_add, Int.natCast_mul, Int.natCast_pow, Int.toNat_of_nonneg (Int.emod_nonneg _ (by decide))]
    have e2 : x = x / 10 * 10 + x % 10 := by omega
    generalize (num l : Int) = y
    show _ = x / 10 * ((10 : Int) ^ l.length * 10) + (x % 10 * (10 : Int) ^ l.length + y)
    generalize (10 : Int) ^ l.length = q
    conv => lhs; rw [e2]
    rw [Int.add_mul, Int.mul_assoc, Int.mul_comm 10 q, Int.add_assoc]
  · intro h0
    refine ⟨by simp, ?_⟩
    intro e
    have e1 : cdig x = 48 := by simpa using e
    rw [e1] at hv
    have : ((48 : UInt8).toNat : Int) = 48 := rfl
    omega
theorem Dig.short {M : Nat} {x : Int} {l : List UInt8} (h : Dig M x l) (hM : M ≤ 1000000000000000000) (hx : 0 < x) : l.length ≤ 18 := by
  rcases Nat.lt_or_ge l.length 19 with h19 | h19
  · omega
  · have h1 : (10 : Nat) ^ 19 ≤ 10 ^ l.length := Nat.pow_le_pow_right (by decide) h19
    have h2 : (10 : Nat) ^ 19 = 10000000000000000000 := by decide
    have h3 : (1 : Int) * 10 ^ l.length ≤ x * 10 ^ l.length := Int.mul_le_mul_of_nonneg_right (by omega) (Int.pow_nonneg (by decide))
    have h4 := h.sum
    have h5 : ((10 ^ l.length : Nat) : Int) = (10 : Int) ^ l.length := by rw [Int.natCast_pow]; rfl
    omega
theorem Dig.le {M : Nat} {x : Int} {l : List UInt8} (h : Dig M x l) : x ≤ (M : Int) := by
  have h4 := h.sum
  have hp : (0 : Int) < 10 ^ l.length := Int.pow_pos (by decide)
  have : x * 1 ≤ x * 10 ^ l.length := Int.mul_le_mul_of_nonneg_left (by omega) h.nonneg
  omega
theorem list_take_succ (l : List UInt8) (k : Nat) (h : k < l.length) : l.take (k + 1) = l.take k ++ [l.getD k 0] := by
  rw [List.take_succ_eq_append_getElem h]
  have e : l.getD k 0 = l[k] := by simp [List.getD, h]
  rw [e]

/-- What zzUtoaDB1 hands back: the digits of M, the first not a nought. -/
def UtoaEnd (B M : Nat) (e : Ending) (w' : World) : Prop := ∃ v l, e = .returned v ∧ Owns w' B v l ∧ (∀ c ∈ l, IsDig c) ∧ l ≠ [] ∧ l.head? ≠ some 48 ∧ num l = M ∧ l.length ≤ 20

set_option maxHeartbeats 800000 in
theorem utoa_any (M : Nat) (u : Int) (w : World) (hu : u = (M : Int)) (hp : 0 < u) (hM : u ≤ 1000000000000000000) :
    Calls Try.prog 17 #[.int .u64 u] w fun e w' => UtoaEnd (w.heap.size + 1) M e w' ∧ Below w.heap.size w w' := by
  obtain ⟨i0, hi, hz0, hz1, hz2⟩ := info_parts info5
  have HU : Hid (u = (M : Int)) := hu
  clear hu
  have HM2 : Hid (M ≤ 1000000000000000000) := by have := HU.out; show _ ≤ _; omega
  go_enter Try.func17, Try.ntmps17
  go_wp2
  go_loopw [0, 4] (fun x i wr => ∃ (y : Int) (q : Nat) (l : List UInt8), x = .int .u64 y ∧ i = .int .i64 (q : Int) ∧ Buf w.heap.size q l wr ∧ Dig M y l ∧ Below w.heap.size w wr ∧ w.heap.size < wr.heap.size) (fun x _ _ => (intOf x).toNat)
  case atStart => exact ⟨u, 20, [], rfl, rfl, Buf.fresh _ _ _ rfl, ⟨by omega, fun c hc => by simp at hc, by rw [HU.out]; simp [num], fun h => by omega⟩, (Below.refl _ _).alloc (Nat.le_refl _) _, by simp⟩
  case round =>
    obtain ⟨y, q, l, rfl, rfl, hbuf, hdig, hb, hsz⟩ := hrel
    have hy0 := hdig.nonneg
    have hy1 : y ≤ 1000000000000000000 := by have := hdig.le; have := HM2.out; omega
    have hq20 : q ≤ 20 := by have := hbuf.len; omega
    by_cases hpos : 0 < y
    · have hq2 : 2 ≤ q := by have h1 := hdig.short HM2.out hpos; have h2 := hbuf.len; omega
      obtain ⟨k, rfl⟩ : ∃ k, q = k + 1 := ⟨q - 1, by omega⟩
      obtain ⟨v, hv⟩ := hbuf.all k (by omega)
      have hf := hbuf.free k
      have hd2 := hdig.step hpos
      have hs1 := hbuf.store (cdig y) (48 + y % 10) (cdig_val y hy0).symm
      clear hdig
      go_wp2
      go_roundw
      case rel => exact ⟨y / 10, k, cdig y :: l, rfl, by go_num, hs1, hd2, hb.setCell (Nat.le_refl _) _, by simpa using hsz⟩
      case measure => simp [intOf]; omega
    · have hy : y = 0 := by omega
      subst hy
      obtain ⟨hne, hhead⟩ := hdig.fin rfl
      have hsum : num l = M := by have := hdig.sum; rw [Int.zero_mul, Int.zero_add] at this; omega
      have HL : Hid ((∀ c ∈ l, IsDig c) ∧ l ≠ [] ∧ l.head? ≠ some 48 ∧ num l = M) := ⟨hdig.dig, hne, hhead, hsum⟩
      have hlen := hbuf.len
      have HLEN : Hid (q + l.length = 20) := hlen
      have hll : l.length ≤ 20 := by omega
      have hlq : q ≤ 20 - l.length := by omega
      have hlq2 : 20 - l.length ≤ q := by omega
      clear hpos hdig hne hhead hsum hlen
      obtain ⟨m, hm⟩ : ∃ m : Nat, (m : Int) = 20 - (q : Int) := ⟨20 - q, by omega⟩
      have HM : Hid ((m : Int) = 20 - (q : Int)) := hm
      have hmb : m ≤ 20 := by omega
      clear hm
      have hB : w.heap.size + 1 ≤ wr.heap.size := hsz
      go_wp2_with (refine wpList_make_own _ rfl _ (.tmp 23) 23 rfl (w.heap.size + 1) 5 i0 (.int .u8 0) 1 Try.underlying23 hi hz0 hz1 .i64 .i64 _ m rfl rfl HM.out.symm (by rw [hz2]; omega) (by unfold maxLen; omega) hB ?_; intro w1 hown1 hgrow1; refine Hid.out ?_)
      refine (show ∀ {p : Prop}, p → Hid p from fun h => h) ?_
      have ho1 : Owns w1 (w.heap.size + 1) _ [] := hown1
      have hb1 : Below (w.heap.size + 1) wr w1 := (Below.refl _ _).grown hgrow1 hB (by intro k h; cases h)
      clear hown1 hgrow1
      generalize (Value.slice (some ⟨wr.heap.size, 0, none⟩) 0 m) = v1 at ho1 ⊢
      obtain ⟨W, hW⟩ : ∃ W, W = wr := ⟨_, rfl⟩
      rw [← hW] at hb1 hbuf hb hB
      clear hW hsz
      go_wp2_with fail
      go_loopw [5, 6] (fun v j wr => ∃ k : Nat, k ≤ l.length ∧ j = .int .i64 ((q : Int) + (k : Int)) ∧ Owns wr (w.heap.size + 1) v (l.take k) ∧ Below (w.heap.size + 1) W wr) (fun _ j _ => 20 - (intOf j).toNat)
      case atStart => exact ⟨0, by omega, by go_num, ho1, hb1⟩
      case round =>
        clear ho1 hb1
        obtain ⟨k, hk, rfl, ho, hb2⟩ := hrel
        by_cases hlt : k < l.length
        · have ck : wr.cell? ⟨w.heap.size, q + k, none⟩ = some (.int .u8 ((l.getD k 0).toNat : Int)) := by
            rw [hb2.cell (p := ⟨w.heap.size, q + k, none⟩) (by simp)]; exact hbuf.done k hlt
          have HS : Hid (l.take (k + 1) = l.take k ++ [l.getD k 0]) := list_take_succ l k hlt
          have hl : (l.take k).length ≤ 20 := by rw [List.length_take]; omega
          have hsz : w.heap.size + 1 ≤ wr.heap.size := Nat.le_trans hB hb2.size
          have hqk : (q : Int) + (k : Int) < 20 := by omega
          generalize l.getD k 0 = x at ck HS
          generalize l.take k = L at hl ho HS
          have hO : wr.ownsRow (w.heap.size + 1) 5 1 _ L.length (Lib.byteCells L) := ho
          go_wp2_with (first | (at_builtin; refine wpList_append_own _ rfl (.tmp 30) (.tmp 34) 23 rfl (w.heap.size + 1) 5 i0 (.int .u8 0) 1 1 Try.underlying23 hi hz0 hz1 hz2 rfl (by decide) _ L.length (Lib.byteCells L) rfl (hO.alloc _) ⟨wr.heap.size, 0, none⟩ 1 1 (Lib.byteCells [x]) rfl rfl (one_new wr x _ rfl) (one_bytes _) (by unfold maxLen; omega) (by omega) (le_alloc hsz _) ?_; intro v2 w2 hown2 hgrow2 hnil2; refine Hid.out ?_))
          refine (show ∀ {p : Prop}, p → Hid p from fun h => h) ?_
          have ho2 : Owns w2 (w.heap.size + 1) v2 (L ++ [x]) := Owns.next [x] rfl hown2
          have hb3 : Below (w.heap.size + 1) W w2 := (hb2.alloc hsz _).grown hgrow2 (le_alloc hsz _) (own_ge ho)
          clear hown2 hgrow2 hnil2 hO ho ck hb2
          go_wp2
          go_roundw
          case rel => exact ⟨k + 1, by omega, by go_num, by rw [HS.out]; exact ho2, hb3⟩
          case measure => simp [intOf]; omega
        · have hkl : k = l.length := by omega
          subst hkl
          rw [List.take_length] at ho
          have hqk : (q : Int) + (l.length : Int) = 20 := by omega
          have hqk' : ¬ (q : Int) + (l.length : Int) < 20 := by omega
          clear hqk hlt
          go_wp2
          go_ret
          exact ⟨⟨_, l, rfl, ho, HL.out.1, HL.out.2.1, HL.out.2.2.1, HL.out.2.2.2, hll⟩, hb.trans (hb2.mono (by omega))⟩
set_option maxHeartbeats 400000 in
theorem bytesEqual_any (g1 g2 n c1 c2 : Nat) (K : List UInt8) (w : World) (hn : K.length = n) (hm : n ≤ 400000)
    (h1 : ∀ j, j < n → w.cell? ⟨g1, j, none⟩ = some (.int .u8 ((K.getD j 0).toNat : Int))) (h2 : ∀ j, j < n → w.cell? ⟨g2, j, none⟩ = some (.int .u8 ((K.getD j 0).toNat : Int))) :
    Calls Try.prog 16 #[.slice (some ⟨g1, 0, none⟩) n c1, .slice (some ⟨g2, 0, none⟩) n c2] w fun e w' => e = .returned (.bool true) ∧ Below w.heap.size w w' := by
  clear hn
  go_enter Try.func16, Try.ntmps16
  go_wp2
  go_loopw [5] (fun i wr => ∃ k nq : Nat, k ≤ n ∧ i = .int .i64 k ∧ wr = w.drewN nq) (fun i _ => n - (intOf i).toNat)
  case atStart => exact ⟨0, 0, by omega, rfl, rfl⟩
  case round =>
    obtain ⟨k, nq, hk, rfl, hw⟩ := hrel
    subst hw
    by_cases hlt : k < n
    · have a1 := h1 k hlt
      have a2 := h2 k hlt
      generalize K.getD k 0 = x at a1 a2
      have b1 : (k : Int) < (n : Int) := by omega
      go_wp2
      go_quiet (fail)
      go_wp2
      go_roundw
      case rel => exact ⟨k + 1, _, by omega, by go_num, rfl⟩
      case measure => simp [intOf]; omega
    · go_wp2
      go_ret
      exact ⟨rfl, below_drewN (Below.refl _ _) _⟩
end Go.Proofs.Qxb6000399a
