import Derived.Test.Qxb6000399aShape
import Derived.Lib.AppendStr
import Derived.Lib.SmallJoins
namespace Go.Proofs.Qxb6000399a
open Go.RowKit
set_option linter.unusedVariables false
set_option linter.unusedSimpArgs false

theorem info5 : (Try.prog.info? 5).map (fun i => (i.zero, i.size, i.bytes)) = some (some (.int .u8 0), 1, 1) := by kernel_rfl

/-- What is owned: a row of bytes of the call's own. -/
def Owns (w : World) (B : Nat) (v : Value) (K : List UInt8) : Prop := w.ownsRow B 5 1 v K.length (Lib.byteCells K)
theorem own_ge {w : World} {B : Nat} {v : Value} {K : List UInt8} (h : Owns w B v K) : ∀ k, v.ownBlock = some k → B ≤ k := by
  intro k hk
  rcases h.2 with ⟨rfl, _⟩ | ⟨g, cap, cur, rfl, hB, _⟩
  · cases hk
  · cases hk; exact hB
theorem one_bytes (K : List UInt8) : ∀ v ∈ Lib.byteCells K, v.oneCell' = true := by
  intro v hv; unfold Lib.byteCells at hv; rw [List.mem_map] at hv; obtain ⟨x, _, rfl⟩ := hv; rfl
theorem le_alloc {n : Nat} {w : World} (h : n ≤ w.heap.size) (o : Obj) : n ≤ (w.alloc o).heap.size := by
  rw [World.size_alloc]; omega
theorem one_new (w : World) (c : UInt8) (v : Int) (hv : v = (c.toNat : Int)) : ∀ j u, (Lib.byteCells [c])[j]? = some u → (w.alloc (.cells #[.int .u8 v] 5)).cell? ((⟨w.heap.size, 0, none⟩ : Addr).add j) = some u := by
  subst hv
  intro j u h
  rw [Go.WideShapes.add_plain, Nat.zero_add, World.cell?_alloc_at _ _ _ _ rfl]
  unfold Lib.byteCells at h
  simpa using h
/-- Behind one append. -/
theorem Owns.next {w1 : World} {B : Nat} {v1 : Value} {K : List UInt8} {n : Nat} (X : List UInt8) (hn : n = X.length) (h : w1.ownsRow B 5 1 v1 (K.length + n) (Lib.byteCells K ++ Lib.byteCells X)) : Owns w1 B v1 (K ++ X) := by
  unfold Owns
  rw [List.length_append, Lib.byteCells_append, ← hn]
  exact h

set_option maxHeartbeats 400000 in
theorem zeros_any (B n : Nat) (v : Value) (K : List UInt8) (w : World) (hB : B ≤ w.heap.size) (hK : K.length + n ≤ 1000000) (hown : Owns w B v K) :
    Calls Try.prog 27 #[v, .int .i64 n] w fun e w' => (∃ v', e = .returned v' ∧ Owns w' B v' (K ++ List.replicate n 48)) ∧ Below B w w' := by
  obtain ⟨i0, hi, hz0, hz1, hz2⟩ := info_parts info5
  go_enter Try.func27, Try.ntmps27
  go_wp2
  go_loopw [0, 6] (fun d i wr => ∃ k : Nat, k ≤ n ∧ i = .int .i64 k ∧ Owns wr B d (K ++ List.replicate k 48) ∧ Below B w wr) (fun _ i _ => n - (intOf i).toNat)
  case atStart => exact ⟨0, Nat.zero_le _, rfl, by simpa using hown, Below.refl _ _⟩
  case round =>
    obtain ⟨k, hk, rfl, ho, hb⟩ := hrel
    by_cases hlt : k < n
    · have hsz : B ≤ wr.heap.size := Nat.le_trans hB hb.size
      have hl : (K ++ List.replicate k 48).length = K.length + k := by simp
      obtain ⟨L, hL⟩ : ∃ L, L = K ++ List.replicate k 48 := ⟨_, rfl⟩
      rw [← hL] at ho hl
      have HL : Hid (L = K ++ List.replicate k 48) := hL
      have hlb : L.length ≤ 999999 := by omega
      clear hL hl hown
      have hO : wr.ownsRow B 5 1 _ L.length (Lib.byteCells L) := ho
      go_wp2_with (first | (at_builtin; refine wpList_append_own _ rfl (.tmp 8) (.tmp 9) 23 rfl B 5 i0 (.int .u8 0) 1 1 Try.underlying23 hi hz0 hz1 hz2 rfl (by decide) _ L.length (Lib.byteCells L) rfl (hO.alloc _) ⟨wr.heap.size, 0, none⟩ 1 1 (Lib.byteCells [48]) rfl rfl (one_new wr 48 48 rfl) (one_bytes _) (by unfold maxLen; omega) (by omega) (le_alloc hsz _) ?_; intro v1 w1 hown1 hgrow1 hnil1; refine Hid.out ?_))
      refine (show ∀ {p : Prop}, p → Hid p from fun h => h) ?_
      have ho1 : Owns w1 B v1 (L ++ [48]) := Owns.next [48] rfl hown1
      have hb1 : Below B w w1 := (hb.alloc hsz _).grown hgrow1 (le_alloc hsz _) (own_ge ho)
      clear hown1 hgrow1 hnil1 hO ho
      go_wp2
      go_roundw
      case rel => exact ⟨k + 1, by omega, by go_num, by rw [List.replicate_succ', ← List.append_assoc, ← HL.out]; exact ho1, hb1⟩
      case measure => simp [intOf]; omega
    · have hkn : k = n := by omega
      subst hkn
      clear hlt
      go_wp2
      go_ret
      exact ⟨⟨_, rfl, ho⟩, hb⟩

set_option maxHeartbeats 400000 in
theorem make_any (s : ByteArray) (exp scale : Int) (neg : Bool) (w : World) :
    Calls Try.prog 11 #[.string s, .int .i32 exp, .int .i32 scale, .bool neg] w fun e w' => e = .returned (.agg #[.string s, .int .i32 exp, .int .i32 scale, .bool neg]) ∧ Below w.heap.size w w' := by
  go_enter Try.func11, Try.ntmps11
  go_wp2
  exact bodyPost_ret (v := .agg #[.string s, .int .i32 exp, .int .i32 scale, .bool neg]) (by simp [results, Try.results11, go_sem]) rfl ⟨rfl, (Below.refl _ _).alloc (Nat.le_refl _) _⟩

set_option maxHeartbeats 400000 in
theorem intDigits_any (s : ByteArray) (exp scale : Int) (neg : Bool) (w : World) (hs : s.size ≤ 1048576) (e0 : -65536 ≤ exp) (e1 : exp ≤ 65536) :
    Calls Try.prog 26 #[.agg #[.string s, .int .i32 exp, .int .i32 scale, .bool neg]] w fun e w' => e = .returned (.int .i64 (wholeOf s.data.toList exp)) ∧ Below w.heap.size w w' := by
  by_cases h : s.data.toList = []
  · have hE : s.toList.isEmpty = true := by rw [ByteArray.toList_eq, h]; rfl
    unfold wholeOf
    rw [if_pos h]
    clear h
    go_enter Try.func26, Try.ntmps26
    go_wp2
    go_ret
    exact ⟨rfl, (Below.refl _ _).alloc (Nat.le_refl _) _⟩
  · have hE : s.toList.isEmpty = false := by
      rw [ByteArray.toList_eq]
      cases hh : s.data.toList with
      | nil => exact absurd hh h
      | cons c r => rfl
    unfold wholeOf
    rw [if_neg h]
    have e3 : s.data.toList.length = s.size := Array.length_toList
    rw [e3]
    clear h e3
    go_enter Try.func26, Try.ntmps26
    go_wp2
    go_ret
    exact ⟨rfl, (Below.refl _ _).alloc (Nat.le_refl _) _⟩
end Go.Proofs.Qxb6000399a
