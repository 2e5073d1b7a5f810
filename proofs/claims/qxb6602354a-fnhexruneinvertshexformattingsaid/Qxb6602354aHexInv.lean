import Derived.Test.Qxb6602354aHexWalks
namespace Go.Proofs.Qxb6602354a
open Go.RowKit
set_option linter.unusedVariables false
set_option linter.unusedSimpArgs false

/-- An array of n bytes in block B, of the call's own, whose first k cells hold f. -/
structure Arr (B n : Nat) (f : Nat → Int) (k : Nat) (wr : World) : Prop where
  all : ∀ j, j < n → ∃ v, wr.cell? ⟨B, j, none⟩ = some v
  done : ∀ j, j < k → wr.cell? ⟨B, j, none⟩ = some (.int .u8 (f j))
  free : ∀ j, wr.frozen? ⟨B, j, none⟩ = false

theorem Arr.store {B n : Nat} {f : Nat → Int} {k : Nat} {wr : World} (h : Arr B n f k wr) (hk : k < n) :
    Arr B n f (k + 1) (wr.setCell ⟨B, k, none⟩ (.int .u8 (f k))) := by
  refine ⟨?_, ?_, ?_⟩
  · intro j hj
    by_cases e : k = j
    · subst e
      obtain ⟨v, hv⟩ := h.all k hk
      exact ⟨_, World.cell?_setCell_same _ _ _ hv⟩
    · obtain ⟨v, hv⟩ := h.all j hj
      exact ⟨v, by rw [World.cell?_setCell_other _ _ _ _ (by simp [e])]; exact hv⟩
  · intro j hj
    by_cases e : k = j
    · subst e
      obtain ⟨v, hv⟩ := h.all k hk
      exact World.cell?_setCell_same _ _ _ hv
    · rw [World.cell?_setCell_other _ _ _ _ (by simp [e])]; exact h.done j (by omega)
  · intro j; rw [World.frozen?_setCell]; exact h.free j

theorem Arr.fresh (w : World) (n : Nat) (f : Nat → Int) (cs : Array Value) (t : TypeId) (hc : cs.size = n) : Arr w.heap.size n f 0 (w.alloc (.cells cs t)) := by
  refine ⟨?_, ?_, ?_⟩
  · intro j hj
    rw [World.cell?_alloc_at _ _ _ _ rfl]
    exact ⟨cs[j], Array.getElem?_eq_getElem (by omega)⟩
  · intro j hj; omega
  · intro j; exact World.frozen?_alloc_at _ _ _ _ rfl

def up8 (m : Int) (j : Nat) : Bool := bits .and .u8 (m / 2 ^ j) 1 == 1
def f8 (a0 a1 : Int) (j : Nat) : Int := chrOf (digAt 7 (a0 % 4294967296) j) (up8 a1 j)
def f4 (a0 a1 : Int) (j : Nat) : Int := chrOf (digAt 3 (a0 % 4294967296) j) (up8 a1 (j + 4))

theorem range_getD (f : Nat → Int) (n k : Nat) (h : k < n) : ((List.range n).map f).getD k 0 = f k := by
  simp [List.getD, h]

theorem call8 (B : Nat) (a0 a1 : Int) (wr : World) (h0 : -2147483648 ≤ a0) (h1 : a0 ≤ 2147483647) (harr : Arr B 8 (f8 a0 a1) 8 wr) :
    Calls Try.prog 20 #[.slice (some ⟨B, 0, none⟩) 8 8] wr fun e w' => e = .returned (.int .i32 a0) ∧ w' = wr := by
  have h := zzHexRune_any B 0 8 8 ((List.range 8).map (f8 a0 a1)) wr (by simp) (by omega)
    (by intro k hk; rw [range_getD _ _ _ hk]; exact chrOf_hex _ (digAt_bd _ _ _).1 (digAt_bd _ _ _).2)
    (by intro k hk; rw [range_getD _ _ _ hk, Nat.zero_add]; exact harr.done k hk)
  have e : hexFold ((List.range 8).map (f8 a0 a1)) = a0 := eight a0 h0 h1 _
  rw [e] at h; exact h
theorem call4 (B : Nat) (a0 a1 : Int) (wr : World) (harr : Arr B 4 (f4 a0 a1) 4 wr) :
    Calls Try.prog 20 #[.slice (some ⟨B, 0, none⟩) 4 4] wr fun e w' => e = .returned (.int .i32 (a0 % 65536)) ∧ w' = wr := by
  have h := zzHexRune_any B 0 4 4 ((List.range 4).map (f4 a0 a1)) wr (by simp) (by omega)
    (by intro k hk; rw [range_getD _ _ _ hk]; exact chrOf_hex _ (digAt_bd _ _ _).1 (digAt_bd _ _ _).2)
    (by intro k hk; rw [range_getD _ _ _ hk, Nat.zero_add]; exact harr.done k hk)
  have e : hexFold ((List.range 4).map (f4 a0 a1)) = a0 % 65536 := four a0 _
  rw [e] at h; exact h

set_option maxHeartbeats 400000 in
theorem inv_any (a0 : Int) (a1 : Int) (h0 : -2147483648 ≤ a0) (h1 : a0 ≤ 2147483647) (g0 : 0 ≤ a1) (g1 : a1 ≤ 255) (w : World) :
    Calls Try.prog 7 #[.int .i32 a0, .int .u8 a1] w fun e w' => e = .returned (.bool true) ∧ Grown w w' := by
  go_enter Try.func7, Try.ntmps7
  go_wp2
  go_loopw [7] (fun i wr => ∃ k : Nat, k ≤ 8 ∧ i = .int .i64 k ∧ Arr w.heap.size 8 (f8 a0 a1) k wr ∧ Grown w wr ∧ wr.heap.size = w.heap.size + 1) (fun i _ => 8 - (intOf i).toNat)
  case atStart =>
    exact ⟨0, by omega, rfl, Arr.fresh _ _ _ _ _ rfl, (Grown.refl _).alloc _ _, by simp⟩
  case round =>
    obtain ⟨k, hk, rfl, harr, hg, hsz⟩ := hrel
    by_cases hlt : k < 8
    · obtain ⟨v, hv⟩ := harr.all k hlt
      have hf := harr.free k
      go_wp2_with (go_at_call 22; refine (hexChar_any _ _ _ (digAt_bd 7 (a0 % 4294967296) k).1 (digAt_bd 7 (a0 % 4294967296) k).2).mono ?_; rintro e w' ⟨rfl, rfl⟩)
      go_roundw
      case rel => exact ⟨k + 1, by omega, by go_num, harr.store hlt, hg.setCell (Nat.le_refl _) _, by simpa using hsz⟩
      case measure => simp [intOf]; omega
    · have : k = 8 := by omega
      subst this
      have h8 := call8 w.heap.size a0 a1 wr h0 h1 harr
      go_wp2_with (go_at_call 20; refine h8.mono ?_; rintro e w' ⟨rfl, rfl⟩)
      go_loopw [10] (fun i wx => ∃ k : Nat, k ≤ 4 ∧ i = .int .i64 k ∧ Arr (w.heap.size + 1) 4 (f4 a0 a1) k wx ∧ Grown w wx) (fun i _ => 4 - (intOf i).toNat)
      case atStart =>
        refine ⟨0, by omega, rfl, ?_, hg.alloc _ _⟩
        rw [← hsz]
        exact Arr.fresh _ _ _ _ _ rfl
      case round =>
        obtain ⟨k, hk4, rfl, harr4, hg4⟩ := hrel
        by_cases hlt : k < 4
        · obtain ⟨v, hv⟩ := harr4.all k hlt
          have hf := harr4.free k
          go_wp2_with (go_at_call 22; refine (hexChar_any _ _ _ (digAt_bd 3 (a0 % 4294967296) k).1 (digAt_bd 3 (a0 % 4294967296) k).2).mono ?_; rintro e w' ⟨rfl, rfl⟩)
          go_roundw
          case rel => exact ⟨k + 1, by omega, by go_num, harr4.store hlt, hg4.setCell (by simp) _⟩
          case measure => simp [intOf]; omega
        · have : k = 4 := by omega
          subst this
          have h4 := call4 (w.heap.size + 1) a0 a1 _ harr4
          go_wp2_with (go_at_call 20; refine h4.mono ?_; rintro e w' ⟨rfl, rfl⟩)
          go_ret
          exact ⟨ret_bool (by rw [and_ffff]; simp), hg4⟩
end Go.Proofs.Qxb6602354a
