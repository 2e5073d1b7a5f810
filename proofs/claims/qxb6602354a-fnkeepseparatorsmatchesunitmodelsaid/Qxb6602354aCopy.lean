import Derived.Test.Qxb6602354aRows
import Derived.WalkKit
import Derived.WalkSpells
import Derived.WalkLawsBesides
import Derived.Laws.CopyOwn
import Derived.Lib.SliceRun
namespace Go.Proofs.Qxb6602354a
open Go.RowKit
set_option linter.unusedVariables false
set_option linter.unusedSimpArgs false

/-- The cells of a row of bytes. -/
def bcells (zs : List Int) : List Value := zs.map (Value.int .u8)
theorem bcells_len (zs : List Int) : (bcells zs).length = zs.length := by simp [bcells]
theorem bcells_get (zs : List Int) (j : Nat) (v : Value) (h : (bcells zs)[j]? = some v) : j < zs.length ∧ v = .int .u8 (zs.getD j 0) := by
  unfold bcells at h
  rw [List.getElem?_map] at h
  by_cases hj : j < zs.length
  · simp [hj] at h; exact ⟨hj, by simp [List.getD, hj, h]⟩
  · simp [hj] at h

theorem info5 : (Try.prog.info? 5).map (fun i => (i.zero, i.size, i.bytes)) = some (some (.int .u8 0), 1, 1) := by kernel_rfl
theorem size5 : (Try.prog.info? 5).map (·.size) = some 1 := by kernel_rfl

theorem eql_nil22 : ∀ (w : World) (a : Option Addr) (n c n' c' : Nat), (binOp .eql 22 (.slice a n c) (.slice none n' c')).run Try.prog w = .ok (.bool a.isNone) w :=
  fun w a n c n' c' => Lib.run_eql_slice_nil w _ _ a n c n' c' Try.underlying22

theorem copy_nil (w : World) : Calls Try.prog 10 #[.slice none 0 0] w fun e w' => e = .returned (.slice none 0 0) ∧ w' = w := by
  have q22 := eql_nil22
  go_enter Try.func10, Try.ntmps10
  go_wp2
  go_ret
  exact ⟨rfl, rfl⟩

theorem made_row {w1 : World} {B g n : Nat} {xs : List Value} (h : w1.ownsRow B 5 1 (.slice (some ⟨g, 0, none⟩) n n) n xs) :
    ∃ cur : List Value, cur.length = n ∧ w1.heap[g]? = some (.cells cur.toArray 5 (0, 0)) := by
  obtain ⟨_, h | ⟨g', cap, cur, hv, _, hh, _, _, hcs, _⟩⟩ := h
  · cases h.1
  · cases hv
    exact ⟨cur.toList, by simpa using hcs, by simpa using hh⟩

theorem splice_all (cur cs : List Value) (h : cs.length = cur.length) : splice cur 0 cs = cs := by
  unfold splice
  rw [Nat.zero_add, h, List.drop_length]; simp

set_option maxHeartbeats 400000 in
theorem copy_any (ad : Addr) (n cap : Nat) (zs : List Int) (w : World) (hn : zs.length = n) (hm : n ≤ 1048576)
    (hc : ∀ j, j < n → w.cell? (ad.add j) = some (.int .u8 (zs.getD j 0))) :
    Calls Try.prog 10 #[.slice (some ad) n cap] w fun e w' => e = .returned (.slice (some ⟨w.heap.size, 0, none⟩) n n) ∧
      w'.heap[w.heap.size]? = some (.cells (bcells zs).toArray 5 (0, 0)) ∧ Below w.heap.size w w' := by
  obtain ⟨i0, hi, hz0, hz1, hz2⟩ := info_parts info5
  have q22 := eql_nil22
  have hbl : (bcells zs).length = Nat.min n n := by rw [bcells_len, hn]; exact (Nat.min_self n).symm
  have HBL : Hid ((bcells zs).length = n) := show _ = _ by rw [bcells_len, hn]
  have h1c : ∀ v ∈ bcells zs, v.oneCell' = true := by
    intro v hv; unfold bcells at hv; rw [List.mem_map] at hv; obtain ⟨x, _, rfl⟩ := hv; rfl
  obtain ⟨cs, hcs⟩ : ∃ cs, cs = bcells zs := ⟨_, rfl⟩
  rw [← hcs] at hbl HBL h1c ⊢
  have HBL2 : Hid (cs.length = Nat.min n n) := hbl
  have HSRC : Hid (∀ j v, cs[j]? = some v → w.cell? (ad.add j) = some v) := by
    show ∀ j v, cs[j]? = some v → w.cell? (ad.add j) = some v
    intro j v hv; rw [hcs] at hv; obtain ⟨hj, rfl⟩ := bcells_get zs j v hv; exact hc j (by omega)
  clear hbl hc hcs hn
  go_enter Try.func10, Try.ntmps10
  go_wp2_with (first | (refine wpList_make_full _ rfl (.tmp 7) (.tmp 7) 22 rfl w.heap.size 5 i0 (.int .u8 0) 1 Try.underlying22 hi hz0 hz1 .i64 .i64 (n : Int) (n : Int) n rfl rfl rfl rfl (by rw [hz2]; omega) (by unfold maxLen; omega) (Nat.le_refl _) ?_; intro w1 hown hgrow; refine Hid.out ?_))
  refine (show ∀ {p : Prop}, p → Hid p from fun h => h) ?_
  obtain ⟨cur, hcl, hcur⟩ := made_row hown
  have hb1 : Below w.heap.size w w1 := (Below.refl _ _).grown hgrow (Nat.le_refl _) (by intro k h; cases h)
  have HCL : Hid (cur.length = n) := hcl
  have HSRC1 : Hid (∀ j v, cs[j]? = some v → w1.cell? (ad.add j) = some v) := by
    show ∀ j v, cs[j]? = some v → w1.cell? (ad.add j) = some v
    intro j v hv; exact hgrow.cell (HSRC.out j v hv) (by simp)
  clear hown hgrow hcl
  go_wp2_with (refine wpList_copy_splice rfl (.tmp 9) (.tmp 10) 22 22 rfl 5 Try.underlying22 size5 (some ⟨w.heap.size, 0, none⟩) (some ad) n n n cap rfl rfl w.heap.size 0 cur 5 hcur cs HBL2.out (fun _ => ⟨rfl, ad, rfl, HSRC1.out⟩) (by rw [Nat.zero_add, HBL.out, HCL.out]; exact Nat.le_refl _) h1c w.heap.size w hb1 (Nat.le_refl _) ?_; intro w2 hg2 hb2)
  go_ret
  exact ⟨rfl, by have := hg2.out; rw [splice_all cur cs (by rw [HBL.out, HCL.out])] at this; exact this, hb2⟩
/-- A byte of a row that is known whole. -/
theorem row_cell {w : World} {g : Nat} {zs : List Int} (h : w.heap[g]? = some (.cells (bcells zs).toArray 5 (0, 0))) (k : Nat) (hk : k < zs.length) :
    w.cell? ⟨g, k, none⟩ = some (.int .u8 (zs.getD k 0)) := by
  simp [World.cell?, h, bcells, List.getD, hk]
end Go.Proofs.Qxb6602354a
