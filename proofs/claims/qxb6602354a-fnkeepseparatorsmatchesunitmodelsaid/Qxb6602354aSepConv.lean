import Derived.Test.Qxb6602354aSepUnit
import Derived.Test.Qxb6602354aCopy
import Derived.Laws.IdiomStrings
namespace Go.Proofs.Qxb6602354a
open Go.RowKit
set_option linter.unusedVariables false
set_option linter.unusedSimpArgs false

def bt (z : Int) : UInt8 := UInt8.ofNat z.toNat
theorem bt_int {z : Int} (h0 : 0 ≤ z) (h1 : z ≤ 255) : ((bt z).toNat : Int) = z := by
  unfold bt
  rw [UInt8.toNat_ofNat']
  omega
theorem map_bt_back (u : List Int) (h : ∀ z ∈ u, 0 ≤ z ∧ z ≤ 255) : (u.map bt).map (fun b => (b.toNat : Int)) = u := by
  rw [List.map_map]
  conv => rhs; rw [← List.map_id u]
  apply List.map_congr_left
  intro z hz
  exact bt_int (h z hz).1 (h z hz).2
theorem map_bt_eq (u : List Int) (h : ∀ z ∈ u, 0 ≤ z ∧ z ≤ 255) (X : List UInt8) (Y : List Int) (hXY : X.map (fun b => (b.toNat : Int)) = Y) (hYX : Y.map bt = X) :
    ((u.map bt) == X) = decide (u = Y) := by
  rw [Bool.eq_iff_iff]
  simp only [beq_iff_eq, decide_eq_true_eq]
  constructor
  · intro e; rw [← hXY, ← e, map_bt_back u h]
  · intro e; rw [e, hYX]

/-- 'string(escape)', and what the switch asks of it. -/
theorem conv_run (tb p L cap : Nat) (u : List Int) (wr : World) (hl : u.length = L) (hb : ∀ z ∈ u, 0 ≤ z ∧ z ≤ 255)
    (hc : ∀ i, i < L → wr.cell? ⟨tb, p + i, none⟩ = some (.int .u8 (u.getD i 0))) :
    ∃ str : ByteArray, (convert 22 9 (.slice (some ⟨tb, p, none⟩) L cap)).run Try.prog wr = .ok (.string str) wr ∧
      (str.toList == [92, 117, 50, 48, 50, 56]) = decide (u = sep8) ∧ (str.toList == [92, 117, 50, 48, 50, 57]) = decide (u = sep9) := by
  refine ⟨⟨(u.map bt).toArray⟩, ?_, ?_, ?_⟩
  · have h := run_convert_bytes_back (P := Try.prog) wr 22 9 5 ⟨tb, p, none⟩ cap (u.map bt) Try.underlying22 Try.underlying5 Try.underlying9 (by
      intro j hj
      rw [List.length_map] at hj
      rw [Go.WideShapes.add_plain, hc j (by omega), List.getElem_map, bt_int (hb _ (List.getElem_mem hj)).1 (hb _ (List.getElem_mem hj)).2, getD_at hj])
    rw [List.length_map, hl] at h
    exact h
  · rw [ByteArray.toList_eq]
    exact map_bt_eq u hb _ _ (by decide) (by decide)
  · rw [ByteArray.toList_eq]
    exact map_bt_eq u hb _ _ (by decide) (by decide)

/-- What is owned lies among the call's own blocks. -/
theorem own_ge {w : World} {B : Nat} {v : Value} {n : Nat} {xs : List Value} (h : w.ownsRow B 5 1 v n xs) : ∀ k, v.ownBlock = some k → B ≤ k := by
  intro k hk
  rcases h.2 with ⟨rfl, _⟩ | ⟨g, cap, cur, rfl, hB, _⟩
  · cases hk
  · cases hk; exact hB
theorem one_bcells (zs : List Int) : ∀ v ∈ bcells zs, v.oneCell' = true := by
  intro v hv; unfold bcells at hv; rw [List.mem_map] at hv; obtain ⟨x, _, rfl⟩ := hv; rfl
theorem bcells_append (xs ys : List Int) : bcells (xs ++ ys) = bcells xs ++ bcells ys := by simp [bcells]
/-- The cells of a part of the text. -/
theorem seg_cells {w : World} {tb : Nat} {zs : List Int} (hc : RowAt w tb zs) (s p : Nat) (hp : p ≤ zs.length) :
    ∀ j v, (bcells (seg zs s p))[j]? = some v → w.cell? ((⟨tb, s, none⟩ : Addr).add j) = some v := by
  intro j v h
  obtain ⟨hj, rfl⟩ := bcells_get _ j v h
  rw [seg_len zs s p hp] at hj
  rw [Go.WideShapes.add_plain, seg_get zs s p j hp hj]
  exact hc (s + j) (by omega)
theorem three_new (w : World) (a b c : Int) : ∀ j u, (bcells [a, b, c])[j]? = some u → (w.alloc (.cells #[.int .u8 a, .int .u8 b, .int .u8 c] 5)).cell? ((⟨w.heap.size, 0, none⟩ : Addr).add j) = some u := by
  intro j u h
  rw [Go.WideShapes.add_plain, Nat.zero_add, World.cell?_alloc_at _ _ _ _ rfl]
  unfold bcells at h
  simpa using h
theorem le_alloc {n : Nat} {w : World} (h : n ≤ w.heap.size) (o : Obj) : n ≤ (w.alloc o).heap.size := by
  rw [World.size_alloc]; omega
theorem ret_val {a b : Value} (h : a = b) : Ending.returned a = .returned b := by rw [h]
/-- An owned row of bytes, not nil, written out. -/
theorem end_row {w : World} {B : Nat} {v : Value} {m : Nat} {zs : List Int} (h : w.ownsRow B 5 1 v m (bcells zs)) (hv : v ≠ .slice none 0 0) :
    ∃ g oc, v = .slice (some ⟨g, 0, none⟩) zs.length oc ∧ RowAt w g zs := by
  have hm : m = zs.length := by have := h.1; rw [bcells_len] at this; omega
  subst hm
  rcases h.2 with ⟨hv', _⟩ | ⟨g, oc, cur, rfl, _⟩
  · exact absurd hv' hv
  · refine ⟨g, oc, rfl, ?_⟩
    intro k hk
    rw [h.cellAt k (by omega)]
    simp [bcells, List.getD, hk]
theorem seg_end (zs : List Int) (s n : Nat) (h : zs.length = n) : seg zs s n = zs.drop s := by
  unfold seg; rw [List.take_of_length_le (by omega)]
end Go.Proofs.Qxb6602354a
