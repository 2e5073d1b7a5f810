import Derived.Test.Qxb6602354aDoorRead
import Derived.Test.Qxb6602354aDoorFormat
import Derived.LaidLaws
namespace Go.Proofs.Qxb6602354aDoor
open Go.RowKit
set_option linter.unusedVariables false
set_option linter.unusedSimpArgs false

theorem gRange : Tryd.prog.globalNamed "strconv.ErrRange" = some 1 := by kernel_rfl

/-- The variable stays as it was. -/
theorem var_later {w w1 : World} {tp : TypeId} {p : Value} (hvar : w.var? Tryd.prog "strconv.ErrRange" = some #[.iface tp p]) (hb : Below w.heap.size w w1) :
    w1.var? Tryd.prog "strconv.ErrRange" = some #[.iface tp p] := by
  have h0 := World.var?_cell gRange hvar 0
  have h1 : w.cell? ⟨1, 0, none⟩ = some (.iface tp p) := by simpa using h0
  have h2 : 1 < w.heap.size := World.block_lt_of_cell? _ _ h1
  exact var?_below hb gRange h2 hvar

set_option maxHeartbeats 400000 in
theorem inv_any (n : Int) (plus : Bool) (w : World) (h0 : -9223372036854775808 ≤ n) (h1 : n ≤ 9223372036854775807) (tp : TypeId) (p : Value) (hvar : w.var? Tryd.prog "strconv.ErrRange" = some #[.iface tp p]) :
    Calls Tryd.prog 4 #[.int .i64 n, .bool plus] w fun e w' => e = .returned (.bool true) ∧ Below w.heap.size w w' := by
  have h10 := format_any n plus w h0 h1
  have HV : Hid (w.var? Tryd.prog "strconv.ErrRange" = some #[.iface tp p]) := hvar
  clear hvar
  go_enter Tryd.func4, Tryd.ntmps4
  go_wp2_with (go_at_call 10; refine h10.mono ?_; rintro e w1 ⟨⟨t, neg, ds, rfl, hts, hsg, hne, hd, hlim, hsn⟩, hb⟩; refine Hid.out ?_)
  refine (show ∀ {p : Prop}, p → Hid p from fun h => h) ?_
  have h8 := zzread_any t neg ds (by omega) hsg hne hd w1 tp p (var_later HV.out hb)
  obtain ⟨e1, e2⟩ := rd_small neg ds hd hlim
  rw [e1, e2, hsn] at h8
  have hsz := hb.size
  clear h10 hsg hne hd hlim hsn e1 e2
  go_wp2_with (go_at_call 8; refine h8.mono ?_; rintro e w2 ⟨rfl, hb2⟩)
  go_ret
  exact ⟨by simp, hb.trans (hb2.mono hsz)⟩
end Go.Proofs.Qxb6602354aDoor
