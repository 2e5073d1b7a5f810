import Derived.Test.Qxb6000399aZeros
import Derived.Deep.DeepCutAuto
import Derived.Deep.CutBlock
import Derived.Laws.IdiomStrings
namespace Go.Proofs.Qxb6000399a
open Go.RowKit
set_option linter.unusedVariables false
set_option linter.unusedSimpArgs false

/-- A text: a sign of st bytes, digits from st to q, and behind a point digits from fs on. -/
structure PT (T : List UInt8) (neg : Bool) (st q fs : Nat) : Prop where
  st0 : st = if neg then 1 else 0
  sign : neg = true → T.getD 0 0 = 45
  stq : st < q
  d1 : ∀ k, st ≤ k → k < q → IsDig (T.getD k 0)
  d2 : ∀ k, fs ≤ k → k < T.length → IsDig (T.getD k 0)
  mid : (q = T.length ∧ fs = T.length) ∨ (fs = q + 1 ∧ fs < T.length ∧ T.getD q 0 = 46)

/-- The text lies in a row. -/
def RowAt (w : World) (b : Nat) (T : List UInt8) : Prop := ∀ k, k < T.length → w.cell? ⟨b, k, none⟩ = some (.int .u8 ((T.getD k 0).toNat : Int))

theorem PT.first {T : List UInt8} {neg : Bool} {st q fs : Nat} (h : PT T neg st q fs) : (((T.getD 0 0).toNat : Int) == 45) = neg := by
  cases neg
  · have hs : st = 0 := h.st0
    have hd := h.d1 0 (by omega) (by have := h.stq; omega)
    unfold IsDig at hd
    exact beq_eq_false_iff_ne.2 (by omega)
  · rw [h.sign rfl]; rfl

/-- The part of the text between s and k. -/
def cutT (T : List UInt8) (s k : Nat) : List UInt8 := (T.take k).drop s
theorem cutT_self (T : List UInt8) (s : Nat) : cutT T s s = [] := by
  unfold cutT; rw [List.drop_of_length_le (by rw [List.length_take]; omega)]
theorem cutT_len (T : List UInt8) (s k : Nat) (h : k ≤ T.length) : (cutT T s k).length = k - s := by
  unfold cutT; rw [List.length_drop, List.length_take]; omega
theorem cutT_succ (T : List UInt8) (s k : Nat) (h0 : s ≤ k) (h : k < T.length) : cutT T s (k + 1) = cutT T s k ++ [T.getD k 0] := by
  unfold cutT
  rw [List.take_succ_eq_append_getElem h, List.drop_append_of_le_length (by rw [List.length_take]; omega)]
  have e : T.getD k 0 = T[k] := by simp [List.getD, h]
  rw [e]

theorem cutT_get (T : List UInt8) (s k j : Nat) (hk : k ≤ T.length) (hj : j < k - s) : (cutT T s k).getD j 0 = T.getD (s + j) 0 := by
  unfold cutT
  simp [List.getD, List.getElem?_take, show s + j < k by omega]
/-- Where the zeros of C end and begin. -/
structure PZ (C : List UInt8) (la tr : Nat) : Prop where
  le : la ≤ tr
  tl : tr ≤ C.length
  z1 : ∀ j, j < la → C.getD j 0 = 48
  n1 : la < C.length → C.getD la 0 ≠ 48
  z2 : ∀ j, tr ≤ j → j < C.length → C.getD j 0 = 48
  n2 : la < tr → C.getD (tr - 1) 0 ≠ 48
theorem Owns.form {w : World} {B : Nat} {v : Value} {K : List UInt8} (h : Owns w B v K) (hp : 0 < K.length) :
    ∃ g cap, v = .slice (some ⟨g, 0, none⟩) K.length cap ∧ K.length ≤ cap ∧ ∀ j, j < K.length → w.cell? ⟨g, j, none⟩ = some (.int .u8 ((K.getD j 0).toNat : Int)) := by
  have hh : w.ownsRow B 5 1 v K.length (Lib.byteCells K) := h
  rcases h.2 with ⟨_, h0⟩ | ⟨g, cap, cur, hv, _, _, hcap, _⟩
  · omega
  · refine ⟨g, cap, hv, hcap, fun j hj => ?_⟩
    rw [hv] at hh
    rw [World.ownsRow.cellAt hh j (by omega)]
    unfold Lib.byteCells
    simp [List.getD, hj]
theorem conv_cut (g ccap la tr : Nat) (C : List UInt8) (w : World) (h1 : tr ≤ C.length) (hrow : ∀ j, j < C.length → w.cell? ⟨g, j, none⟩ = some (.int .u8 ((C.getD j 0).toNat : Int))) :
    (convert 23 9 (.slice (some ⟨g, la, none⟩) (tr - la) ccap)).run Try.prog w = .ok (.string ⟨(cutT C la tr).toArray⟩) w := by
  have h := run_convert_bytes_back (P := Try.prog) w 23 9 5 ⟨g, la, none⟩ ccap (cutT C la tr) Try.underlying23 Try.underlying5 Try.underlying9 (fun j hj => by
    have hj' := hj
    rw [cutT_len C la tr h1] at hj'
    rw [Go.WideShapes.add_plain, hrow (la + j) (by omega), ← cutT_get C la tr j h1 hj']
    have e : (cutT C la tr).getD j 0 = (cutT C la tr)[j] := by simp [List.getD, hj]
    rw [e])
  rw [cutT_len C la tr h1] at h
  exact h
theorem ne48 {c : UInt8} (h : c ≠ 48) : ((c.toNat : Int) == 48) = false := by
  apply beq_eq_false_iff_ne.2
  intro e
  exact h (UInt8.toNat_inj.1 (by show c.toNat = 48; omega))
/-- What zzParseDB1 hands back. -/
def ParseEnd (C : List UInt8) (la tr fl : Nat) (neg : Bool) (e : Ending) : Prop :=
  ∃ t : ByteArray, t.data.toList = cutT C la tr ∧
    e = .returned (.tuple #[.string t, .int .i32 (if la = tr then 0 else (C.length : Int) - tr - fl), .int .i32 fl, .bool neg, .bool true])

set_option maxRecDepth 20000 in
set_option maxHeartbeats 3200000 in
theorem parse_any (b n cap : Nat) (T : List UInt8) (neg : Bool) (st q fs : Nat) (w : World) (hp : PT T neg st q fs) (hn : T.length = n) (hm : n ≤ 400000) (hc : RowAt w b T) (hbB : b < w.heap.size)
    (C : List UInt8) (la tr : Nat) (hCeq : C = cutT T st q ++ cutT T fs n) (hz : PZ C la tr) :
    Calls Try.prog 13 #[.slice (some ⟨b, 0, none⟩) n cap] w fun e w' => ParseEnd C la tr (n - fs) neg e ∧ Below w.heap.size w w' := by
  obtain ⟨i0, hi, hz0, hz1, hz2⟩ := info_parts info5
  have hst : st ≤ 1 := by rw [hp.st0]; split <;> omega
  have hstq := hp.stq
  have hqn : q ≤ n := by rcases hp.mid with h | h <;> omega
  have hqf : q ≤ fs := by rcases hp.mid with h | h <;> omega
  have hfn : fs ≤ n := by rcases hp.mid with h | h <;> omega
  have HP : Hid (PT T neg st q fs) := hp
  have HN : Hid (T.length = n) := hn
  have HCE : Hid (C = cutT T st q ++ cutT T fs n) := hCeq
  have HZ : Hid (PZ C la tr) := hz
  have hlt0 := hz.le
  have htl := hz.tl
  clear hp hn hCeq hz
  have h45 := HP.out.first
  have c0 := hc 0 (by rw [HN.out]; omega)
  generalize T.getD 0 0 = x0 at h45 c0
  have HST : Hid (st = if neg then 1 else 0) := HP.out.st0
  go_enter Try.func13, Try.ntmps13
  go_upto_if 29 with fail
  go_cut [7, 8] (fun i g wr => i = .int .i64 st ∧ g = .bool neg ∧ wr = w)
  case first =>
    cases neg
    · have hs0 : st = 0 := HST.out
      subst hs0
      go_wp2
      go_meet
      case rel => exact ⟨rfl, rfl, rfl⟩
    · have hs1 : st = 1 := HST.out
      subst hs1
      go_wp2
      go_meet
      case rel => exact ⟨rfl, rfl, rfl⟩
  case rest =>
    obtain ⟨rfl, rfl, hw⟩ := hcut
    subst wc
    clear h45 c0
    go_upto_block 0 with fail
    go_cut [7] (fun i wr => i = .int .i64 q ∧ wr = w)
    case first =>
      go_wp2
      go_loop [7] (fun i => ∃ k : Nat, st ≤ k ∧ k ≤ q ∧ i = .int .i64 k) (fun i => n - (intOf i).toNat)
      case atStart => exact ⟨st, by omega, by omega, rfl⟩
      case round =>
        obtain ⟨k, hk0, hk1, rfl⟩ := hrel
        by_cases hlt : k < q
        · have ck := hc k (by rw [HN.out]; omega)
          have hd := HP.out.d1 k hk0 hlt
          generalize T.getD k 0 = x at ck hd
          unfold IsDig at hd
          obtain ⟨d1, d2⟩ := hd
          have d1' : (48 : Int) ≤ (x.toNat : Int) := by omega
          have d2' : (x.toNat : Int) ≤ 57 := by omega
          clear d1 d2
          go_wp2
          go_round
          case rel => exact ⟨k + 1, by omega, by omega, by go_num⟩
          case measure => simp [intOf]; omega
        · have hkq : k = q := by omega
          subst hkq
          clear hlt
          by_cases hend : k < n
          · have hx : T.getD k 0 = 46 := by rcases HP.out.mid with h | h <;> have := HN.out <;> first | omega | exact h.2.2
            have ck := hc k (by rw [HN.out]; omega)
            rw [hx] at ck
            have ck : w.cell? ⟨b, k, none⟩ = some (.int .u8 46) := ck
            clear hx
            go_wp2
            go_meet
            case rel => exact ⟨rfl, rfl⟩
          · go_wp2
            go_meet
            case rel => exact ⟨rfl, rfl⟩
    case rest =>
      obtain ⟨rfl, hw⟩ := hcut
      subst wc
      go_upto_if 62 with fail
      go_cut [7, 11, 12] (fun i f l wr => f = .int .i64 fs ∧ l = .int .i64 ((n : Int) - (fs : Int)) ∧ wr = w)
      case first =>
        by_cases hend : q < n
        · have hm1 : fs = q + 1 ∧ fs < n ∧ T.getD q 0 = 46 := by
            have := HN.out
            rcases HP.out.mid with h | h
            · omega
            · rw [this] at h; exact h
          obtain ⟨hm1, hm2, hx⟩ := hm1
          have ck := hc q (by rw [HN.out]; omega)
          rw [hx] at ck
          have ck : w.cell? ⟨b, q, none⟩ = some (.int .u8 46) := ck
          have HM1 : Hid (fs = q + 1) := hm1
          have hm1a : q + 1 ≤ fs := by omega
          have hm1b : fs ≤ q + 1 := by omega
          clear hx hm1
          go_wp2
          go_loop [7] (fun i => ∃ k : Nat, fs ≤ k ∧ k ≤ n ∧ i = .int .i64 k) (fun i => n - (intOf i).toNat)
          case atStart => exact ⟨fs, by omega, by omega, by rw [HM1.out]; go_num⟩
          case round =>
            obtain ⟨k, hk0, hk1, rfl⟩ := hrel
            by_cases hlt : k < n
            · clear ck
              have ck := hc k (by rw [HN.out]; omega)
              have hd := HP.out.d2 k hk0 (by rw [HN.out]; exact hlt)
              generalize T.getD k 0 = x at ck hd
              unfold IsDig at hd
              obtain ⟨d1, d2⟩ := hd
              have d1' : (48 : Int) ≤ (x.toNat : Int) := by omega
              have d2' : (x.toNat : Int) ≤ 57 := by omega
              clear d1 d2
              go_wp2
              go_round
              case rel => exact ⟨k + 1, by omega, by omega, by go_num⟩
              case measure => simp [intOf]; omega
            · have hkn : k = n := by omega
              subst hkn
              clear hlt ck
              go_wp2
              go_meet
              case rel => exact ⟨by go_num, by go_num, rfl⟩
        · have hm1 : q = n ∧ fs = n := by
            have := HN.out
            rcases HP.out.mid with h | h
            · rw [this] at h; exact h
            · omega
          obtain ⟨hq, hf⟩ := hm1
          subst hq
          subst hf
          go_wp2
          go_meet
          case rel => exact ⟨rfl, by go_num, rfl⟩
      case rest =>
        obtain ⟨rfl, rfl, hw⟩ := hcut
        subst wc
        obtain ⟨m, hm'⟩ : ∃ m : Nat, (m : Int) = (q : Int) - (st : Int) + ((n : Int) - (fs : Int)) := ⟨(q - st) + (n - fs), by omega⟩
        have HM : Hid ((m : Int) = (q : Int) - (st : Int) + ((n : Int) - (fs : Int))) := hm'
        have hmb : m ≤ 400000 := by omega
        clear hm'
        go_wp2_with (refine wpList_make_own _ rfl _ (.tmp 104) 23 rfl w.heap.size 5 i0 (.int .u8 0) 1 Try.underlying23 hi hz0 hz1 .i64 .i64 _ m rfl rfl HM.out.symm (by rw [hz2]; omega) (by unfold maxLen; omega) (Nat.le_refl _) ?_; intro w1 hown1 hgrow1; refine Hid.out ?_)
        refine (show ∀ {p : Prop}, p → Hid p from fun h => h) ?_
        have ho1 : Owns w1 w.heap.size _ [] := hown1
        have hb1 : Below w.heap.size w w1 := (Below.refl _ _).grown hgrow1 (Nat.le_refl _) (by intro k h; cases h)
        clear hown1 hgrow1
        generalize (Value.slice (some ⟨w.heap.size, 0, none⟩) 0 m) = v1 at ho1 ⊢
        go_wp2_with fail
        go_loopw [13, 14] (fun v j wr => ∃ k : Nat, st ≤ k ∧ k ≤ q ∧ j = .int .i64 k ∧ Owns wr w.heap.size v (cutT T st k) ∧ Below w.heap.size w wr) (fun _ j _ => q - (intOf j).toNat)
        case atStart => exact ⟨st, by omega, by omega, rfl, by rw [cutT_self]; exact ho1, hb1⟩
        case round =>
          clear ho1 hb1
          obtain ⟨k, hk0, hk1, rfl, ho, hb⟩ := hrel
          by_cases hlt : k < q
          · have ck : wr.cell? ⟨b, k, none⟩ = some (.int .u8 ((T.getD k 0).toNat : Int)) := by
              rw [hb.cell (p := ⟨b, k, none⟩) hbB]; exact hc k (by rw [HN.out]; omega)
            have HS : Hid (cutT T st (k + 1) = cutT T st k ++ [T.getD k 0]) := cutT_succ T st k hk0 (by rw [HN.out]; omega)
            have hl := cutT_len T st k (by rw [HN.out]; omega)
            generalize T.getD k 0 = x at ck HS
            have hsz : w.heap.size ≤ wr.heap.size := hb.size
            generalize cutT T st k = L at hl ho HS
            have hlb : L.length ≤ 400000 := by omega
            clear hl
            have hO : wr.ownsRow w.heap.size 5 1 _ L.length (Lib.byteCells L) := ho
            go_wp2_with (first | (at_builtin; refine wpList_append_own _ rfl (.tmp 114) (.tmp 119) 23 rfl w.heap.size 5 i0 (.int .u8 0) 1 1 Try.underlying23 hi hz0 hz1 hz2 rfl (by decide) _ L.length (Lib.byteCells L) rfl (hO.alloc _) ⟨wr.heap.size, 0, none⟩ 1 1 (Lib.byteCells [x]) rfl rfl (one_new wr x _ rfl) (one_bytes _) (by unfold maxLen; omega) (by omega) (le_alloc hsz _) ?_; intro v2 w2 hown2 hgrow2 hnil2; refine Hid.out ?_))
            refine (show ∀ {p : Prop}, p → Hid p from fun h => h) ?_
            have ho2 : Owns w2 w.heap.size v2 (L ++ [x]) := Owns.next [x] rfl hown2
            have hb2 : Below w.heap.size w w2 := (hb.alloc hsz _).grown hgrow2 (le_alloc hsz _) (own_ge ho)
            clear hown2 hgrow2 hnil2 hO ho ck hb
            go_wp2
            go_roundw
            case rel => exact ⟨k + 1, by omega, by omega, by go_num, by rw [HS.out]; exact ho2, hb2⟩
            case measure => simp [intOf]; omega
          · have hkq : q = k := by omega
            subst hkq
            clear hlt hk0 hk1
            have hl0 := cutT_len T st q (by rw [HN.out]; omega)
            obtain ⟨K0, hK0⟩ : ∃ K0, K0 = cutT T st q := ⟨_, rfl⟩
            rw [← hK0] at ho hl0
            have HK0 : Hid (K0 = cutT T st q) := hK0
            have hK0b : K0.length ≤ q - st := by omega
            have HL0 : Hid (K0.length = q - st) := hl0
            clear hK0 hl0
            go_wp2_with fail
            go_loopw [13, 15] (fun v j wx => ∃ k : Nat, fs ≤ k ∧ k ≤ n ∧ j = .int .i64 k ∧ Owns wx w.heap.size v (K0 ++ cutT T fs k) ∧ Below w.heap.size w wx) (fun _ j _ => n - (intOf j).toNat)
            case atStart => exact ⟨fs, by omega, by omega, rfl, by rw [cutT_self, List.append_nil]; exact ho, hb⟩
            case round =>
              clear ho hb
              obtain ⟨k, hk0, hk1, rfl, ho, hb⟩ := hrel
              by_cases hlt : k < n
              · have ck : wr.cell? ⟨b, k, none⟩ = some (.int .u8 ((T.getD k 0).toNat : Int)) := by
                  rw [hb.cell (p := ⟨b, k, none⟩) hbB]; exact hc k (by rw [HN.out]; omega)
                have HS : Hid (K0 ++ cutT T fs (k + 1) = (K0 ++ cutT T fs k) ++ [T.getD k 0]) := by
                  show _ = _; rw [cutT_succ T fs k hk0 (by rw [HN.out]; omega), List.append_assoc]
                have hl : (K0 ++ cutT T fs k).length ≤ 400000 := by
                  rw [List.length_append, cutT_len T fs k (by rw [HN.out]; omega)]; omega
                generalize T.getD k 0 = x at ck HS
                have hsz : w.heap.size ≤ wr.heap.size := hb.size
                generalize K0 ++ cutT T fs k = L at hl ho HS
                have hO : wr.ownsRow w.heap.size 5 1 _ L.length (Lib.byteCells L) := ho
                go_wp2_with (first | (at_builtin; refine wpList_append_own _ rfl (.tmp 129) (.tmp 134) 23 rfl w.heap.size 5 i0 (.int .u8 0) 1 1 Try.underlying23 hi hz0 hz1 hz2 rfl (by decide) _ L.length (Lib.byteCells L) rfl (hO.alloc _) ⟨wr.heap.size, 0, none⟩ 1 1 (Lib.byteCells [x]) rfl rfl (one_new wr x _ rfl) (one_bytes _) (by unfold maxLen; omega) (by omega) (le_alloc hsz _) ?_; intro v2 w2 hown2 hgrow2 hnil2; refine Hid.out ?_))
                refine (show ∀ {p : Prop}, p → Hid p from fun h => h) ?_
                have ho2 : Owns w2 w.heap.size v2 (L ++ [x]) := Owns.next [x] rfl hown2
                have hb2 : Below w.heap.size w w2 := (hb.alloc hsz _).grown hgrow2 (le_alloc hsz _) (own_ge ho)
                clear hown2 hgrow2 hnil2 hO ho ck hb
                go_wp2
                go_roundw
                case rel => exact ⟨k + 1, by omega, by omega, by go_num, by rw [HS.out]; exact ho2, hb2⟩
                case measure => simp [intOf]; omega
              · have hkn : n = k := by omega
                subst hkn
                clear hlt hk0 hk1
                have hCe : K0 ++ cutT T fs n = C := by rw [HCE.out, HK0.out]
                have hCl : (K0 ++ cutT T fs n).length = (q - st) + (n - fs) := by
                  rw [List.length_append, HL0.out, cutT_len T fs n (by rw [HN.out]; omega)]
                rw [hCe] at ho hCl
                have hCb : C.length ≤ 400000 := by omega
                have hCp : 0 < C.length := by omega
                clear hCe hCl
                obtain ⟨g, ccap, hv, hcap, hrow⟩ := ho.form hCp
                have HROW : Hid (∀ j, j < C.length → wr.cell? ⟨g, j, none⟩ = some (.int .u8 ((C.getD j 0).toNat : Int))) := hrow
                clear ho hrow
                subst hv
                go_upto_block 8 with fail
                go_cut [16] (fun i wx => i = .int .i64 la ∧ wx = wr)
                case first =>
                  go_wp2
                  go_loop [16] (fun i => ∃ k : Nat, k ≤ la ∧ i = .int .i64 k) (fun i => la - (intOf i).toNat)
                  case atStart => exact ⟨0, by omega, rfl⟩
                  case round =>
                    obtain ⟨k, hk, rfl⟩ := hrel
                    by_cases hlt : k < la
                    · have ck := HROW.out k (by omega)
                      rw [HZ.out.z1 k hlt] at ck
                      have ck : wr.cell? ⟨g, k, none⟩ = some (.int .u8 48) := ck
                      go_wp2
                      go_round
                      case rel => exact ⟨k + 1, by omega, by go_num⟩
                      case measure => simp [intOf]; omega
                    · have hkl : la = k := by omega
                      subst hkl
                      clear hlt hk
                      by_cases hend : la < C.length
                      · have ck := HROW.out la hend
                        have h48 := ne48 (HZ.out.n1 hend)
                        generalize C.getD la 0 = x at ck h48
                        go_wp2
                        go_meet
                        case rel => exact ⟨rfl, rfl⟩
                      · go_wp2
                        go_meet
                        case rel => exact ⟨rfl, rfl⟩
                case rest =>
                  obtain ⟨rfl, hw⟩ := hcut
                  subst wc
                  go_upto_block 10 with fail
                  go_cut [17] (fun i wx => i = .int .i64 tr ∧ wx = wr)
                  case first =>
                    go_wp2
                    go_loop [17] (fun i => ∃ k : Nat, tr ≤ k ∧ k ≤ C.length ∧ i = .int .i64 k) (fun i => (intOf i).toNat)
                    case atStart => exact ⟨C.length, by omega, by omega, rfl⟩
                    case round =>
                      obtain ⟨k, hk0, hk1, rfl⟩ := hrel
                      by_cases hlt : tr < k
                      · have ck := HROW.out (k - 1) (by omega)
                        rw [HZ.out.z2 (k - 1) (by omega) (by omega)] at ck
                        have ck : wr.cell? ⟨g, k - 1, none⟩ = some (.int .u8 48) := ck
                        go_wp2
                        go_round
                        case rel => exact ⟨k - 1, by omega, by omega, by go_num⟩
                        case measure => simp [intOf]; omega
                      · have hkl : tr = k := by omega
                        subst hkl
                        clear hlt hk0 hk1
                        by_cases hend : la < tr
                        · have ck := HROW.out (tr - 1) (by omega)
                          have h48 := ne48 (HZ.out.n2 hend)
                          generalize C.getD (tr - 1) 0 = x at ck h48
                          go_wp2
                          go_meet
                          case rel => exact ⟨rfl, rfl⟩
                        · go_wp2
                          go_meet
                          case rel => exact ⟨rfl, rfl⟩
                  case rest =>
                    obtain ⟨rfl, hw⟩ := hcut
                    subst wc
                    by_cases hend : la < tr
                    · have hcv := conv_cut g (ccap - la) la tr C wr htl HROW.out
                      go_wp2
                      refine bodyPost_ret (v := .tuple #[.string ⟨(cutT C la tr).toArray⟩, .int .i32 ((C.length : Int) - tr - ((n : Int) - fs)), .int .i32 ((n : Int) - fs), .bool neg, .bool true]) (by simp [results, Try.results13, go_sem]) rfl ⟨⟨⟨(cutT C la tr).toArray⟩, rfl, ?_⟩, hb⟩
                      rw [if_neg (by omega), show (((n - fs : Nat) : Int)) = (n : Int) - fs by omega]
                    · go_wp2
                      refine bodyPost_ret (v := .tuple #[.string ⟨#[]⟩, .int .i32 0, .int .i32 ((n : Int) - fs), .bool neg, .bool true]) (by simp [results, Try.results13, go_sem]) rfl ⟨⟨⟨#[]⟩, ?_, ?_⟩, hb⟩
                      · rw [show tr = la by omega, cutT_self]
                      · rw [if_pos (by omega), show (((n - fs : Nat) : Int)) = (n : Int) - fs by omega]
end Go.Proofs.Qxb6000399a
