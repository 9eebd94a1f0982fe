/- (*Field).gen makes the logarithms of the polynomial that is 0 at the first powers. Conditions: the tables stand; from 1 to 1000 bytes. -/
import Derived.Test.YtbflcmcdmdicjaaDoorRow
import Derived.Deep.RegionWith
import Derived.Deep.RegionLaw
namespace Go.Proofs.YtbflcmcdmdicjaaDoor.PFnCheck
open Go.RowKit Go.Proofs.YtbflcmcdmdicjaaDoorW.PrintWords Go.Proofs.YtbflcmcdmdicjaaDoorW.PrintLast Go.Proofs.YtbflcmcdmdicjaaDoorW.PrintMore
open Go.Proofs.YtbflcmcdmdicjaaDoor.Gf
set_option linter.unusedVariables false
theorem Tab.below {w w' : World} {b P A B : Nat} (h : Tab w b P A) (hb : Below B w w') (hB : b < B) : Tab w' b P A :=
  ⟨fun i hi => (hb.cell (p := ⟨b, 256 + i, none⟩) hB).trans (h.exp i hi), fun x h0 hx => (hb.cell (p := ⟨b, x, none⟩) hB).trans (h.log x h0 hx), (hb.cell (p := ⟨b, 0, none⟩) hB).trans h.log0⟩
/-- The logarithms of the polynomial, 255 for 0. -/
def lgp (P A e j : Nat) : Nat := if gp P A e e j = 0 then 255 else lg P A (gp P A e e j)
/-- What gen leaves. -/
def GenMade (P A e : Nat) (w : World) (en : Ending) (w' : World) : Prop :=
  ∃ g1 g2 : Nat, en = .returned (.tuple #[.slice (some ⟨g1, 0, none⟩) (e + 1) (e + 1), .slice (some ⟨g2, 0, none⟩) (e + 1) (e + 1)]) ∧ w.heap.size ≤ g2 ∧ Row w' g2 (e + 1) (lgp P A e) ∧ Below w.heap.size w w'
/-- The inner loop's row behind j rounds. -/
def half (P A e k j m : Nat) : Nat := if m < j then gstep P (pw P A k) e (gp P A e k) m else gp P A e k m
theorem half_lt {P A : Nat} (g : Gen P A) (e k j m : Nat) : half P A e k j m < 256 := by
  unfold half
  split
  · exact gp_lt g.lo g.hi e (k + 1) m
  · exact gp_lt g.lo g.hi e k m
theorem row_made_set (w : World) (n i v : Nat) : Row (w.alloc (.cells ((zrow n).setIfInBounds i (.int .u8 (v : Nat))) 5)) w.heap.size n (upd (fun _ => 0) i v) := by
  have h : (zrow n).setIfInBounds i (.int .u8 (v : Nat)) = (rowL n (upd (fun _ => 0) i v)).toArray := by
    unfold zrow
    rw [← rowL_set, ← List.setIfInBounds_toArray]
    rfl
  rw [h]
  unfold Row
  show (w.heap.push _)[w.heap.size]? = _
  rw [Array.getElem?_push, if_pos rfl]
theorem lp_next (P A k j l : Nat) (h : lgp P A k j = l) (m : Nat) : upd (fun m => if m < j then lgp P A k m else 0) j l m = if m < j + 1 then lgp P A k m else 0 := by
  unfold upd
  by_cases hm : m = j
  · subst hm; rw [if_pos rfl, if_pos (by omega), h]
  · rw [if_neg hm]
    show (if m < j then lgp P A k m else 0) = _
    by_cases h2 : m < j
    · rw [if_pos h2, if_pos (by omega)]
    · rw [if_neg h2, if_neg (by omega)]
theorem half_next {P A : Nat} (e k j : Nat) (hj : j < e) (m : Nat) : upd (half P A e k j) j (tm P (half P A e k j j) (pw P A k) ^^^ half P A e k j (j + 1)) m = half P A e k (j + 1) m := by
  unfold upd half
  by_cases h : m = j
  · subst h
    rw [if_pos rfl, if_neg (by omega), if_neg (by omega), if_pos (by omega)]
    unfold gstep
    rw [if_pos hj]
  · rw [if_neg h]
    by_cases h2 : m < j
    · rw [if_pos h2, if_pos (by omega)]
    · rw [if_neg h2, if_neg (by omega)]
theorem half_last {P A : Nat} (e k : Nat) (m : Nat) (hm : m < e + 1) : upd (half P A e k e) e (tm P (half P A e k e e) (pw P A k)) m = gp P A e (k + 1) m := by
  unfold upd half
  by_cases h : m = e
  · subst h
    rw [if_pos rfl, if_neg (by omega)]
    simp only [gp, gstep]
    rw [if_neg (by omega)]
  · rw [if_neg h, if_pos (by omega)]
    rfl
set_option maxHeartbeats 2000000 in
set_option maxRecDepth 100000 in
theorem gen_calls {P A b : Nat} (g : Gen P A) (e : Nat) (he : 1 ≤ e) (he' : e ≤ 1000) (w : World) (ht : Tab w b P A) (hb : b < w.heap.size) :
    Calls Tryd.prog 26 #[.pointer (some ⟨b, 0, none⟩), .int .i64 e] w (GenMade P A e w) := by
  have HG := Lib.hid g
  have HT := Lib.hid ht
  clear g ht
  have hmk := run_mk (e + 1) ((e : Int) + 1) (by omega) (by omega)
  have hzr : (zrow (e + 1))[e]? = some (Value.int .u8 0) := by
    unfold zrow; rw [List.getElem?_toArray, rowL_get, if_pos (by omega)]; rfl
  go_enter Tryd.func26, Tryd.ntmps26
  go_wp2
  go_loopw [7] (fun i wr => ∃ k : Nat, k ≤ e ∧ i = .int .i64 k ∧ Row wr w.heap.size (e + 1) (gp P A e k) ∧ Below w.heap.size w wr) (fun i _ => e - (intOf i).toNat)
  case atStart => exact ⟨0, by omega, rfl, (row_made_set w (e + 1) e 1).congr fun j _ => rfl, (Below.refl _ w).alloc (Nat.le_refl _) _⟩
  case round =>
    clear hzr
    obtain ⟨wo, rfl⟩ : ∃ wo : World, wo = wr := ⟨_, rfl⟩
    obtain ⟨k, hk, rfl, hr, hB⟩ := hrel
    have HR := Lib.hid hr
    have HB := Lib.hid hB
    clear hr hB
    by_cases hlt : k < e
    · go_wp2_with fail
      refine (exp_calls HG.out k (by omega) _ (HT.out.below HB.out hb)).mono ?_
      rintro en w' ⟨rfl, ⟨n1, rfl⟩⟩
      obtain ⟨c, HC⟩ : ∃ c, Hid (pw P A k = c) := ⟨_, rfl⟩
      rw [HC.out]
      have hc : c < 256 := by have := HG.out.lt k; rw [HC.out] at this; exact this
      go_wp2
      go_loopw [9] (fun i wr => ∃ j : Nat, j ≤ e ∧ i = .int .i64 j ∧ Row wr w.heap.size (e + 1) (half P A e k j) ∧ Below w.heap.size w wr) (fun i _ => e - (intOf i).toNat)
      case atStart => exact ⟨0, by omega, rfl, (HR.out.drewN n1).congr fun j _ => by simp [half], below_drewN' HB.out n1⟩
      case round =>
        clear HR HB
        obtain ⟨j, hj, rfl, hr, hB⟩ := hrel
        have HR := Lib.hid hr
        have HB := Lib.hid hB
        clear hr hB
        by_cases hjlt : j < e
        · obtain ⟨x, HX⟩ : ∃ x, Hid (half P A e k j j = x) := ⟨_, rfl⟩
          obtain ⟨y, HY⟩ : ∃ y, Hid (half P A e k j (j + 1) = y) := ⟨_, rfl⟩
          have hx : x < 256 := by have := half_lt HG.out e k j j; rw [HX.out] at this; exact this
          have hy : y < 256 := by have := half_lt HG.out e k j (j + 1); rw [HY.out] at this; exact this
          have f1 : wr.cell? ⟨w.heap.size, j, none⟩ = some (.int .u8 x) := by rw [← HX.out]; exact HR.out.cell (by omega)
          have f2 : wr.cell? ⟨w.heap.size, j + 1, none⟩ = some (.int .u8 y) := by rw [← HY.out]; exact HR.out.cell (by omega)
          have fr := HR.out.free
          have ht := tm_lt HG.out.lo HG.out.hi hx c
          have hxor : bits BinOp.xor IntKind.u8 (tm P x c : Nat) y = ((tm P x c ^^^ y : Nat) : Int) := u8_xor_nat _ y ht hy
          have HM := Lib.hid (mul_calls HG.out x c hx hc wr (HT.out.below HB.out hb))
          have b0 : 0 ≤ (j : Int) + 1 := by omega
          have b1 : (j : Int) + 1 < (e : Int) + 1 := by omega
          have b2 : ((j : Int) + 1).toNat = j + 1 := by omega
          have b3 : IntKind.i64.wrap ((j : Int) + 1) = (j : Int) + 1 := IntWalk.i64_in _ (by omega)
          go_wp2_with fail
          go_region_with (go_at_call 17; refine (mul_calls HG.out x c hx hc _ (by exact (HT.out.below HB.out hb).drewN 1)).mono ?_; rintro en w' ⟨rfl, ⟨n2, rfl⟩⟩)
          all_goals
            go_wp2
            go_roundw
            case rel =>
              refine ⟨j + 1, by omega, by go_num, ?_, ?_⟩
              · have hset := (HR.out.set j (tm P x c ^^^ y)).congr fun m _ => show _ = half P A e k (j + 1) m by rw [← HX.out, ← HY.out, ← HC.out]; exact half_next e k j hjlt m
                exact hset
              · have hbel := HB.out.setCell (p := ⟨w.heap.size, j, none⟩) (by simp) (.int .u8 (tm P x c ^^^ y : Nat))
                exact ⟨hbel.os, hbel.tape, hbel.output, hbel.size, hbel.block⟩
            case measure => simp [intOf]; omega
        · obtain rfl : j = e := by omega
          obtain ⟨x, HX⟩ : ∃ x, Hid (half P A j k j j = x) := ⟨_, rfl⟩
          have hx : x < 256 := by have := half_lt HG.out j k j j; rw [HX.out] at this; exact this
          have f1 : wr.cell? ⟨w.heap.size, j, none⟩ = some (.int .u8 x) := by rw [← HX.out]; exact HR.out.cell (by omega)
          have fr := HR.out.free
          go_wp2_with fail
          refine (mul_calls HG.out x c hx hc wr (HT.out.below HB.out hb)).mono ?_
          rintro en w' ⟨rfl, ⟨n2, rfl⟩⟩
          go_wp2
          go_roundw
          case rel =>
            refine ⟨k + 1, by omega, by go_num, ?_, ?_⟩
            · have hset := (HR.out.set j (tm P x c)).congr fun m hm => show _ = gp P A j (k + 1) m by rw [← HX.out, ← HC.out]; exact half_last j k m hm
              exact hset
            · have hbel := HB.out.setCell (p := ⟨w.heap.size, j, none⟩) (by simp) (.int .u8 (tm P x c : Nat))
              exact ⟨hbel.os, hbel.tape, hbel.output, hbel.size, hbel.block⟩
          case measure => simp [intOf]; omega
    · obtain rfl : k = e := by omega
      have hsz : w.heap.size < wo.heap.size := HR.out.lt
      go_wp2
      go_loopw [63] (fun i wr => ∃ j : Nat, j ≤ k + 1 ∧ i = .int .i64 j ∧ Row wr w.heap.size (k + 1) (gp P A k k) ∧ Row wr wo.heap.size (k + 1) (fun m => if m < j then lgp P A k m else 0) ∧ Below w.heap.size w wr) (fun i _ => k + 1 - (intOf i).toNat)
      case atStart => exact ⟨0, by omega, rfl, HR.out.alloc _, (row_made wo (k + 1)).congr fun m _ => by simp, HB.out.alloc (by omega) _⟩
      case round =>
        clear HB HR
        obtain ⟨j, hj, rfl, hr, hr2, hB⟩ := hrel
        have HR := Lib.hid hr
        have HR2 := Lib.hid hr2
        have HB := Lib.hid hB
        clear hr hr2 hB
        by_cases hjlt : j < k + 1
        · obtain ⟨x, HX⟩ : ∃ x, Hid (gp P A k k j = x) := ⟨_, rfl⟩
          have hx : x < 256 := by have := gp_lt HG.out.lo HG.out.hi (a := A) k k j; rw [HX.out] at this; exact this
          have f1 : wr.cell? ⟨w.heap.size, j, none⟩ = some (.int .u8 x) := by rw [← HX.out]; exact HR.out.cell hjlt
          have f2 := HR2.out.cell hjlt
          have fr := HR2.out.free
          by_cases hx0 : x = 0
          · have t1 : ((x : Int) == 0) = true := beq_iff_eq.2 (by omega)
            have HX0 := Lib.hid hx0
            clear hx0
            go_wp2
            go_roundw
            case rel =>
              refine ⟨j + 1, by omega, by go_num, ?_, ?_, ?_⟩
              · exact HR.out.set_far (b := wo.heap.size) (i := j) (by omega) _
              · refine (HR2.out.set j 255).congr fun m _ => ?_
                have := HX.out
                rw [HX0.out] at this
                exact lp_next P A k j 255 (by unfold lgp; rw [if_pos this]) m
              · exact HB.out.setCell (p := ⟨wo.heap.size, j, none⟩) (by simp; omega) _
            case measure => simp [intOf]; omega
          · have t1 : ((x : Int) == 0) = false := beq_eq_false_iff_ne.2 (by omega)
            have hl : lg P A x < 255 := (HG.out.pw_lg (by omega) hx).2
            have HL := Lib.hid (log_calls x (by omega) hx wr (HT.out.below HB.out hb) hl)
            have HE : Hid (lgp P A k j = lg P A x) := by
              have := HX.out
              show lgp P A k j = lg P A x
              unfold lgp
              rw [this, if_neg hx0]
            generalize lg P A x = l at hl HL HE
            clear hx0
            go_wp2_with fail
            refine HL.out.mono ?_
            rintro en w' ⟨rfl, ⟨n2, rfl⟩⟩
            go_wp2
            go_roundw
            case rel =>
              refine ⟨j + 1, by omega, by go_num, ?_, ?_, ?_⟩
              · exact (HR.out.set_far (b := wo.heap.size) (i := j) (by omega) _).drewN _
              · exact ((HR2.out.set j l).congr fun m _ => lp_next P A k j l HE.out m).drewN _
              · exact below_drewN' (HB.out.setCell (p := ⟨wo.heap.size, j, none⟩) (by simp; omega) _) _
            case measure => simp [intOf]; omega
        · obtain rfl : j = k + 1 := by omega
          go_wp2
          refine bodyPost_ret (v := .tuple #[.slice (some ⟨w.heap.size, 0, none⟩) (k + 1) (k + 1), .slice (some ⟨wo.heap.size, 0, none⟩) (k + 1) (k + 1)]) (by simp [results, Tryd.results26, go_sem]) rfl ?_
          exact ⟨w.heap.size, wo.heap.size, rfl, by omega, HR2.out.congr fun m hm => by rw [if_pos hm], HB.out⟩
end Go.Proofs.YtbflcmcdmdicjaaDoor.PFnCheck
