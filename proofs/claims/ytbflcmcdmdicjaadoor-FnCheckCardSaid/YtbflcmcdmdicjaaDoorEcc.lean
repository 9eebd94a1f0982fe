/- (*RSEncoder).ECC writes the bytes for correction. Conditions: the encoder and the tables stand; the data are bytes that are read; from 1 to 1000 of each. -/
import Derived.Test.YtbflcmcdmdicjaaDoorEnc
import Derived.RegionTactic
namespace Go.Proofs.YtbflcmcdmdicjaaDoor.PFnCheck
open Go.RowKit Go.Proofs.YtbflcmcdmdicjaaDoorW.PrintWords Go.Proofs.YtbflcmcdmdicjaaDoorW.PrintLast Go.Proofs.YtbflcmcdmdicjaaDoorW.PrintMore
open Go.Proofs.YtbflcmcdmdicjaaDoor.Gf
set_option linter.unusedVariables false
theorem splice_pad (n len : Nat) (d : Nat → Nat) (h : len ≤ n) : splice (rowL n fun _ => 0) 0 (rowL len d) = rowL n (pad d len) := by
  apply List.ext_getElem?
  intro j
  unfold splice
  rw [rowL_get, List.take_zero, List.nil_append, List.getElem?_append, rowL_len, rowL_get, List.getElem?_drop, rowL_get]
  unfold pad
  by_cases h1 : j < len
  · rw [if_pos h1, if_pos h1, if_pos h1, if_pos (by omega)]
  · rw [if_neg h1, if_neg h1, show 0 + len + (j - len) = j from by omega]
theorem splice_whole (n : Nat) (f d : Nat → Nat) : splice (rowL n f) 0 (rowL n d) = rowL n d := by
  unfold splice
  rw [List.take_zero, List.nil_append, List.drop_eq_nil_of_le (by simp [rowL_len]), List.append_nil]
/-- copy into a row of the call's own, every other block kept. -/
theorem wpList_copy_kept {P : Program} {w : World} {ops : Array Oper} {rest : List Oper} {o : Oper} {a : Act} {Q : Exit → Act → World → Prop} (hgd : o.guard = none) (d s : Operand) (dT sT : TypeId)
    (ho : o.op = .call { callee := .builtin .copy, args := #[d, s], argTypes := #[dT, sT] }) (elem : TypeId) (hu : P.underlying dT = some (.slice elem)) (hsz : (P.info? elem).map (·.size) = some 1)
    (g dLen dCap : Nat) (ad : Addr) (sLen sCap : Nat) (hd : a.eval d = .slice (some ⟨g, 0, none⟩) dLen dCap) (hs : a.eval s = .slice (some ad) sLen sCap)
    (cur : List Value) (t : TypeId) (hg : w.heap[g]? = some (.cells cur.toArray t (0, 0))) (cs : List Value) (hn : cs.length = Nat.min sLen dLen)
    (hsrc : ∀ j v, cs[j]? = some v → w.cell? (ad.add j) = some v) (hfit : 0 + cs.length ≤ cur.length) (h1 : ∀ v ∈ cs, v.oneCell' = true)
    (h : ∀ w', Hid (w'.heap[g]? = some (.cells (splice cur 0 cs).toArray t (0, 0))) → Hid (∀ k, k ≠ g → w'.heap[k]? = w.heap[k]?) → Hid (Below g w w') → wpList P ops Q rest (a.put o.dst (goInt cs.length)) w') :
    wpList P ops Q (o :: rest) a w := by
  refine wpList_copy_own hgd d s dT sT ho elem hu hsz g 0 dLen dCap ad sLen sCap hd hs cur.toArray t hg cs hn hsrc (by simpa using hfit) h1 ?_
  exact h _ (show _ = _ by simpa [splice] using setRow_heap w g _ _ t _ hg) (fun k hk => setRow_other w g k _ hk) (below_setRow (Below.refl g w) (Nat.le_refl g) _)
theorem info5one : (Tryd.prog.info? 5).map (·.size) = some 1 := by kernel_rfl
theorem cell_kept {w w' : World} {g : Nat} (h : ∀ k, k ≠ g → w'.heap[k]? = w.heap[k]?) {p : Addr} (hp : p.block ≠ g) : w'.cell? p = w.cell? p := World.cell?_of_block (h p.block hp)
theorem frozen_kept {w w' : World} {g : Nat} (h : ∀ k, k ≠ g → w'.heap[k]? = w.heap[k]?) {p : Addr} (hp : p.block ≠ g) : w'.frozen? p = w.frozen? p := World.frozen?_of_block (h p.block hp)
theorem lt_of_cell {w : World} {p : Addr} {v : Value} (h : w.cell? p = some v) : p.block < w.heap.size := by
  refine Classical.byContradiction fun hn => ?_
  have : w.heap[p.block]? = none := Array.getElem?_eq_none (by omega)
  simp [World.cell?, this] at h
theorem len48 : Tryd.prog.arrayLen 48 = 510 := by kernel_rfl
theorem elem48 : Tryd.prog.elem 48 = 5 := by kernel_rfl
theorem size5 (w : World) : (sizeOf 5).run Tryd.prog w = .ok 1 w := by kernel_rfl
/-- f.exp[l:]. -/
theorem run_from (b l : Nat) (hl : l < 510) (w : World) :
    (Instr.sliceAt 48 (.pointer (some ⟨b, 256, none⟩)) (some (.int .u8 (l : Nat))) none none).run Tryd.prog w = .ok (.slice (some ⟨b, 256 + l, none⟩) (510 - l) (510 - l)) w := by
  rw [run_sliceAt_array_l w 48 ⟨b, 256, none⟩ (by rw [len48, elem48]; exact Tryd.underlying48) .u8 l (by omega) (by rw [len48]; omega), elem48, size5, len48]
  simp only [Result.andThen, slicedAt, Int.toNat_natCast]
  rw [if_neg (by omega)]
  simp [Addr.add]
/-- The row within a round of the division, behind j places. -/
def dpart (P A e len : Nat) (d : Nat → Nat) (k j m : Nat) : Nat := if m ≤ k + j then dv P e (gp P A e e) (pad d len) (k + 1) m else dv P e (gp P A e e) (pad d len) k m
theorem dpart_zero (P A e len : Nat) (d : Nat → Nat) (k m : Nat) : dv P e (gp P A e e) (pad d len) k m = dpart P A e len d k 0 m := by
  unfold dpart
  split
  · simp only [dv, dstep]; rw [if_neg (by omega)]
  · rfl
theorem dpart_end (P A e len : Nat) (d : Nat → Nat) (k m : Nat) : dpart P A e len d k e m = dv P e (gp P A e e) (pad d len) (k + 1) m := by
  unfold dpart
  split
  · rfl
  · simp only [dv, dstep]; rw [if_neg (by omega)]
theorem dpart_next (P A e len : Nat) (d : Nat → Nat) (k j : Nat) (hj : j < e) (m : Nat) :
    upd (dpart P A e len d k j) (k + 1 + j) (dpart P A e len d k j (k + 1 + j) ^^^ tm P (dv P e (gp P A e e) (pad d len) k k) (gp P A e e (1 + j))) m = dpart P A e len d k (j + 1) m := by
  unfold upd dpart
  by_cases h : m = k + 1 + j
  · subst h
    rw [if_pos rfl, if_neg (by omega), if_pos (by omega)]
    simp only [dv, dstep]
    rw [if_pos (by omega), show k + 1 + j - k = 1 + j from by omega]
  · rw [if_neg h]
    by_cases h2 : m ≤ k + j
    · rw [if_pos h2, if_pos (by omega)]
    · rw [if_neg h2, if_neg (by omega)]
theorem dpart_same (P A e len : Nat) (d : Nat → Nat) (k j : Nat) (hj : j < e) (h0 : tm P (dv P e (gp P A e e) (pad d len) k k) (gp P A e e (1 + j)) = 0) (m : Nat) :
    dpart P A e len d k j m = dpart P A e len d k (j + 1) m := by
  rw [← dpart_next P A e len d k j hj m, h0, Nat.xor_zero]
  unfold upd
  by_cases h : m = k + 1 + j
  · rw [if_pos h, h]
  · rw [if_neg h]
theorem dpart_lt {P A : Nat} (g : Gen P A) (e len : Nat) {d : Nat → Nat} (hd : ∀ j, d j < 256) (k j m : Nat) : dpart P A e len d k j m < 256 := by
  unfold dpart
  split
  · exact dv_lt g.lo g.hi (pad_lt g.lo g.hi hd len) _ _
  · exact dv_lt g.lo g.hi (pad_lt g.lo g.hi hd len) _ _
set_option maxHeartbeats 4000000 in
set_option maxRecDepth 100000 in
theorem ecc_calls {P A b r g2 e db dof len cap cb : Nat} {d f0 : Nat → Nat} (g : Gen P A) (he : 1 ≤ e) (he' : e ≤ 1000) (hl : 1 ≤ len) (hl' : len ≤ 1000) (hd : ∀ j, d j < 256) (B : Nat) (w : World)
    (ht : Tab w b P A) (hen : Encd w r b g2 e) (hlg : Row w g2 (e + 1) (lgp P A e)) (hdat : ∀ j, j < len → w.cell? ⟨db, dof + j, none⟩ = some (.int .u8 (d j : Nat))) (hck : Row w cb e f0)
    (hcr : cb ≠ r) (hBr : B ≤ r) (hBc : B ≤ cb) :
    Calls Tryd.prog 22 #[.pointer (some ⟨r, 0, none⟩), .slice (some ⟨db, dof, none⟩) len cap, .slice (some ⟨cb, 0, none⟩) e e] w fun en w' => en = .returned (.tuple #[]) ∧ Row w' cb e (chk P A d len e) ∧ Below B w w' := by
  have HG := Lib.hid g
  have HT := Lib.hid ht
  have HEN := Lib.hid hen
  have HLG := Lib.hid hlg
  have HDAT := Lib.hid hdat
  have HCK := Lib.hid hck
  have HD := Lib.hid hd
  clear g ht hen hlg hdat hck hd
  have c0 := HEN.out.c0
  have c1 := HEN.out.c1
  have c3 := HEN.out.c3
  have c4 := HEN.out.c4
  have t0 : ((e : Int) == 0) = false := beq_eq_false_iff_ne.2 (by omega)
  have hmk := run_mk (len + e) ((len : Int) + (e : Int)) (by omega) (by omega)
  have hrlt : r < w.heap.size := lt_of_cell c0
  have hcs : (rowL len d).length = Nat.min len (len + e) := by rw [rowL_len]; exact (Nat.min_eq_left (by omega)).symm
  go_enter Tryd.func22, Tryd.ntmps22
  go_wp2_with (refine wpList_copy_splice rfl (.tmp 50) (.tmp 51) 29 29 rfl 5 Tryd.underlying29 info5one _ _ _ _ _ _ rfl rfl w.heap.size 0 (rowL (len + e) fun _ => 0) 5 ?hg (rowL len d) ?hn ?hpos ?hfit (rowL_one _ _) w.heap.size (w.alloc (.cells (zrow (len + e)) 5)) (Below.refl _ _) (Nat.le_refl _) ?hk)
  case hg => exact row_made w (len + e)
  case hn => exact hcs
  case hfit => rw [rowL_len, rowL_len]; omega
  case hpos =>
    intro _ j v hj
    rw [rowL_get] at hj
    by_cases hjl : j < len
    · rw [if_pos hjl] at hj
      have h := HDAT.out j hjl
      have h2 : db < w.heap.size := lt_of_cell h
      rw [World.cell?_alloc_lt _ _ _ h2, h]
      exact hj
    · rw [if_neg hjl] at hj; cases hj
  case hk =>
    intro w2 h2 hB2
    have HP : Hid (Row w2 w.heap.size (len + e) (pad d len)) := by
      have := h2.out
      rw [splice_pad _ _ _ (by omega)] at this
      exact this
    have HB : Hid (Below w.heap.size w w2) := ((Below.refl _ w).alloc (Nat.le_refl _) _).trans hB2
    clear h2 hB2 hmk hcs c0 c1 c3 c4
    go_wp2
    go_loopw [8] (fun i wr => ∃ k : Nat, len ≤ k ∧ k ≤ len + e ∧ i = .int .i64 k ∧ Row wr w.heap.size (len + e) (pad d len) ∧ Below w.heap.size w wr) (fun i _ => len + e - (intOf i).toNat)
    case atStart => exact ⟨len, Nat.le_refl _, by omega, rfl, HP.out, HB.out⟩
    case round =>
      clear HP HB
      obtain ⟨k, hk1, hk2, rfl, hr, hB⟩ := hrel
      have HR := Lib.hid hr
      have HB := Lib.hid hB
      clear hr hB
      by_cases hlt : k < len + e
      · have f1 := HR.out.cell hlt
        have fr := HR.out.free
        go_wp2
        go_roundw
        case rel =>
          refine ⟨k + 1, by omega, by omega, by go_num, (HR.out.set k 0).congr fun m _ => ?_, HB.out.setCell (by simp) _⟩
          show (if m = k then 0 else pad d len m) = pad d len m
          by_cases hm : m = k
          · subst hm; rw [if_pos rfl]; unfold pad; rw [if_neg (by omega)]
          · rw [if_neg hm]
        case measure => simp [intOf]; omega
      · obtain rfl : k = len + e := by omega
        have c0 := (HB.out.cell (p := ⟨r, 0, none⟩) hrlt).trans HEN.out.c0
        have c3 := (HB.out.cell (p := ⟨r, 3, none⟩) hrlt).trans HEN.out.c3
        have n1 : ¬ e + 1 = 1 := by omega
        go_wp2
        go_loopw [11] (fun i wr => ∃ k : Nat, k ≤ len ∧ i = .int .i64 k ∧ Row wr w.heap.size (len + e) (dv P e (gp P A e e) (pad d len) k) ∧ Below w.heap.size w wr) (fun i _ => len - (intOf i).toNat)
        case atStart => exact ⟨0, by omega, rfl, HR.out, HB.out⟩
        case round =>
          clear HR HB c0 c3 hk1 hk2 hlt
          obtain ⟨wo, rfl⟩ : ∃ wo : World, wo = wr := ⟨_, rfl⟩
          obtain ⟨k, hk, rfl, hr, hB⟩ := hrel
          have HR := Lib.hid hr
          have HB := Lib.hid hB
          clear hr hB
          by_cases hlt : k < len
          · obtain ⟨x, HX⟩ : ∃ x, Hid (dv P e (gp P A e e) (pad d len) k k = x) := ⟨_, rfl⟩
            have hx : x < 256 := by
              have := dv_lt HG.out.lo HG.out.hi (c := e) (g := gp P A e e) (pad_lt HG.out.lo HG.out.hi HD.out len) k k
              rw [HX.out] at this; exact this
            have f1 : wo.cell? ⟨w.heap.size, k, none⟩ = some (.int .u8 x) := by rw [← HX.out]; exact HR.out.cell (by omega)
            by_cases hx0 : x = 0
            · have t1 : ((x : Int) == 0) = true := beq_iff_eq.2 (by omega)
              have HX0 := Lib.hid hx0
              clear hx0
              go_wp2
              go_roundw
              case rel =>
                refine ⟨k + 1, by omega, by go_num, HR.out.congr fun m _ => ?_, HB.out⟩
                simp only [dv, dstep]
                rw [HX.out, HX0.out, tm_zero_left HG.out.lo HG.out.hi]
                split
                · rw [Nat.xor_zero]
                · rfl
              case measure => simp [intOf]; omega
            · have t1 : ((x : Int) == 0) = false := beq_eq_false_iff_ne.2 (by omega)
              obtain ⟨lx, HLX⟩ : ∃ lx, Hid (lg P A x = lx) := ⟨_, rfl⟩
              have hlx : lx < 255 := by
                have := (HG.out.pw_lg (x := x) (by omega) hx).2
                rw [HLX.out] at this; exact this
              have f2 : wo.cell? ⟨b, x, none⟩ = some (.int .u8 lx) := by
                rw [← HLX.out]
                have hT := HT.out.log x (by omega) hx
                exact (HB.out.cell (p := ⟨b, x, none⟩) (lt_of_cell hT)).trans hT
              have n2 : ¬ len + e = k + 1 := by omega
              have n3 : ¬ k + 1 = len + e := by omega
              have b2 : ((k : Int) + 1).toNat = k + 1 := by omega
              go_wp2_with fail
              have bx : (x : Int) < 256 := by omega
              have hsl := run_from b lx (by omega)
              go_quiet (fail)
              go_wp2
              clear f1 f2 n2 n3 b2 bx hsl
              go_loopw [101] (fun i wr => ∃ j : Nat, j ≤ e ∧ i = .int .i64 j ∧ Row wr w.heap.size (len + e) (dpart P A e len d k j) ∧ Below w.heap.size w wr) (fun i _ => e - (intOf i).toNat)
              case atStart => exact ⟨0, by omega, rfl, HR.out.congr fun m _ => dpart_zero P A e len d k m, ⟨HB.out.os, HB.out.tape, HB.out.output, HB.out.size, HB.out.block⟩⟩
              case round =>
                clear HR HB
                obtain ⟨j, hj, rfl, hr, hB⟩ := hrel
                have HR := Lib.hid hr
                have HB := Lib.hid hB
                clear hr hB
                by_cases hjlt : j < e
                · obtain ⟨l, HL⟩ : ∃ l, Hid (lgp P A e (1 + j) = l) := ⟨_, rfl⟩
                  have hgj := gp_lt HG.out.lo HG.out.hi (a := A) e e (1 + j)
                  have f3 : wr.cell? ⟨g2, 1 + j, none⟩ = some (.int .u8 l) := by
                    rw [← HL.out]
                    have h := HLG.out.cell (j := 1 + j) (by omega)
                    exact (HB.out.cell (p := ⟨g2, 1 + j, none⟩) (lt_of_cell h)).trans h
                  by_cases hg0 : gp P A e e (1 + j) = 0
                  · have hl255 : l = 255 := by rw [← HL.out]; unfold lgp; rw [if_pos hg0]
                    have t2 : ((l : Int) != 255) = false := by rw [hl255]; rfl
                    have HG0 := Lib.hid hg0
                    clear hg0 hl255 hgj
                    go_wp2
                    go_roundw
                    case rel =>
                      refine ⟨j + 1, by omega, by go_num, HR.out.congr fun m _ => dpart_same P A e len d k j hjlt ?_ m, HB.out⟩
                      rw [HX.out, HG0.out, tm_zero HG.out.lo HG.out.hi hx]
                    case measure => simp [intOf]; omega
                  · have hl : l < 255 := by rw [← HL.out]; unfold lgp; rw [if_neg hg0]; exact (HG.out.pw_lg (by omega) hgj).2
                    have t2 : ((l : Int) != 255) = true := by rw [bne_iff_ne]; omega
                    obtain ⟨z, HZ⟩ : ∃ z, Hid (tm P x (gp P A e e (1 + j)) = z) := ⟨_, rfl⟩
                    have hz : z < 256 := by have := tm_lt HG.out.lo HG.out.hi hx (gp P A e e (1 + j)); rw [HZ.out] at this; exact this
                    obtain ⟨y, HY⟩ : ∃ y, Hid (dpart P A e len d k j (k + 1 + j) = y) := ⟨_, rfl⟩
                    have hy : y < 256 := by have := dpart_lt HG.out e len HD.out k j (k + 1 + j); rw [HY.out] at this; exact this
                    have f4 : wr.cell? ⟨b, 256 + lx + l, none⟩ = some (.int .u8 z) := by
                      have h := HT.out.exp (lx + l) (by omega)
                      have e1 : pw P A (lx + l) = z := by
                        rw [← HLX.out, ← HL.out]
                        unfold lgp
                        rw [if_neg hg0, HG.out.mul_lg (by omega) hx (by omega) hgj, HZ.out]
                      rw [e1, ← Nat.add_assoc] at h
                      exact (HB.out.cell (p := ⟨b, 256 + lx + l, none⟩) (lt_of_cell h)).trans h
                    have f5 : wr.cell? ⟨w.heap.size, k + 1 + j, none⟩ = some (.int .u8 y) := by rw [← HY.out]; exact HR.out.cell (by omega)
                    have fr := HR.out.free
                    have hxor : bits BinOp.xor IntKind.u8 (y : Nat) z = ((y ^^^ z : Nat) : Int) := u8_xor_nat _ z hy hz
                    have bj : j < len + e - (k + 1) := by omega
                    have bl : l < 510 - lx := by omega
                    have bj2 : (j : Int) < ((len + e - (k + 1) : Nat) : Int) := by omega
                    have bl2 : (l : Int) < ((510 - lx : Nat) : Int) := by omega
                    clear hgj
                    have HG0 := Lib.hid hg0
                    clear hg0
                    go_wp2_with fail
                    go_region
                    go_wp2
                    go_roundw
                    case rel =>
                      have hset := (HR.out.set (k + 1 + j) (y ^^^ z)).congr fun m _ => show _ = dpart P A e len d k (j + 1) m by
                        rw [← HY.out, ← HZ.out, ← HX.out]; exact dpart_next P A e len d k j hjlt m
                      have hbel := HB.out.setCell (p := ⟨w.heap.size, k + 1 + j, none⟩) (by simp) (.int .u8 (y ^^^ z : Nat))
                      exact ⟨j + 1, by omega, by go_num, hset, ⟨hbel.os, hbel.tape, hbel.output, hbel.size, hbel.block⟩⟩
                    case measure => simp [intOf]; omega
                · obtain rfl : j = e := by omega
                  go_wp2
                  go_roundw
                  case rel => exact ⟨k + 1, by omega, by go_num, HR.out.congr fun m _ => dpart_end P A j len d k m, HB.out⟩
                  case measure => simp [intOf]; omega
          · obtain rfl : k = len := by omega
            have n4 : ¬ k + e = k := by omega
            have n5 : ¬ k = k + e := by omega
            have hmin : (rowL e (chk P A d k e)).length = Nat.min (k + e - k) e := by rw [rowL_len]; rw [show k + e - k = e from by omega]; exact (Nat.min_self e).symm
            have hcb : cb < w.heap.size := HCK.out.lt
            go_wp2_with (refine wpList_copy_kept rfl (.tmp 119) (.tmp 123) 29 29 rfl 5 Tryd.underlying29 info5one cb _ _ _ _ _ rfl rfl (rowL e f0) 5 ?hg (rowL e (chk P A d k e)) ?hn ?hsrc ?hfit (rowL_one _ _) ?hk)
            case hg => exact (HB.out.block cb hcb).trans HCK.out
            case hn => rw [rowL_len]; exact (Nat.min_self e).symm
            case hsrc =>
              intro j v hj
              rw [rowL_get] at hj
              by_cases hje : j < e
              · rw [if_pos hje] at hj
                have h := HR.out.cell (j := k + j) (by omega)
                rw [← Option.some.inj hj, show (⟨w.heap.size, k, none⟩ : Addr).add j = ⟨w.heap.size, k + j, none⟩ from by simp [Addr.add]]
                exact h
              · rw [if_neg hje] at hj; cases hj
            case hfit => rw [rowL_len, rowL_len]; omega
            case hk =>
              intro w3 h3 h4 h5
              have HC : Hid (Row w3 cb e (chk P A d k e)) := by
                have := h3.out
                rw [splice_whole] at this
                exact this
              have c4 : w3.cell? ⟨r, 4, none⟩ = some (.slice none 0 0) := (cell_kept h4.out (p := ⟨r, 4, none⟩) (Ne.symm hcr)).trans ((HB.out.cell (p := ⟨r, 4, none⟩) hrlt).trans HEN.out.c4)
              have fr4 : w3.frozen? ⟨r, 4, none⟩ = false := (frozen_kept h4.out (p := ⟨r, 4, none⟩) (Ne.symm hcr)).trans ((HB.out.frozen (p := ⟨r, 4, none⟩) hrlt).trans HEN.out.fr)
              have HB3 : Hid (Below B w w3) := (HB.out.mono (by omega)).trans (h5.out.mono hBc)
              clear h3 h4 h5
              go_wp2
              go_end0
              exact ⟨rfl, HC.out.set_far (Ne.symm hcr) _, HB3.out.setCell hBr _⟩
end Go.Proofs.YtbflcmcdmdicjaaDoor.PFnCheck
