/- The law FnCheck returns true: its walk. Conditions stand in each theorem; 'walk_any' has none beside that a slice was read. -/
import Derived.Test.YtbflcmcdmdicjaaDoorChk
import Derived.Deep.RegionWith
namespace Go.Proofs.YtbflcmcdmdicjaaDoor.PFnCheck
open Go.RowKit Go.Proofs.YtbflcmcdmdicjaaDoorW.PrintWords Go.Proofs.YtbflcmcdmdicjaaDoorW.PrintLast Go.Proofs.YtbflcmcdmdicjaaDoorW.PrintMore
open Go.Proofs.YtbflcmcdmdicjaaDoor.Gf
attribute [local go_sem] max2_int min2_int max_two min_two max_three min_three max_four min_four   -- for this text's walks alone
set_option linter.unusedVariables false
theorem rows_whole (P A m n : Nat) (d : Nat → Nat) : rowL m d ++ rowL n (chk P A d m n) = rowL (m + n) (whole P A d m n) := by
  apply List.ext_getElem?
  intro j
  rw [List.getElem?_append, rowL_len, rowL_get, rowL_get, rowL_get]
  unfold whole
  by_cases h : j < m
  · rw [if_pos h, if_pos h, if_pos (by omega), if_pos h]
  · rw [if_neg h, if_neg h]
    by_cases h2 : j - m < n
    · rw [if_pos h2, if_pos (by omega)]
    · rw [if_neg h2, if_neg (by omega)]
/-- A row that is owned is read as numbers. -/
theorem reads_nums {w : World} {base g N cap : Nat} {f : Nat → Nat} (hN : N ≤ 1000000) (h : w.ownsRow base 5 1 (.slice (some ⟨g, 0, none⟩) N cap) N (rowL N f)) :
    Kd.C (Kd.int .u8) w (some ⟨g, 0, none⟩) N (nums f N) := by
  refine ⟨nums_len f N, by omega, fun _ => ⟨⟨g, 0, none⟩, rfl, fun j p hp => ⟨[.int .u8 p], rfl, rfl, fun i u hi => ?_⟩⟩⟩
  have hj : j < N := by
    have := (List.getElem?_eq_some_iff.1 hp).1
    rwa [nums_len] at this
  have hpe : p = ((f j : Nat) : Int) := by
    simp [nums, hj] at hp
    exact hp.symm
  have hi0 : i = 0 := by
    have := (List.getElem?_eq_some_iff.1 hi).1
    simpa using this
  subst hi0
  have hu : u = .int .u8 p := by simpa using hi.symm
  have hc := h.cellAt j (by omega)
  rw [rowL_get, if_pos hj] at hc
  have e1 : (⟨g, 0, none⟩ : Addr).add (j * (Kd.int IntKind.u8).sz + 0) = ⟨g, j, none⟩ := by
    show (⟨g, 0, none⟩ : Addr).add (j * 1 + 0) = _
    rw [Nat.mul_one, Nat.add_zero]
    unfold Addr.add
    by_cases h0 : j = 0
    · subst h0; rfl
    · simp [h0]
  rw [e1, hc, hu, hpe]
  rfl
theorem checked_calls {P A N n g cap base : Nat} {f : Nat → Nat} (hg : Gen P A) (hf : ∀ j, f j < 256) (hN : N ≤ 1000) (hn : n ≤ 1000) (h0 : ∀ m, m < n → ev P (pw P A m) f N = 0) (w : World)
    (hown : w.ownsRow base 5 1 (.slice (some ⟨g, 0, none⟩) N cap) N (rowL N f)) :
    Calls Tryd.prog 12 #[.slice (some ⟨g, 0, none⟩) N cap, .int .i64 n, .int .i64 A, .int .i64 P] w fun e w' => e = .returned (.bool true) ∧ Drawn0 w w' := by
  have hc : N ≤ cap := by
    rcases hown.2 with ⟨h, _⟩ | ⟨g', cap', cur, h, _, _, h2, _⟩
    · cases h
    · cases h; exact h2
  have hr := reads_nums (by omega) hown
  have hk := checked_f hg.lo hg.hi hg.a256 hf N (by omega) n (by omega) h0
  have h := spec_Checked.calls (n * (N + 2) + 10) (some ⟨g, 0, none⟩) cap (nums f N) n A P true w
  rw [nums_len] at h
  exact h hr hc hk
set_option maxHeartbeats 4000000 in
set_option maxRecDepth 100000 in
theorem walk_data (a0 a1 a3 : Int) (k P A c : Nat) (hf : laws_field.f k a0 a1 = some ((P : Int), (A : Int))) (g : Gen P A) (hr : qrgf256_reducible.f 400 P = some false)
    (hb : laws_below.f a3 68 = some (c : Int)) (hc : c < 68) (db dof len cap m : Nat) (d : Nat → Nat) (hd : ∀ j, d j < 256) (hl : 1 ≤ len) (hlc : len ≤ cap) (hl' : len ≤ 2147483647) (hm : m = if len ≤ 120 then len else 120) (w : World)
    (hdat : ∀ j, j < len → w.cell? ⟨db, dof + j, none⟩ = some (.int .u8 (d j : Nat))) :
    Calls Tryd.prog 4 #[.int .i64 a0, .int .i64 a1, .slice (some ⟨db, dof, none⟩) len cap, .int .i64 a3] w fun e w' => e = .returned (.bool true) ∧ Below w.heap.size w w' := by
  have HG := Lib.hid g
  have HRD := Lib.hid hr
  have HF := Lib.hid hf
  have HN := Lib.hid hb
  have HD := Lib.hid hd
  have HDAT := Lib.hid hdat
  have hm1 : 1 ≤ m := by rw [hm]; split <;> omega
  have hm2 : m ≤ 120 := by rw [hm]; split <;> omega
  have hm3 : m ≤ len := by rw [hm]; split <;> omega
  have HM : Hid ((if (120 : Int) < (len : Int) then (120 : Int) else (len : Int)) = (m : Int)) := by
    show _ = _
    rw [hm]
    split <;> split <;> omega
  clear g hr hf hb hd hdat hm
  go_enter Tryd.func4, Tryd.ntmps4
  go_wp2_with fail
  refine (laws_field.calls k a0 a1 _ _ _ HF.out).mono ?_
  rintro e w1 ⟨rfl, hB1⟩
  have HB1 := Lib.hid hB1
  clear hB1
  have hmin := HM.out
  have bm : (m : Int) ≤ (cap : Int) := by omega
  go_wp2_with fail
  go_region_with (go_at_call 6; refine (laws_below.calls a3 68 _ _ HN.out).mono ?_; rintro e w2 ⟨rfl, hB2⟩; have HB2 := Lib.hid hB2; clear hB2)
  all_goals
    clear hmin bm
    have HBa : Hid (Below w.heap.size w w2) := by
      have h := HB2.out.mono (B' := w.heap.size) HB1.out.size
      exact HB1.out.trans ⟨h.os, h.tape, h.output, h.size, h.block⟩
    clear HB1 HB2
    have t0 : ((m : Int) == 0) = false := beq_eq_false_iff_ne.2 (by omega)
    have e1 : (1 : Int) + (c : Int) = ((c + 1 : Nat) : Int) := by omega
    go_wp2_with fail
    refine (clone_calls (d := d) hm1 (by omega) _ (fun j hj => by have h := HDAT.out j (by omega); exact cell_below HBa.out (lt_of_cell h) h)).mono ?_
    rintro e w3 ⟨g1, c1, rfl, hown, hB⟩
    have HO1 := Lib.hid hown
    have HB3 := Lib.hid hB
    clear hown hB
    go_wp2_with fail
    have HC1 : Hid (∀ j, j < m → w3.cell? ⟨g1, 0 + j, none⟩ = some (.int .u8 (d j : Nat))) := fun j hj => by
      have h := HO1.out.cellAt j (by omega)
      rw [rowL_get, if_pos hj] at h
      rw [Nat.zero_add]
      exact h
    have HBb : Hid (Below w.heap.size w w3) := HBa.out.trans (HB3.out.mono HBa.out.size)
    clear HO1 HB3 HBa
    refine (show Calls Tryd.prog 10 #[.int .i64 P, .int .i64 A, .slice (some ⟨g1, 0, none⟩) m c1, .int .i64 ((c : Int) + 1)] w3 (CheckMade P A m (c + 1) d w3) from by
      have h := check_calls (cap := c1) (n := c + 1) HG.out HRD.out (by omega) (by omega) hm1 (by omega) HD.out w3 HC1.out
      rw [show ((c + 1 : Nat) : Int) = (c : Int) + 1 from by omega] at h
      exact h).mono ?_
    rintro e w4 ⟨cb, rfl, hcb, hrow, hB⟩
    have HROW := Lib.hid hrow
    have HBc : Hid (Below w.heap.size w w4) := HBb.out.trans (hB.mono HBb.out.size)
    clear hrow hB hcb HC1 HBb
    go_wp2_with fail
    refine (clone_calls (d := d) hm1 (by omega) _ (fun j hj => by have h := HDAT.out j (by omega); exact cell_below HBc.out (lt_of_cell h) h)).mono ?_
    rintro e w5 ⟨g3, c3, rfl, hown, hB⟩
    have HO3 := Lib.hid hown
    have HB5 := Lib.hid hB
    clear hown hB
    have HR5 : Hid (Row w5 cb (c + 1) (chk P A d m (c + 1))) := HROW.out.below HB5.out HROW.out.lt
    have HBd : Hid (Below w.heap.size w w5) := HBc.out.trans (HB5.out.mono HBc.out.size)
    have HSZ : Hid (w4.heap.size ≤ w5.heap.size ∧ w.heap.size ≤ w4.heap.size) := ⟨HB5.out.size, HBc.out.size⟩
    clear HROW HBc HB5
    have Q1 : Hid ((rowL (c + 1) (chk P A d m (c + 1))).length = (c + 1) * 1) := by show _ = _; rw [rowL_len, Nat.mul_one]
    have Q2 : Hid (∀ j u, (rowL (c + 1) (chk P A d m (c + 1)))[j]? = some u → w5.cell? ((⟨cb, 0, none⟩ : Addr).add j) = some u) := fun j u hj => by
      rw [rowL_get] at hj
      by_cases hjc : j < c + 1
      · rw [if_pos hjc] at hj
        rw [← Option.some.inj hj, show (⟨cb, 0, none⟩ : Addr).add j = ⟨cb, j, none⟩ from by unfold Addr.add; by_cases h0 : j = 0; subst h0; rfl; simp [h0]]
        exact HR5.out.cell hjc
      · rw [if_neg hjc] at hj; cases hj
    have Q4 : m + (c + 1) ≤ maxLen := by unfold maxLen; omega
    have Q5 : (m + (c + 1)) * 1 ≤ 140737488355328 := by omega
    have QI := Lib.hid (info_parts info5)
    obtain ⟨i0, hi, hz0, hz1, hz2⟩ := QI.out
    have HI := Lib.hid hi
    have HZ0 := Lib.hid hz0
    have HZ1 := Lib.hid hz1
    have HZ2 := Lib.hid hz2
    clear hi hz0 hz1 hz2 QI
    go_wp2_with (at_builtin; refine gate_guard (by rfl) ?_; refine wpList_append_own _ rfl (.tmp 42) (.tmp 43) 29 rfl w4.heap.size 5 i0 (.int .u8 0) 1 1 Tryd.underlying29 HI.out HZ0.out HZ1.out HZ2.out rfl (by decide) _ _ _ rfl HO3.out ⟨cb, 0, none⟩ (c + 1) (c + 1) (rowL (c + 1) (chk P A d m (c + 1))) rfl Q1.out Q2.out (rowL_one _ _) Q4 Q5 HSZ.out.1 ?_)
    intro v' w6 hown hgrow hnil
    obtain ⟨g6, c6, hv⟩ : ∃ g6 c6, v' = .slice (some ⟨g6, 0, none⟩) (m + (c + 1)) c6 := by
      rcases hown.2 with ⟨_, h⟩ | ⟨g, cap', cur, h, _⟩
      · omega
      · exact ⟨g, cap', h⟩
    have HV := Lib.hid hv
    have HO6 : Hid (w6.ownsRow w4.heap.size 5 1 v' (m + (c + 1)) (rowL (m + (c + 1)) (whole P A d m (c + 1)))) := by
      have h := hown
      rw [rows_whole] at h
      exact h
    have HB6 : Hid (Below w.heap.size w w6) := HBd.out.grown hgrow (Nat.le_trans HSZ.out.2 HSZ.out.1) (by
      intro k hk
      have := HO3.out.lt k hk
      have := HSZ.out.2
      omega)
    clear hown hgrow hnil hv Q1 Q2 Q4 Q5 HI HZ0 HZ1 HZ2 HO3 HBd HSZ HR5
    rw [HV.out]
    go_wp2_with fail
    refine (show Calls Tryd.prog 12 #[.slice (some ⟨g6, 0, none⟩) (m + (c + 1)) c6, .int .i64 ((c : Int) + 1), .int .i64 A, .int .i64 P] w6 (fun e w' => e = .returned (.bool true) ∧ Drawn0 w6 w') from by
      have ho := HO6.out
      rw [HV.out] at ho
      have h := checked_calls (n := c + 1) HG.out (whole_lt HG.out.lo HG.out.hi HD.out m (c + 1)) (by omega) (by omega) (whole_root HG.out.lo HG.out.hi HD.out m (c + 1)) w6 ho
      rw [show ((c + 1 : Nat) : Int) = (c : Int) + 1 from by omega] at h
      exact h).mono ?_
    rintro e w7 ⟨rfl, ⟨n7, rfl⟩⟩
    go_wp2
    go_ret
    exact ⟨rfl, below_drewN' HB6.out _⟩
set_option maxHeartbeats 1000000 in
set_option maxRecDepth 100000 in
theorem walk_great (a0 a1 a3 : Int) (x : Option Addr) (len cap : Nat) (hl : 2147483647 < len) (w : World) :
    Calls Tryd.prog 4 #[.int .i64 a0, .int .i64 a1, .slice x len cap, .int .i64 a3] w fun e w' => e = .returned (.bool true) ∧ Below w.heap.size w w' := by
  go_enter Tryd.func4, Tryd.ntmps4
  go_wp2
  go_ret
  exact ⟨rfl, Below.refl _ _⟩
set_option maxHeartbeats 2000000 in
set_option maxRecDepth 100000 in
theorem walk_empty (a0 a1 a3 : Int) (k P A c : Nat) (hf : laws_field.f k a0 a1 = some ((P : Int), (A : Int))) (hb : laws_below.f a3 68 = some (c : Int)) (hc : c < 68) (x : Option Addr) (cap : Nat) (w : World) :
    Calls Tryd.prog 4 #[.int .i64 a0, .int .i64 a1, .slice x 0 cap, .int .i64 a3] w fun e w' => e = .returned (.bool true) ∧ Below w.heap.size w w' := by
  have HF := Lib.hid hf
  have HN := Lib.hid hb
  clear hf hb
  by_cases h0 : cap = 0
  all_goals
    go_enter Tryd.func4, Tryd.ntmps4
    go_wp2_with fail
    refine (laws_field.calls k a0 a1 _ _ _ HF.out).mono ?_
    rintro e w1 ⟨rfl, hB1⟩
    have HB1 := Lib.hid hB1
    clear hB1
    go_wp2_with fail
    go_region_with (go_at_call 6; refine (laws_below.calls a3 68 _ _ HN.out).mono ?_; rintro e w2 ⟨rfl, hB2⟩; have HB2 := Lib.hid hB2; clear hB2)
    all_goals
      have HBa : Hid (Below w.heap.size w w2) := by
        have h := HB2.out.mono (B' := w.heap.size) HB1.out.size
        exact HB1.out.trans ⟨h.os, h.tape, h.output, h.size, h.block⟩
      clear HB1 HB2
      go_wp2
      go_ret
      exact ⟨rfl, HBa.out⟩
end Go.Proofs.YtbflcmcdmdicjaaDoor.PFnCheck
