-- PRINTED BY print.sh 35421559b90ae4d0a3588c463048766b98c2df88dd9212a6774a882060cdf62d: not written by this session
import Derived.Test.YtbflcmcdmdicjaaDoorPFnCheckx0
namespace Go.Proofs.YtbflcmcdmdicjaaDoor.PFnCheck
open Go.RowKit Go.Proofs.YtbflcmcdmdicjaaDoorW.PrintWords Go.Proofs.YtbflcmcdmdicjaaDoorW.PrintLast Go.Proofs.YtbflcmcdmdicjaaDoorW.PrintMore
attribute [local go_sem] max2_int min2_int max_two min_two max_three min_three max_four min_four   -- for this text's walks alone
set_option linter.unusedVariables false
set_option linter.unusedSimpArgs false

/-! ### laws_below: function 6 -/
def laws_below.f (a0 : Int) (a1 : Int) : Option (Int) := if a1 = 0 then (none) else (some (Int.tmod (mx a0 (wrap64 (-(wrap64 (a0 + 1))))) a1))
set_option maxHeartbeats 8000000 in
set_option maxRecDepth 100000 in
theorem laws_below.calls (a0 : Int) (a1 : Int) (r : Int) (w : World) (h : laws_below.f a0 a1 = some r) :
    Calls Tryd.prog 6 #[.int .i64 a0, .int .i64 a1] w fun e w' => e = .returned (.int .i64 r) ∧ Below w.heap.size w w' := by
  have HB := Aside0.mk (Below.refl w.heap.size w)
  have H : (if a1 = 0 then (none) else (some (Int.tmod (mx a0 (wrap64 (-(wrap64 (a0 + 1))))) a1))) = some r := h
  clear h
  obtain ⟨ji3, hji3⟩ : ∃ j_ : Int, (mx a0 (wrap64 (-(wrap64 (a0 + 1))))) = j_ := ⟨_, rfl⟩
  replace H : (if a1 = 0 then (none) else (some (Int.tmod (ji3) a1))) = some r := by first | (rw [hji3] at H; exact H) | (simp only [hji3] at H ⊢; exact H)
  have hji3_ : (if a0 < (wrap64 (-(wrap64 (a0 + 1)))) then (wrap64 (-(wrap64 (a0 + 1)))) else a0) = ji3 := hji3
  by_cases c4 : a1 = 0
  · rw [if_pos c4] at H
    exact absurd H (by simp)
  · rw [if_neg c4] at H
    have c4b0 : (a1 == 0) = false := beq_eq_false_iff_ne.mpr c4
    have c4b1 : (a1 != 0) = true := bne_iff_ne.mpr c4
    obtain rfl := Option.some.inj H
    go_enter Tryd.func6, Tryd.ntmps6
    go_wp2
    go_ret
    exact ⟨by first | rfl | (simp [errW_none, errW_some] <;> rfl) | (simp only [← hji3]; first | rfl | (simp [errW_none, errW_some] <;> rfl)) | (simp [*, errW_none, errW_some] <;> rfl), by repeat (first | (with_reducible first | exact HB.out | apply below_alloc | apply pw_below_drewN | apply below_drew1) | exact HB.out)⟩

/-! ### spec_Whole: function 13 -/
mutual
def spec_Whole.l0 : Nat → Int → Int → Option (Bool)
  | 0, _, _ => none
  | k + 1, x0, x3 => if x3 < 32 then (spec_Whole.l1 k x0 x3 x0 8) else (some true)
def spec_Whole.l1 : Nat → Int → Int → Int → Int → Option (Bool)
  | 0, _, _, _, _ => none
  | k + 1, x0, x3, x4, x5 => if x5 ≥ 0 then (spec_Whole.l2 k x0 x3 x4 x5 0) else (if x4 = 0 then (some false) else (spec_Whole.l0 k x0 (wrap64 (x3 + 1))))
def spec_Whole.l2 : Nat → Int → Int → Int → Int → Int → Option (Bool)
  | 0, _, _, _, _, _ => none
  | k + 1, x0, x3, x4, x5, x6 => if 0 ≤ (wrap64 (x6 + 1)) then (if (shr .i64 x3 (wrap64 (x6 + 1))) = 0 then (if x5 ≥ x6 then (if 0 ≤ x5 then (if (Go.bits .and .i64 (shr .i64 x4 x5) 1) = 1 then (if 0 ≤ (wrap64 (x5 - x6)) then (spec_Whole.l1 k x0 x3 (Go.bits .xor .i64 x4 (shl .i64 x3 (wrap64 (x5 - x6)))) (wrap64 (x5 - 1))) else (none)) else (spec_Whole.l1 k x0 x3 x4 (wrap64 (x5 - 1)))) else (none)) else (spec_Whole.l1 k x0 x3 x4 (wrap64 (x5 - 1)))) else (spec_Whole.l2 k x0 x3 x4 x5 (wrap64 (x6 + 1)))) else (none)
end
def spec_Whole.f (k : Nat) (a0 : Int) : Option (Bool) := spec_Whole.l0 k a0 2
theorem spec_Whole.mono_l : ∀ k, (∀ y0 y1, LeO (spec_Whole.l0 k y0 y1) (spec_Whole.l0 (k + 1) y0 y1)) ∧ (∀ y0 y1 y2 y3, LeO (spec_Whole.l1 k y0 y1 y2 y3) (spec_Whole.l1 (k + 1) y0 y1 y2 y3)) ∧ (∀ y0 y1 y2 y3 y4, LeO (spec_Whole.l2 k y0 y1 y2 y3 y4) (spec_Whole.l2 (k + 1) y0 y1 y2 y3 y4))
  | 0 => ⟨fun _ _ r h => by simp [spec_Whole.l0] at h, fun _ _ _ _ r h => by simp [spec_Whole.l1] at h, fun _ _ _ _ _ r h => by simp [spec_Whole.l2] at h⟩
  | k + 1 => by
    obtain ⟨ih0, ih1, ih2⟩ := spec_Whole.mono_l k
    refine ⟨?_, ?_, ?_⟩
    · intro y0 y1
      unfold spec_Whole.l0
      repeat' first
      | (with_reducible exact ih0 _ _)
      | (with_reducible exact ih1 _ _ _ _)
      | (with_reducible exact ih2 _ _ _ _ _)
      | (with_reducible exact LeO.refl _)
      | (with_reducible exact LeO.none _)
      | (with_reducible refine LeO.ite ?_ ?_)
      | (with_reducible refine LeO.bind ?_ (fun _ => ?_))
      | exact ih0 _ _
      | exact ih1 _ _ _ _
      | exact ih2 _ _ _ _ _
      | exact LeO.none _
      | refine LeO.ite ?_ ?_
      | refine LeO.bind ?_ (fun _ => ?_)
    · intro y0 y1 y2 y3
      unfold spec_Whole.l1
      repeat' first
      | (with_reducible exact ih0 _ _)
      | (with_reducible exact ih1 _ _ _ _)
      | (with_reducible exact ih2 _ _ _ _ _)
      | (with_reducible exact LeO.refl _)
      | (with_reducible exact LeO.none _)
      | (with_reducible refine LeO.ite ?_ ?_)
      | (with_reducible refine LeO.bind ?_ (fun _ => ?_))
      | exact ih0 _ _
      | exact ih1 _ _ _ _
      | exact ih2 _ _ _ _ _
      | exact LeO.none _
      | refine LeO.ite ?_ ?_
      | refine LeO.bind ?_ (fun _ => ?_)
    · intro y0 y1 y2 y3 y4
      unfold spec_Whole.l2
      repeat' first
      | (with_reducible exact ih0 _ _)
      | (with_reducible exact ih1 _ _ _ _)
      | (with_reducible exact ih2 _ _ _ _ _)
      | (with_reducible exact LeO.refl _)
      | (with_reducible exact LeO.none _)
      | (with_reducible refine LeO.ite ?_ ?_)
      | (with_reducible refine LeO.bind ?_ (fun _ => ?_))
      | exact ih0 _ _
      | exact ih1 _ _ _ _
      | exact ih2 _ _ _ _ _
      | exact LeO.none _
      | refine LeO.ite ?_ ?_
      | refine LeO.bind ?_ (fun _ => ?_)
theorem spec_Whole.mono : ∀ a0 k, LeO (spec_Whole.f k a0) (spec_Whole.f (k + 1) a0) := by
  intro a0 k
  obtain ⟨ih0, ih1, ih2⟩ := spec_Whole.mono_l k
  unfold spec_Whole.f
  repeat' first
      | (with_reducible exact ih0 _ _)
      | (with_reducible exact ih1 _ _ _ _)
      | (with_reducible exact ih2 _ _ _ _ _)
      | (with_reducible exact LeO.refl _)
      | (with_reducible exact LeO.none _)
      | (with_reducible refine LeO.ite ?_ ?_)
      | (with_reducible refine LeO.bind ?_ (fun _ => ?_))
      | exact ih0 _ _
      | exact ih1 _ _ _ _
      | exact ih2 _ _ _ _ _
      | exact LeO.none _
      | refine LeO.ite ?_ ?_
      | refine LeO.bind ?_ (fun _ => ?_)
set_option maxHeartbeats 8000000 in
set_option maxRecDepth 100000 in
theorem spec_Whole.calls (k : Nat) (a0 : Int) (r : Bool) (w : World) (h : spec_Whole.f k a0 = some r) :
    Calls Tryd.prog 13 #[.int .i64 a0] w fun e w' => e = .returned (.bool r) ∧ Drawn0 w w' := by
  have H : (spec_Whole.l0 k a0 2) = some r := h
  clear h
  have H' := Aside0.mk H
  clear H
  go_enter Tryd.func13, Tryd.ntmps13
  go_wp2
  go_loopg [3] k (fun kq v3 w' => ∃ (x3_1 : Int), v3 = .int .i64 x3_1 ∧ Aside0 (spec_Whole.l0 kq a0 x3_1 = some r) ∧ Aside0 (kq ≤ k) ∧ Drawn0 w w')
  case atStart => exact ⟨(2), (by first | rfl | (simp; done) | (simp [*]; done)), H', ⟨Nat.le_refl _⟩, by repeat (first | exact Drawn0.refl _ | apply Drawn0.step)⟩
  case round =>
    clear H'
    try clear c1
    obtain ⟨x3_1, rfl, HA, HK1, ⟨m1, rfl⟩⟩ := hrel
    cases gk with
    | zero => exact absurd HA.out (by simp [spec_Whole.l0])
    | succ k1 =>
      have H := HA.out
      clear HA
      simp only [spec_Whole.l0] at H
      by_cases c2 : x3_1 < 32
      · rw [if_pos c2] at H
        have c2b0 : decide (x3_1 < 32) = true := decide_eq_true c2
        clear c2
        have H' := Aside0.mk H
        clear H
        go_wp2
        go_loopg [4, 5] k1 (fun kq v4 v5 w' => ∃ (x4_2 : Int) (x5_2 : Int), v4 = .int .i64 x4_2 ∧ v5 = .int .i64 x5_2 ∧ Aside0 (spec_Whole.l1 kq a0 x3_1 x4_2 x5_2 = some r) ∧ Aside0 (kq ≤ k1) ∧ Drawn0 w w')
        case atStart => exact ⟨(a0), (8), (by first | rfl | (simp; done) | (simp [*]; done)), (by first | rfl | (simp; done) | (simp [*]; done)), H', ⟨Nat.le_refl _⟩, by repeat (first | exact Drawn0.refl _ | apply Drawn0.step)⟩
        case round =>
          clear H'
          try clear c1
          try clear c2
          try clear c2b0
          try clear p2
          obtain ⟨x4_2, x5_2, rfl, rfl, HA, HK2, ⟨m2, rfl⟩⟩ := hrel
          cases gk with
          | zero => exact absurd HA.out (by simp [spec_Whole.l1])
          | succ k2 =>
            have H := HA.out
            clear HA
            simp only [spec_Whole.l1] at H
            by_cases c3 : x5_2 ≥ 0
            · rw [if_pos c3] at H
              have c3b0 : decide (0 ≤ x5_2) = true := decide_eq_true c3
              clear c3
              have H' := Aside0.mk H
              clear H
              go_wp2
              go_loopg [6] k2 (fun kq v6 w' => ∃ (x6_3 : Int), v6 = .int .i64 x6_3 ∧ Aside0 (spec_Whole.l2 kq a0 x3_1 x4_2 x5_2 x6_3 = some r) ∧ Aside0 (kq ≤ k2) ∧ Drawn0 w w')
              case atStart => exact ⟨(0), (by first | rfl | (simp; done) | (simp [*]; done)), H', ⟨Nat.le_refl _⟩, by repeat (first | exact Drawn0.refl _ | apply Drawn0.step)⟩
              case round =>
                clear H'
                try clear c1
                try clear c2
                try clear c2b0
                try clear p2
                try clear c3
                try clear c3b0
                try clear p2
                obtain ⟨x6_3, rfl, HA, HK3, ⟨m3, rfl⟩⟩ := hrel
                cases gk with
                | zero => exact absurd HA.out (by simp [spec_Whole.l2])
                | succ k3 =>
                  have H := HA.out
                  clear HA
                  simp only [spec_Whole.l2] at H
                  obtain ⟨ji4, hji4⟩ : ∃ j_ : Int, (wrap64 (x6_3 + 1)) = j_ := ⟨_, rfl⟩
                  replace H : (if 0 ≤ (ji4) then (if (shr .i64 x3_1 (ji4)) = 0 then (if x5_2 ≥ x6_3 then (if 0 ≤ x5_2 then (if (Go.bits .and .i64 (shr .i64 x4_2 x5_2) 1) = 1 then (if 0 ≤ (wrap64 (x5_2 - x6_3)) then (spec_Whole.l1 k3 a0 x3_1 (Go.bits .xor .i64 x4_2 (shl .i64 x3_1 (wrap64 (x5_2 - x6_3)))) (wrap64 (x5_2 - 1))) else (none)) else (spec_Whole.l1 k3 a0 x3_1 x4_2 (wrap64 (x5_2 - 1)))) else (none)) else (spec_Whole.l1 k3 a0 x3_1 x4_2 (wrap64 (x5_2 - 1)))) else (spec_Whole.l2 k3 a0 x3_1 x4_2 x5_2 ji4)) else (none)) = some r := by first | (rw [hji4] at H; exact H) | (simp only [hji4] at H ⊢; exact H)
                  have hji4w : (IntKind.i64.wrap (x6_3 + 1)) = ji4 := (i64_w _).trans hji4
                  by_cases c5 : 0 ≤ (ji4)
                  · rw [if_pos c5] at H
                    have c5b0 := eq_true c5
                    have c5b1 : decide (0 ≤ (ji4)) = true := decide_eq_true c5
                    clear c5
                    obtain ⟨ji6, hji6⟩ : ∃ j_ : Int, (shr .i64 x3_1 (ji4)) = j_ := ⟨_, rfl⟩
                    replace H : (if (ji6) = 0 then (if x5_2 ≥ x6_3 then (if 0 ≤ x5_2 then (if (Go.bits .and .i64 (shr .i64 x4_2 x5_2) 1) = 1 then (if 0 ≤ (wrap64 (x5_2 - x6_3)) then (spec_Whole.l1 k3 a0 x3_1 (Go.bits .xor .i64 x4_2 (shl .i64 x3_1 (wrap64 (x5_2 - x6_3)))) (wrap64 (x5_2 - 1))) else (none)) else (spec_Whole.l1 k3 a0 x3_1 x4_2 (wrap64 (x5_2 - 1)))) else (none)) else (spec_Whole.l1 k3 a0 x3_1 x4_2 (wrap64 (x5_2 - 1)))) else (spec_Whole.l2 k3 a0 x3_1 x4_2 x5_2 ji4)) = some r := by first | (rw [hji6] at H; exact H) | (simp only [hji6] at H ⊢; exact H)
                    have hji6_ : (x3_1 / 2 ^ min (ji4).toNat 64) = ji6 := hji6
                    have hji6z : (ji4) ≤ 64 → (x3_1 / 2 ^ (ji4).toNat) = ji6 := shr_small hji6
                    by_cases c7 : (ji6) = 0
                    · rw [if_pos c7] at H
                      have c7b0 : ((ji6) == 0) = true := beq_iff_eq.mpr c7
                      have c7b1 : ((ji6) != 0) = false := bne_eq_false_iff_eq.mpr c7
                      clear c7
                      by_cases c8 : x5_2 ≥ x6_3
                      · rw [if_pos c8] at H
                        have c8b0 : decide (x6_3 ≤ x5_2) = true := decide_eq_true c8
                        clear c8
                        by_cases c9 : 0 ≤ x5_2
                        · rw [if_pos c9] at H
                          have c9b0 := eq_true c9
                          have c9b1 : decide (0 ≤ x5_2) = true := decide_eq_true c9
                          clear c9
                          obtain ⟨ji10, hji10⟩ : ∃ j_ : Int, (shr .i64 x4_2 x5_2) = j_ := ⟨_, rfl⟩
                          replace H : (if (Go.bits .and .i64 (ji10) 1) = 1 then (if 0 ≤ (wrap64 (x5_2 - x6_3)) then (spec_Whole.l1 k3 a0 x3_1 (Go.bits .xor .i64 x4_2 (shl .i64 x3_1 (wrap64 (x5_2 - x6_3)))) (wrap64 (x5_2 - 1))) else (none)) else (spec_Whole.l1 k3 a0 x3_1 x4_2 (wrap64 (x5_2 - 1)))) = some r := by first | (rw [hji10] at H; exact H) | (simp only [hji10] at H ⊢; exact H)
                          have hji10_ : (x4_2 / 2 ^ min x5_2.toNat 64) = ji10 := hji10
                          have hji10z : x5_2 ≤ 64 → (x4_2 / 2 ^ x5_2.toNat) = ji10 := shr_small hji10
                          by_cases c11 : (Go.bits .and .i64 (ji10) 1) = 1
                          · rw [if_pos c11] at H
                            have c11b0 : ((Go.bits .and .i64 (ji10) 1) == 1) = true := beq_iff_eq.mpr c11
                            have c11b1 : ((Go.bits .and .i64 (ji10) 1) != 1) = false := bne_eq_false_iff_eq.mpr c11
                            clear c11
                            obtain ⟨ji12, hji12⟩ : ∃ j_ : Int, (wrap64 (x5_2 - x6_3)) = j_ := ⟨_, rfl⟩
                            replace H : (if 0 ≤ (ji12) then (spec_Whole.l1 k3 a0 x3_1 (Go.bits .xor .i64 x4_2 (shl .i64 x3_1 (ji12))) (wrap64 (x5_2 - 1))) else (none)) = some r := by first | (rw [hji12] at H; exact H) | (simp only [hji12] at H ⊢; exact H)
                            have hji12w : (IntKind.i64.wrap (x5_2 - x6_3)) = ji12 := (i64_w _).trans hji12
                            by_cases c13 : 0 ≤ (ji12)
                            · rw [if_pos c13] at H
                              have c13b0 := eq_true c13
                              have c13b1 : decide (0 ≤ (ji12)) = true := decide_eq_true c13
                              clear c13
                              obtain ⟨ji14, hji14⟩ : ∃ j_ : Int, (shl .i64 x3_1 (ji12)) = j_ := ⟨_, rfl⟩
                              replace H : (spec_Whole.l1 k3 a0 x3_1 (Go.bits .xor .i64 x4_2 (ji14)) (wrap64 (x5_2 - 1))) = some r := by first | (rw [hji14] at H; exact H) | (simp only [hji14] at H ⊢; exact H)
                              have hji14_ : (IntKind.i64.wrap (x3_1 * 2 ^ min (ji12).toNat 64)) = ji14 := hji14
                              have hji14z : (ji12) ≤ 64 → (IntKind.i64.wrap (x3_1 * 2 ^ (ji12).toNat)) = ji14 := shl_small hji14
                              have hji14y : (wrap64 (x3_1 * 2 ^ min (ji12).toNat 64)) = ji14 := (i64_w _).symm.trans hji14_
                              have hji14x : (ji12) ≤ 64 → (wrap64 (x3_1 * 2 ^ (ji12).toNat)) = ji14 := fun h_ => (i64_w _).symm.trans (hji14z h_)
                              have H' := Aside0.mk H
                              clear H
                              go_wp2
                              go_roundg k3
                              case measure => have := HK1.out; have := HK2.out; have := HK3.out; omega
                              case rel => exact ⟨(Go.bits .xor .i64 x4_2 (ji14)), (wrap64 (x5_2 - 1)), (by first | rfl | (simp; done) | (simp only [← hji14] <;> (first | rfl | simp)) | (simp [*]; done)), (by first | rfl | (simp; done) | (simp [*]; done)), H', ⟨by have := HK1.out; have := HK2.out; have := HK3.out; omega⟩, by repeat (first | exact Drawn0.refl _ | apply Drawn0.step)⟩
                            · rw [if_neg c13] at H
                              exact absurd H (by simp)
                          · rw [if_neg c11] at H
                            have c11b0 : ((Go.bits .and .i64 (ji10) 1) == 1) = false := beq_eq_false_iff_ne.mpr c11
                            have c11b1 : ((Go.bits .and .i64 (ji10) 1) != 1) = true := bne_iff_ne.mpr c11
                            have H' := Aside0.mk H
                            clear H
                            go_wp2
                            go_roundg k3
                            case measure => have := HK1.out; have := HK2.out; have := HK3.out; omega
                            case rel => exact ⟨(x4_2), (wrap64 (x5_2 - 1)), (by first | rfl | (simp; done) | (simp [*]; done)), (by first | rfl | (simp; done) | (simp [*]; done)), H', ⟨by have := HK1.out; have := HK2.out; have := HK3.out; omega⟩, by repeat (first | exact Drawn0.refl _ | apply Drawn0.step)⟩
                        · rw [if_neg c9] at H
                          exact absurd H (by simp)
                      · rw [if_neg c8] at H
                        have c8b0 : decide (x6_3 ≤ x5_2) = false := decide_eq_false c8
                        clear c8
                        have H' := Aside0.mk H
                        clear H
                        go_wp2
                        go_roundg k3
                        case measure => have := HK1.out; have := HK2.out; have := HK3.out; omega
                        case rel => exact ⟨(x4_2), (wrap64 (x5_2 - 1)), (by first | rfl | (simp; done) | (simp [*]; done)), (by first | rfl | (simp; done) | (simp [*]; done)), H', ⟨by have := HK1.out; have := HK2.out; have := HK3.out; omega⟩, by repeat (first | exact Drawn0.refl _ | apply Drawn0.step)⟩
                    · rw [if_neg c7] at H
                      have c7b0 : ((ji6) == 0) = false := beq_eq_false_iff_ne.mpr c7
                      have c7b1 : ((ji6) != 0) = true := bne_iff_ne.mpr c7
                      have H' := Aside0.mk H
                      clear H
                      go_wp2
                      go_roundg k3
                      case measure => have := HK1.out; have := HK2.out; have := HK3.out; omega
                      case rel => exact ⟨(ji4), (by first | rfl | (simp; done) | (simp only [← hji4] <;> (first | rfl | simp)) | (simp [*]; done)), H', ⟨by have := HK1.out; have := HK2.out; have := HK3.out; omega⟩, by repeat (first | exact Drawn0.refl _ | apply Drawn0.step)⟩
                  · rw [if_neg c5] at H
                    exact absurd H (by simp)
            · rw [if_neg c3] at H
              have c3b0 : decide (0 ≤ x5_2) = false := decide_eq_false c3
              clear c3
              by_cases c15 : x4_2 = 0
              · rw [if_pos c15] at H
                have c15b0 : (x4_2 == 0) = true := beq_iff_eq.mpr c15
                have c15b1 : (x4_2 != 0) = false := bne_eq_false_iff_eq.mpr c15
                clear c15
                obtain rfl := Option.some.inj H
                go_wp2
                go_ret
                exact ⟨by first | rfl | (simp; done) | (simp [*]; done), by repeat (first | exact Drawn0.refl _ | apply Drawn0.step)⟩
              · rw [if_neg c15] at H
                have c15b0 : (x4_2 == 0) = false := beq_eq_false_iff_ne.mpr c15
                have c15b1 : (x4_2 != 0) = true := bne_iff_ne.mpr c15
                have H' := Aside0.mk H
                clear H
                go_wp2
                go_roundg k2
                case measure => have := HK1.out; have := HK2.out; omega
                case rel => exact ⟨(wrap64 (x3_1 + 1)), (by first | rfl | (simp; done) | (simp [*]; done)), H', ⟨by have := HK1.out; have := HK2.out; omega⟩, by repeat (first | exact Drawn0.refl _ | apply Drawn0.step)⟩
      · rw [if_neg c2] at H
        have c2b0 : decide (x3_1 < 32) = false := decide_eq_false c2
        clear c2
        obtain rfl := Option.some.inj H
        go_wp2
        go_ret
        exact ⟨by first | rfl | (simp; done) | (simp [*]; done), by repeat (first | exact Drawn0.refl _ | apply Drawn0.step)⟩

/-! ### spec_Times: function 8 -/
def spec_Times.l0 : Nat → Int → Int → Int → Int → Int → Option (Int)
  | 0, _, _, _, _, _ => none
  | k + 1, x0, x1, x2, x7, x8 => if x8 ≥ 0 then (if (Go.bits .and .i64 (wrap64 (x7 * 2)) 256) = 0 then (if 0 ≤ x8 then (if (Go.bits .and .i64 (shr .i64 x1 x8) 1) = 1 then (spec_Times.l0 k x0 x1 x2 (Go.bits .xor .i64 (wrap64 (x7 * 2)) x0) (wrap64 (x8 - 1))) else (spec_Times.l0 k x0 x1 x2 (wrap64 (x7 * 2)) (wrap64 (x8 - 1)))) else (none)) else (if 0 ≤ x8 then (if (Go.bits .and .i64 (shr .i64 x1 x8) 1) = 1 then (spec_Times.l0 k x0 x1 x2 (Go.bits .xor .i64 (Go.bits .xor .i64 (wrap64 (x7 * 2)) x2) x0) (wrap64 (x8 - 1))) else (spec_Times.l0 k x0 x1 x2 (Go.bits .xor .i64 (wrap64 (x7 * 2)) x2) (wrap64 (x8 - 1)))) else (none))) else (some x7)
def spec_Times.f (k : Nat) (a0 : Int) (a1 : Int) (a2 : Int) : Option (Int) := spec_Times.l0 k a0 a1 a2 0 7
theorem spec_Times.mono_l : ∀ k, (∀ y0 y1 y2 y3 y4, LeO (spec_Times.l0 k y0 y1 y2 y3 y4) (spec_Times.l0 (k + 1) y0 y1 y2 y3 y4))
  | 0 => fun _ _ _ _ _ r h => by simp [spec_Times.l0] at h
  | k + 1 => by
    have ih0 := spec_Times.mono_l k
    · intro y0 y1 y2 y3 y4
      unfold spec_Times.l0
      repeat' first
      | (with_reducible exact ih0 _ _ _ _ _)
      | (with_reducible exact LeO.refl _)
      | (with_reducible exact LeO.none _)
      | (with_reducible refine LeO.ite ?_ ?_)
      | (with_reducible refine LeO.bind ?_ (fun _ => ?_))
      | exact ih0 _ _ _ _ _
      | exact LeO.none _
      | refine LeO.ite ?_ ?_
      | refine LeO.bind ?_ (fun _ => ?_)
theorem spec_Times.mono : ∀ a0 a1 a2 k, LeO (spec_Times.f k a0 a1 a2) (spec_Times.f (k + 1) a0 a1 a2) := by
  intro a0 a1 a2 k
  have ih0 := spec_Times.mono_l k
  unfold spec_Times.f
  repeat' first
      | (with_reducible exact ih0 _ _ _ _ _)
      | (with_reducible exact LeO.refl _)
      | (with_reducible exact LeO.none _)
      | (with_reducible refine LeO.ite ?_ ?_)
      | (with_reducible refine LeO.bind ?_ (fun _ => ?_))
      | exact ih0 _ _ _ _ _
      | exact LeO.none _
      | refine LeO.ite ?_ ?_
      | refine LeO.bind ?_ (fun _ => ?_)
set_option maxHeartbeats 8000000 in
set_option maxRecDepth 100000 in
theorem spec_Times.calls (k : Nat) (a0 : Int) (a1 : Int) (a2 : Int) (r : Int) (w : World) (h : spec_Times.f k a0 a1 a2 = some r) :
    Calls Tryd.prog 8 #[.int .i64 a0, .int .i64 a1, .int .i64 a2] w fun e w' => e = .returned (.int .i64 r) ∧ Drawn0 w w' := by
  have H : (spec_Times.l0 k a0 a1 a2 0 7) = some r := h
  clear h
  have H' := Aside0.mk H
  clear H
  go_enter Tryd.func8, Tryd.ntmps8
  go_wp2
  go_loopg [7, 8] k (fun kq v7 v8 w' => ∃ (x7_1 : Int) (x8_1 : Int), v7 = .int .i64 x7_1 ∧ v8 = .int .i64 x8_1 ∧ Aside0 (spec_Times.l0 kq a0 a1 a2 x7_1 x8_1 = some r) ∧ Aside0 (kq ≤ k) ∧ Drawn0 w w')
  case atStart => exact ⟨(0), (7), (by first | rfl | (simp; done) | (simp [*]; done)), (by first | rfl | (simp; done) | (simp [*]; done)), H', ⟨Nat.le_refl _⟩, by repeat (first | exact Drawn0.refl _ | apply Drawn0.step)⟩
  case round =>
    clear H'
    try clear p2
    obtain ⟨x7_1, x8_1, rfl, rfl, HA, HK1, ⟨m1, rfl⟩⟩ := hrel
    cases gk with
    | zero => exact absurd HA.out (by simp [spec_Times.l0])
    | succ k1 =>
      have H := HA.out
      clear HA
      simp only [spec_Times.l0] at H
      by_cases c4 : x8_1 ≥ 0
      · rw [if_pos c4] at H
        have c4b0 : decide (0 ≤ x8_1) = true := decide_eq_true c4
        clear c4
        by_cases c5 : (Go.bits .and .i64 (wrap64 (x7_1 * 2)) 256) = 0
        · rw [if_pos c5] at H
          have c5b0 : ((Go.bits .and .i64 (wrap64 (x7_1 * 2)) 256) == 0) = true := beq_iff_eq.mpr c5
          have c5b1 : ((Go.bits .and .i64 (wrap64 (x7_1 * 2)) 256) != 0) = false := bne_eq_false_iff_eq.mpr c5
          clear c5
          by_cases c6 : 0 ≤ x8_1
          · rw [if_pos c6] at H
            have c6b0 := eq_true c6
            have c6b1 : decide (0 ≤ x8_1) = true := decide_eq_true c6
            clear c6
            obtain ⟨ji7, hji7⟩ : ∃ j_ : Int, (shr .i64 a1 x8_1) = j_ := ⟨_, rfl⟩
            replace H : (if (Go.bits .and .i64 (ji7) 1) = 1 then (spec_Times.l0 k1 a0 a1 a2 (Go.bits .xor .i64 (wrap64 (x7_1 * 2)) a0) (wrap64 (x8_1 - 1))) else (spec_Times.l0 k1 a0 a1 a2 (wrap64 (x7_1 * 2)) (wrap64 (x8_1 - 1)))) = some r := by first | (rw [hji7] at H; exact H) | (simp only [hji7] at H ⊢; exact H)
            have hji7_ : (a1 / 2 ^ min x8_1.toNat 64) = ji7 := hji7
            have hji7z : x8_1 ≤ 64 → (a1 / 2 ^ x8_1.toNat) = ji7 := shr_small hji7
            by_cases c8 : (Go.bits .and .i64 (ji7) 1) = 1
            · rw [if_pos c8] at H
              have c8b0 : ((Go.bits .and .i64 (ji7) 1) == 1) = true := beq_iff_eq.mpr c8
              have c8b1 : ((Go.bits .and .i64 (ji7) 1) != 1) = false := bne_eq_false_iff_eq.mpr c8
              clear c8
              have H' := Aside0.mk H
              clear H
              go_wp2
              go_roundg k1
              case measure => have := HK1.out; omega
              case rel => exact ⟨(Go.bits .xor .i64 (wrap64 (x7_1 * 2)) a0), (wrap64 (x8_1 - 1)), (by first | rfl | (simp; done) | (simp [*]; done)), (by first | rfl | (simp; done) | (simp [*]; done)), H', ⟨by have := HK1.out; omega⟩, by repeat (first | exact Drawn0.refl _ | apply Drawn0.step)⟩
            · rw [if_neg c8] at H
              have c8b0 : ((Go.bits .and .i64 (ji7) 1) == 1) = false := beq_eq_false_iff_ne.mpr c8
              have c8b1 : ((Go.bits .and .i64 (ji7) 1) != 1) = true := bne_iff_ne.mpr c8
              have H' := Aside0.mk H
              clear H
              go_wp2
              go_roundg k1
              case measure => have := HK1.out; omega
              case rel => exact ⟨(wrap64 (x7_1 * 2)), (wrap64 (x8_1 - 1)), (by first | rfl | (simp; done) | (simp [*]; done)), (by first | rfl | (simp; done) | (simp [*]; done)), H', ⟨by have := HK1.out; omega⟩, by repeat (first | exact Drawn0.refl _ | apply Drawn0.step)⟩
          · rw [if_neg c6] at H
            exact absurd H (by simp)
        · rw [if_neg c5] at H
          have c5b0 : ((Go.bits .and .i64 (wrap64 (x7_1 * 2)) 256) == 0) = false := beq_eq_false_iff_ne.mpr c5
          have c5b1 : ((Go.bits .and .i64 (wrap64 (x7_1 * 2)) 256) != 0) = true := bne_iff_ne.mpr c5
          by_cases c9 : 0 ≤ x8_1
          · rw [if_pos c9] at H
            have c9b0 := eq_true c9
            have c9b1 : decide (0 ≤ x8_1) = true := decide_eq_true c9
            clear c9
            obtain ⟨ji10, hji10⟩ : ∃ j_ : Int, (shr .i64 a1 x8_1) = j_ := ⟨_, rfl⟩
            replace H : (if (Go.bits .and .i64 (ji10) 1) = 1 then (spec_Times.l0 k1 a0 a1 a2 (Go.bits .xor .i64 (Go.bits .xor .i64 (wrap64 (x7_1 * 2)) a2) a0) (wrap64 (x8_1 - 1))) else (spec_Times.l0 k1 a0 a1 a2 (Go.bits .xor .i64 (wrap64 (x7_1 * 2)) a2) (wrap64 (x8_1 - 1)))) = some r := by first | (rw [hji10] at H; exact H) | (simp only [hji10] at H ⊢; exact H)
            have hji10_ : (a1 / 2 ^ min x8_1.toNat 64) = ji10 := hji10
            have hji10z : x8_1 ≤ 64 → (a1 / 2 ^ x8_1.toNat) = ji10 := shr_small hji10
            by_cases c11 : (Go.bits .and .i64 (ji10) 1) = 1
            · rw [if_pos c11] at H
              have c11b0 : ((Go.bits .and .i64 (ji10) 1) == 1) = true := beq_iff_eq.mpr c11
              have c11b1 : ((Go.bits .and .i64 (ji10) 1) != 1) = false := bne_eq_false_iff_eq.mpr c11
              clear c11
              have H' := Aside0.mk H
              clear H
              go_wp2
              go_roundg k1
              case measure => have := HK1.out; omega
              case rel => exact ⟨(Go.bits .xor .i64 (Go.bits .xor .i64 (wrap64 (x7_1 * 2)) a2) a0), (wrap64 (x8_1 - 1)), (by first | rfl | (simp; done) | (simp [*]; done)), (by first | rfl | (simp; done) | (simp [*]; done)), H', ⟨by have := HK1.out; omega⟩, by repeat (first | exact Drawn0.refl _ | apply Drawn0.step)⟩
            · rw [if_neg c11] at H
              have c11b0 : ((Go.bits .and .i64 (ji10) 1) == 1) = false := beq_eq_false_iff_ne.mpr c11
              have c11b1 : ((Go.bits .and .i64 (ji10) 1) != 1) = true := bne_iff_ne.mpr c11
              have H' := Aside0.mk H
              clear H
              go_wp2
              go_roundg k1
              case measure => have := HK1.out; omega
              case rel => exact ⟨(Go.bits .xor .i64 (wrap64 (x7_1 * 2)) a2), (wrap64 (x8_1 - 1)), (by first | rfl | (simp; done) | (simp [*]; done)), (by first | rfl | (simp; done) | (simp [*]; done)), H', ⟨by have := HK1.out; omega⟩, by repeat (first | exact Drawn0.refl _ | apply Drawn0.step)⟩
          · rw [if_neg c9] at H
            exact absurd H (by simp)
      · rw [if_neg c4] at H
        have c4b0 : decide (0 ≤ x8_1) = false := decide_eq_false c4
        clear c4
        obtain rfl := Option.some.inj H
        go_wp2
        go_ret
        exact ⟨by first | rfl | (simp; done) | (simp [*]; done), by repeat (first | exact Drawn0.refl _ | apply Drawn0.step)⟩

/-! ### spec_Makes: function 14 -/
def spec_Makes.l0 : Nat → Int → Int → Int → Int → Option (Bool)
  | 0, _, _, _, _ => none
  | k + 1, x0, x1, x5, x6 => if x6 ≤ 255 then ((spec_Times.f k x5 x0 x1).bind fun t101 => (if t101 = 1 then (some (x6 == 255)) else (spec_Makes.l0 k x0 x1 t101 (wrap64 (x6 + 1))))) else (some false)
def spec_Makes.f (k : Nat) (a0 : Int) (a1 : Int) : Option (Bool) := spec_Makes.l0 k a0 a1 1 1
theorem spec_Makes.mono_l : ∀ k, (∀ y0 y1 y2 y3, LeO (spec_Makes.l0 k y0 y1 y2 y3) (spec_Makes.l0 (k + 1) y0 y1 y2 y3))
  | 0 => fun _ _ _ _ r h => by simp [spec_Makes.l0] at h
  | k + 1 => by
    have ih0 := spec_Makes.mono_l k
    · intro y0 y1 y2 y3
      unfold spec_Makes.l0
      repeat' first
      | (with_reducible exact ih0 _ _ _ _)
      | (with_reducible exact spec_Times.mono _ _ _ _)
      | (with_reducible exact LeO.refl _)
      | (with_reducible exact LeO.none _)
      | (with_reducible refine LeO.ite ?_ ?_)
      | (with_reducible refine LeO.bind ?_ (fun _ => ?_))
      | exact ih0 _ _ _ _
      | exact spec_Times.mono _ _ _ _
      | exact LeO.none _
      | refine LeO.ite ?_ ?_
      | refine LeO.bind ?_ (fun _ => ?_)
theorem spec_Makes.mono : ∀ a0 a1 k, LeO (spec_Makes.f k a0 a1) (spec_Makes.f (k + 1) a0 a1) := by
  intro a0 a1 k
  have ih0 := spec_Makes.mono_l k
  unfold spec_Makes.f
  repeat' first
      | (with_reducible exact ih0 _ _ _ _)
      | (with_reducible exact spec_Times.mono _ _ _ _)
      | (with_reducible exact LeO.refl _)
      | (with_reducible exact LeO.none _)
      | (with_reducible refine LeO.ite ?_ ?_)
      | (with_reducible refine LeO.bind ?_ (fun _ => ?_))
      | exact ih0 _ _ _ _
      | exact spec_Times.mono _ _ _ _
      | exact LeO.none _
      | refine LeO.ite ?_ ?_
      | refine LeO.bind ?_ (fun _ => ?_)
set_option maxHeartbeats 8000000 in
set_option maxRecDepth 100000 in
theorem spec_Makes.calls (k : Nat) (a0 : Int) (a1 : Int) (r : Bool) (w : World) (h : spec_Makes.f k a0 a1 = some r) :
    Calls Tryd.prog 14 #[.int .i64 a0, .int .i64 a1] w fun e w' => e = .returned (.bool r) ∧ Drawn0 w w' := by
  have H : (spec_Makes.l0 k a0 a1 1 1) = some r := h
  clear h
  have H' := Aside0.mk H
  clear H
  go_enter Tryd.func14, Tryd.ntmps14
  go_wp2
  go_loopg [5, 6] k (fun kq v5 v6 w' => ∃ (x5_1 : Int) (x6_1 : Int), v5 = .int .i64 x5_1 ∧ v6 = .int .i64 x6_1 ∧ Aside0 (spec_Makes.l0 kq a0 a1 x5_1 x6_1 = some r) ∧ Aside0 (kq ≤ k) ∧ Drawn0 w w')
  case atStart => exact ⟨(1), (1), (by first | rfl | (simp; done) | (simp [*]; done)), (by first | rfl | (simp; done) | (simp [*]; done)), H', ⟨Nat.le_refl _⟩, by repeat (first | exact Drawn0.refl _ | apply Drawn0.step)⟩
  case round =>
    clear H'
    try clear c1
    try clear p2
    obtain ⟨x5_1, x6_1, rfl, rfl, HA, HK1, ⟨m1, rfl⟩⟩ := hrel
    cases gk with
    | zero => exact absurd HA.out (by simp [spec_Makes.l0])
    | succ k1 =>
      have H := HA.out
      clear HA
      simp only [spec_Makes.l0] at H
      by_cases c3 : x6_1 ≤ 255
      · rw [if_pos c3] at H
        have c3b0 : decide (x6_1 ≤ 255) = true := decide_eq_true c3
        clear c3
        replace H := Option.bind_eq_some_iff.mp H
        obtain ⟨t101, A40, H⟩ := H
        replace H : (if t101 = 1 then (some (x6_1 == 255)) else (spec_Makes.l0 k1 a0 a1 t101 (wrap64 (x6_1 + 1)))) = some r := H
        have A4 := Aside0.mk A40
        clear A40
        by_cases c5 : t101 = 1
        · rw [if_pos c5] at H
          have c5b0 : (t101 == 1) = true := beq_iff_eq.mpr c5
          have c5b1 : (t101 != 1) = false := bne_eq_false_iff_eq.mpr c5
          clear c5
          obtain rfl := Option.some.inj H
          go_wp2_with (first | ((with_reducible refine gate_callee (f := 8) rfl ?_); refine goesL_ (some 14) rfl rfl Tryd.func8 (by kernel_rfl) rfl #[.int .i64 x5_1, .int .i64 a0, .int .i64 a1] rfl (by (try simp only [List.map_toArray, List.map_cons, List.map_nil]); first | done | rfl | (simp only [List.length_drop, List.length_take]; rfl)) ?_; (with_reducible refine (spec_Times.calls k1 x5_1 a0 a1 t101 _ A4.out).mono ?_); rintro e w' ⟨rfl, ⟨nd, rfl⟩⟩; refine ⟨_, rfl, ?_⟩))
          go_ret
          exact ⟨by first | rfl | (simp; done) | (simp [*]; done), by repeat (first | exact Drawn0.refl _ | apply Drawn0.step)⟩
        · rw [if_neg c5] at H
          have c5b0 : (t101 == 1) = false := beq_eq_false_iff_ne.mpr c5
          have c5b1 : (t101 != 1) = true := bne_iff_ne.mpr c5
          have H' := Aside0.mk H
          clear H
          go_wp2_with (first | ((with_reducible refine gate_callee (f := 8) rfl ?_); refine goesL_ (some 14) rfl rfl Tryd.func8 (by kernel_rfl) rfl #[.int .i64 x5_1, .int .i64 a0, .int .i64 a1] rfl (by (try simp only [List.map_toArray, List.map_cons, List.map_nil]); first | done | rfl | (simp only [List.length_drop, List.length_take]; rfl)) ?_; (with_reducible refine (spec_Times.calls k1 x5_1 a0 a1 t101 _ A4.out).mono ?_); rintro e w' ⟨rfl, ⟨nd, rfl⟩⟩; refine ⟨_, rfl, ?_⟩))
          go_roundg k1
          case measure => have := HK1.out; omega
          case rel => exact ⟨(t101), (wrap64 (x6_1 + 1)), (by first | rfl | (simp; done) | (simp [*]; done)), (by first | rfl | (simp; done) | (simp [*]; done)), H', ⟨by have := HK1.out; omega⟩, by repeat (first | exact Drawn0.refl _ | apply Drawn0.step)⟩
      · rw [if_neg c3] at H
        have c3b0 : decide (x6_1 ≤ 255) = false := decide_eq_false c3
        clear c3
        obtain rfl := Option.some.inj H
        go_wp2
        go_ret
        exact ⟨by first | rfl | (simp; done) | (simp [*]; done), by repeat (first | exact Drawn0.refl _ | apply Drawn0.step)⟩

/-! ### laws_field: function 5 -/
mutual
def laws_field.l0 : Nat → Int → Int → Option (Int × Int)
  | 0, _, _ => none
  | k + 1, x0, x1 => (spec_Whole.f k x0).bind fun t104 => (if t104 = true then (laws_field.l1 k x0 x1) else (laws_field.l0 k (wrap64 (256 + (Int.tmod (wrap64 (x0 + 1)) 256))) x1))
def laws_field.l1 : Nat → Int → Int → Option (Int × Int)
  | 0, _, _ => none
  | k + 1, x0, x1 => (spec_Makes.f k x1 x0).bind fun t105 => (if t105 = true then (some (x0, x1)) else (laws_field.l1 k x0 (wrap64 (2 + (Int.tmod (wrap64 (x1 - 1)) 254)))))
end
def laws_field.f (k : Nat) (a0 : Int) (a1 : Int) : Option (Int × Int) := (laws_below.f a0 256).bind fun t102 => ((laws_below.f a1 254).bind fun t103 => (laws_field.l0 k (wrap64 (256 + t102)) (wrap64 (2 + t103))))
theorem laws_field.mono_l : ∀ k, (∀ y0 y1, LeO (laws_field.l0 k y0 y1) (laws_field.l0 (k + 1) y0 y1)) ∧ (∀ y0 y1, LeO (laws_field.l1 k y0 y1) (laws_field.l1 (k + 1) y0 y1))
  | 0 => ⟨fun _ _ r h => by simp [laws_field.l0] at h, fun _ _ r h => by simp [laws_field.l1] at h⟩
  | k + 1 => by
    obtain ⟨ih0, ih1⟩ := laws_field.mono_l k
    refine ⟨?_, ?_⟩
    · intro y0 y1
      unfold laws_field.l0
      repeat' first
      | (with_reducible exact ih0 _ _)
      | (with_reducible exact ih1 _ _)
      | (with_reducible exact spec_Makes.mono _ _ _)
      | (with_reducible exact spec_Whole.mono _ _)
      | (with_reducible exact LeO.refl _)
      | (with_reducible exact LeO.none _)
      | (with_reducible refine LeO.ite ?_ ?_)
      | (with_reducible refine LeO.bind ?_ (fun _ => ?_))
      | exact ih0 _ _
      | exact ih1 _ _
      | exact spec_Makes.mono _ _ _
      | exact spec_Whole.mono _ _
      | exact LeO.none _
      | refine LeO.ite ?_ ?_
      | refine LeO.bind ?_ (fun _ => ?_)
    · intro y0 y1
      unfold laws_field.l1
      repeat' first
      | (with_reducible exact ih0 _ _)
      | (with_reducible exact ih1 _ _)
      | (with_reducible exact spec_Makes.mono _ _ _)
      | (with_reducible exact spec_Whole.mono _ _)
      | (with_reducible exact LeO.refl _)
      | (with_reducible exact LeO.none _)
      | (with_reducible refine LeO.ite ?_ ?_)
      | (with_reducible refine LeO.bind ?_ (fun _ => ?_))
      | exact ih0 _ _
      | exact ih1 _ _
      | exact spec_Makes.mono _ _ _
      | exact spec_Whole.mono _ _
      | exact LeO.none _
      | refine LeO.ite ?_ ?_
      | refine LeO.bind ?_ (fun _ => ?_)
theorem laws_field.mono : ∀ a0 a1 k, LeO (laws_field.f k a0 a1) (laws_field.f (k + 1) a0 a1) := by
  intro a0 a1 k
  obtain ⟨ih0, ih1⟩ := laws_field.mono_l k
  unfold laws_field.f
  repeat' first
      | (with_reducible exact ih0 _ _)
      | (with_reducible exact ih1 _ _)
      | (with_reducible exact spec_Makes.mono _ _ _)
      | (with_reducible exact spec_Whole.mono _ _)
      | (with_reducible exact LeO.refl _)
      | (with_reducible exact LeO.none _)
      | (with_reducible refine LeO.ite ?_ ?_)
      | (with_reducible refine LeO.bind ?_ (fun _ => ?_))
      | exact ih0 _ _
      | exact ih1 _ _
      | exact spec_Makes.mono _ _ _
      | exact spec_Whole.mono _ _
      | exact LeO.none _
      | refine LeO.ite ?_ ?_
      | refine LeO.bind ?_ (fun _ => ?_)
set_option maxHeartbeats 8000000 in
set_option maxRecDepth 100000 in
theorem laws_field.calls (k : Nat) (a0 : Int) (a1 : Int) (r1 : Int) (r2 : Int) (w : World) (h : laws_field.f k a0 a1 = some (r1, r2)) :
    Calls Tryd.prog 5 #[.int .i64 a0, .int .i64 a1] w fun e w' => e = .returned (.tuple #[.int .i64 r1, .int .i64 r2]) ∧ Below w.heap.size w w' := by
  have HB := Aside0.mk (Below.refl w.heap.size w)
  have H : ((laws_below.f a0 256).bind fun t102 => ((laws_below.f a1 254).bind fun t103 => (laws_field.l0 k (wrap64 (256 + t102)) (wrap64 (2 + t103))))) = some (r1, r2) := h
  clear h
  replace H := Option.bind_eq_some_iff.mp H
  obtain ⟨t102, A30, H⟩ := H
  replace H : ((laws_below.f a1 254).bind fun t103 => (laws_field.l0 k (wrap64 (256 + t102)) (wrap64 (2 + t103)))) = some (r1, r2) := H
  have A3 := Aside0.mk A30
  clear A30
  replace H := Option.bind_eq_some_iff.mp H
  obtain ⟨t103, A40, H⟩ := H
  replace H : (laws_field.l0 k (wrap64 (256 + t102)) (wrap64 (2 + t103))) = some (r1, r2) := H
  have A4 := Aside0.mk A40
  clear A40
  have H' := Aside0.mk H
  clear H
  go_enter Tryd.func5, Tryd.ntmps5
  go_wp2_with (first | ((with_reducible refine gate_callee (f := 6) rfl ?_); refine goesL_ (some 7) rfl rfl Tryd.func6 (by kernel_rfl) rfl #[.int .i64 a0, .int .i64 256] rfl (by (try simp only [List.map_toArray, List.map_cons, List.map_nil]); first | done | rfl | (simp only [List.length_drop, List.length_take]; rfl)) ?_; (with_reducible refine (laws_below.calls a0 256 t102 _ A3.out).mono ?_); rintro e w5 ⟨rfl, hb⟩; refine ⟨_, rfl, ?_⟩; have n0_ := Aside0.mk (below_step (by repeat (first | (with_reducible first | exact HB.out | apply below_alloc | apply pw_below_drewN | apply below_drew1) | exact HB.out)) hb); clear HB; have HB := n0_; clear n0_; (try clear hb); (try clear hb2); (try clear hk); (try clear hi)) | ((with_reducible refine gate_callee (f := 6) rfl ?_); refine goesL_ (some 10) rfl rfl Tryd.func6 (by kernel_rfl) rfl #[.int .i64 a1, .int .i64 254] rfl (by (try simp only [List.map_toArray, List.map_cons, List.map_nil]); first | done | rfl | (simp only [List.length_drop, List.length_take]; rfl)) ?_; (with_reducible refine (laws_below.calls a1 254 t103 _ A4.out).mono ?_); rintro e w6 ⟨rfl, hb⟩; refine ⟨_, rfl, ?_⟩; have n0_ := Aside0.mk (below_step (by repeat (first | (with_reducible first | exact HB.out | apply below_alloc | apply pw_below_drewN | apply below_drew1) | exact HB.out)) hb); clear HB; have HB := n0_; clear n0_; (try clear hb); (try clear hb2); (try clear hk); (try clear hi)))
  go_loopg [0] k (fun kq v0 w' => ∃ (x0_1 : Int), v0 = .int .i64 x0_1 ∧ Aside0 (laws_field.l0 kq x0_1 (wrap64 (2 + t103)) = some (r1, r2)) ∧ Aside0 (kq ≤ k) ∧ Aside0 (Below w.heap.size w w'))
  case atStart => exact ⟨(wrap64 (256 + t102)), (by first | rfl | (simp; done) | (simp [*]; done)), H', ⟨Nat.le_refl _⟩, ⟨by repeat (first | (with_reducible first | exact HB.out | apply below_alloc | apply pw_below_drewN | apply below_drew1) | exact HB.out)⟩⟩
  case round =>
    clear H'
    try clear p2
    try clear c5
    try clear c6
    try clear p6
    obtain ⟨x0_1, rfl, HA, HK1, HB⟩ := hrel
    cases gk with
    | zero => exact absurd HA.out (by simp [laws_field.l0])
    | succ k1 =>
      have H := HA.out
      clear HA
      simp only [laws_field.l0] at H
      replace H := Option.bind_eq_some_iff.mp H
      obtain ⟨t104, A70, H⟩ := H
      replace H : (if t104 = true then (laws_field.l1 k1 x0_1 (wrap64 (2 + t103))) else (laws_field.l0 k1 (wrap64 (256 + (Int.tmod (wrap64 (x0_1 + 1)) 256))) (wrap64 (2 + t103)))) = some (r1, r2) := H
      have A7 := Aside0.mk A70
      clear A70
      by_cases c8 : t104 = true
      · subst c8
        have H1 : (laws_field.l1 k1 x0_1 (wrap64 (2 + t103))) = some (r1, r2) := by rw [if_pos rfl] at H; exact H
        clear H
        have H := H1
        clear H1
        have H' := Aside0.mk H
        clear H
        go_wp2_with (first | ((with_reducible refine gate_callee (f := 13) rfl ?_); refine goesL_ (some 13) rfl rfl Tryd.func13 (by kernel_rfl) rfl #[.int .i64 x0_1] rfl (by (try simp only [List.map_toArray, List.map_cons, List.map_nil]); first | done | rfl | (simp only [List.length_drop, List.length_take]; rfl)) ?_; (with_reducible refine (spec_Whole.calls k1 x0_1 true _ A7.out).mono ?_); rintro e w' ⟨rfl, ⟨nd, rfl⟩⟩; refine ⟨_, rfl, ?_⟩))
        go_loopg [1] k1 (fun kq v1 w' => ∃ (x1_2 : Int), v1 = .int .i64 x1_2 ∧ Aside0 (laws_field.l1 kq x0_1 x1_2 = some (r1, r2)) ∧ Aside0 (kq ≤ k1) ∧ Aside0 (Below w.heap.size w w'))
        case atStart => exact ⟨((wrap64 (2 + t103))), (by first | rfl | (simp; done) | (simp [*]; done)), H', ⟨Nat.le_refl _⟩, ⟨by repeat (first | (with_reducible first | exact HB.out | apply below_alloc | apply pw_below_drewN | apply below_drew1) | exact HB.out)⟩⟩
        case round =>
          clear H'
          try clear c1
          try clear p2
          try clear c5
          try clear c6
          try clear p6
          try clear c8
          try clear p2
          try clear p6
          obtain ⟨x1_2, rfl, HA, HK2, HB⟩ := hrel
          cases gk with
          | zero => exact absurd HA.out (by simp [laws_field.l1])
          | succ k2 =>
            have H := HA.out
            clear HA
            simp only [laws_field.l1] at H
            replace H := Option.bind_eq_some_iff.mp H
            obtain ⟨t105, A90, H⟩ := H
            replace H : (if t105 = true then (some (x0_1, x1_2)) else (laws_field.l1 k2 x0_1 (wrap64 (2 + (Int.tmod (wrap64 (x1_2 - 1)) 254))))) = some (r1, r2) := H
            have A9 := Aside0.mk A90
            clear A90
            by_cases c10 : t105 = true
            · subst c10
              have H1 : (some (x0_1, x1_2)) = some (r1, r2) := by rw [if_pos rfl] at H; exact H
              clear H
              have H := H1
              clear H1
              simp only [Option.some.injEq, Prod.mk.injEq] at H
              obtain ⟨rfl, rfl⟩ := H
              go_wp2_with (first | ((with_reducible refine gate_callee (f := 14) rfl ?_); refine goesL_ (some 21) rfl rfl Tryd.func14 (by kernel_rfl) rfl #[.int .i64 x1_2, .int .i64 x0_1] rfl (by (try simp only [List.map_toArray, List.map_cons, List.map_nil]); first | done | rfl | (simp only [List.length_drop, List.length_take]; rfl)) ?_; (with_reducible refine (spec_Makes.calls k2 x1_2 x0_1 true _ A9.out).mono ?_); rintro e w' ⟨rfl, ⟨nd, rfl⟩⟩; refine ⟨_, rfl, ?_⟩))
              go_ret2
              exact ⟨by first | rfl | (simp [errW_none, errW_some] <;> rfl) | (simp [*, errW_none, errW_some] <;> rfl), by repeat (first | (with_reducible first | exact HB.out | apply below_alloc | apply pw_below_drewN | apply below_drew1) | exact HB.out)⟩
            · replace c10 := Bool.eq_false_iff.mpr c10
              subst c10
              have H1 : (laws_field.l1 k2 x0_1 (wrap64 (2 + (Int.tmod (wrap64 (x1_2 - 1)) 254)))) = some (r1, r2) := by rw [if_neg (show ¬ (false = true) by decide)] at H; exact H
              clear H
              have H := H1
              clear H1
              have H' := Aside0.mk H
              clear H
              go_wp2_with (first | ((with_reducible refine gate_callee (f := 14) rfl ?_); refine goesL_ (some 21) rfl rfl Tryd.func14 (by kernel_rfl) rfl #[.int .i64 x1_2, .int .i64 x0_1] rfl (by (try simp only [List.map_toArray, List.map_cons, List.map_nil]); first | done | rfl | (simp only [List.length_drop, List.length_take]; rfl)) ?_; (with_reducible refine (spec_Makes.calls k2 x1_2 x0_1 false _ A9.out).mono ?_); rintro e w' ⟨rfl, ⟨nd, rfl⟩⟩; refine ⟨_, rfl, ?_⟩))
              go_roundg k2
              case measure => have := HK1.out; have := HK2.out; omega
              case rel => exact ⟨(wrap64 (2 + (Int.tmod (wrap64 (x1_2 - 1)) 254))), (by first | rfl | (simp; done) | (simp [*]; done)), H', ⟨by have := HK1.out; have := HK2.out; omega⟩, ⟨by repeat (first | (with_reducible first | exact HB.out | apply below_alloc | apply pw_below_drewN | apply below_drew1) | exact HB.out)⟩⟩
      · replace c8 := Bool.eq_false_iff.mpr c8
        subst c8
        have H1 : (laws_field.l0 k1 (wrap64 (256 + (Int.tmod (wrap64 (x0_1 + 1)) 256))) (wrap64 (2 + t103))) = some (r1, r2) := by rw [if_neg (show ¬ (false = true) by decide)] at H; exact H
        clear H
        have H := H1
        clear H1
        have H' := Aside0.mk H
        clear H
        go_wp2_with (first | ((with_reducible refine gate_callee (f := 13) rfl ?_); refine goesL_ (some 13) rfl rfl Tryd.func13 (by kernel_rfl) rfl #[.int .i64 x0_1] rfl (by (try simp only [List.map_toArray, List.map_cons, List.map_nil]); first | done | rfl | (simp only [List.length_drop, List.length_take]; rfl)) ?_; (with_reducible refine (spec_Whole.calls k1 x0_1 false _ A7.out).mono ?_); rintro e w' ⟨rfl, ⟨nd, rfl⟩⟩; refine ⟨_, rfl, ?_⟩))
        go_roundg k1
        case measure => have := HK1.out; omega
        case rel => exact ⟨(wrap64 (256 + (Int.tmod (wrap64 (x0_1 + 1)) 256))), (by first | rfl | (simp; done) | (simp [*]; done)), H', ⟨by have := HK1.out; omega⟩, ⟨by repeat (first | (with_reducible first | exact HB.out | apply below_alloc | apply pw_below_drewN | apply below_drew1) | exact HB.out)⟩⟩

/-! ### qrgf256_nbit: function 27 -/
def qrgf256_nbit.l0 : Nat → Int → Int → Option (Int)
  | 0, _, _ => none
  | k + 1, x0, x3 => if x0 > 0 then (qrgf256_nbit.l0 k (x0 / 2) (IntKind.u64.wrap (x3 + 1))) else (some x3)
def qrgf256_nbit.f (k : Nat) (a0 : Int) : Option (Int) := qrgf256_nbit.l0 k a0 0
theorem qrgf256_nbit.mono_l : ∀ k, (∀ y0 y1, LeO (qrgf256_nbit.l0 k y0 y1) (qrgf256_nbit.l0 (k + 1) y0 y1))
  | 0 => fun _ _ r h => by simp [qrgf256_nbit.l0] at h
  | k + 1 => by
    have ih0 := qrgf256_nbit.mono_l k
    · intro y0 y1
      unfold qrgf256_nbit.l0
      repeat' first
      | (with_reducible exact ih0 _ _)
      | (with_reducible exact LeO.refl _)
      | (with_reducible exact LeO.none _)
      | (with_reducible refine LeO.ite ?_ ?_)
      | (with_reducible refine LeO.bind ?_ (fun _ => ?_))
      | exact ih0 _ _
      | exact LeO.none _
      | refine LeO.ite ?_ ?_
      | refine LeO.bind ?_ (fun _ => ?_)
theorem qrgf256_nbit.mono : ∀ a0 k, LeO (qrgf256_nbit.f k a0) (qrgf256_nbit.f (k + 1) a0) := by
  intro a0 k
  have ih0 := qrgf256_nbit.mono_l k
  unfold qrgf256_nbit.f
  repeat' first
      | (with_reducible exact ih0 _ _)
      | (with_reducible exact LeO.refl _)
      | (with_reducible exact LeO.none _)
      | (with_reducible refine LeO.ite ?_ ?_)
      | (with_reducible refine LeO.bind ?_ (fun _ => ?_))
      | exact ih0 _ _
      | exact LeO.none _
      | refine LeO.ite ?_ ?_
      | refine LeO.bind ?_ (fun _ => ?_)
set_option maxHeartbeats 8000000 in
set_option maxRecDepth 100000 in
theorem qrgf256_nbit.calls (k : Nat) (a0 : Int) (r : Int) (w : World) (h : qrgf256_nbit.f k a0 = some r) :
    Calls Tryd.prog 27 #[.int .i64 a0] w fun e w' => e = .returned (.int .u64 r) ∧ Drawn0 w w' := by
  have H : (qrgf256_nbit.l0 k a0 0) = some r := h
  clear h
  have H' := Aside0.mk H
  clear H
  go_enter Tryd.func27, Tryd.ntmps27
  go_wp2
  go_loopg [0, 3] k (fun kq v0 v3 w' => ∃ (x0_1 : Int) (x3_1 : Int), v0 = .int .i64 x0_1 ∧ v3 = .int .u64 x3_1 ∧ Aside0 (qrgf256_nbit.l0 kq x0_1 x3_1 = some r) ∧ Aside0 (kq ≤ k) ∧ Drawn0 w w')
  case atStart => exact ⟨(a0), (0), (by first | rfl | (simp; done) | (simp [*]; done)), (by first | rfl | (simp; done) | (simp [*]; done)), H', ⟨Nat.le_refl _⟩, by repeat (first | exact Drawn0.refl _ | apply Drawn0.step)⟩
  case round =>
    clear H'
    obtain ⟨x0_1, x3_1, rfl, rfl, HA, HK1, ⟨m1, rfl⟩⟩ := hrel
    cases gk with
    | zero => exact absurd HA.out (by simp [qrgf256_nbit.l0])
    | succ k1 =>
      have H := HA.out
      clear HA
      simp only [qrgf256_nbit.l0] at H
      by_cases c2 : x0_1 > 0
      · rw [if_pos c2] at H
        have c2b0 : decide (0 < x0_1) = true := decide_eq_true c2
        clear c2
        have H' := Aside0.mk H
        clear H
        go_wp2
        go_roundg k1
        case measure => have := HK1.out; omega
        case rel => exact ⟨(x0_1 / 2), (IntKind.u64.wrap (x3_1 + 1)), (by first | rfl | (simp; done) | (simp [*]; done)), (by first | rfl | (simp; done) | (simp [*]; done)), H', ⟨by have := HK1.out; omega⟩, by repeat (first | exact Drawn0.refl _ | apply Drawn0.step)⟩
      · rw [if_neg c2] at H
        have c2b0 : decide (0 < x0_1) = false := decide_eq_false c2
        clear c2
        obtain rfl := Option.some.inj H
        go_wp2
        go_ret
        exact ⟨by first | rfl | (simp; done) | (simp [*]; done), by repeat (first | exact Drawn0.refl _ | apply Drawn0.step)⟩

end Go.Proofs.YtbflcmcdmdicjaaDoor.PFnCheck
