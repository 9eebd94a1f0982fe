/- Division, reducibility, multiplication, power and the check of a row of bytes: each Go function comes to the answers of a Lean function. Taken from the lines that the print's program wrote for this seat; the functions of strconv, of which one does not build, are left out. No condition. -/
import Derived.Test.YtbflcmcdmdicjaaDoorPFnCheckx0
import Derived.Test.YtbflcmcdmdicjaaDoorPFnCheckx1
namespace Go.Proofs.YtbflcmcdmdicjaaDoor.PFnCheck
open Go.RowKit Go.Proofs.YtbflcmcdmdicjaaDoorW.PrintWords Go.Proofs.YtbflcmcdmdicjaaDoorW.PrintLast Go.Proofs.YtbflcmcdmdicjaaDoorW.PrintMore
attribute [local go_sem] max2_int min2_int max_two min_two max_three min_three max_four min_four   -- for this text's walks alone
set_option linter.unusedVariables false
set_option linter.unusedSimpArgs false

/-! ### qrgf256_polyDiv: function 28 -/
def qrgf256_polyDiv.l0 : Nat → Int → Int → Int → Int → Option (Int)
  | 0, _, _, _, _ => none
  | k + 1, x0, x1, x5, x6 => if x5 ≥ x6 then (if 0 ≤ (IntKind.u64.wrap (x5 - 1)) then (if (Go.bits .and .i64 x0 (shl .i64 1 (IntKind.u64.wrap (x5 - 1)))) = 0 then (qrgf256_polyDiv.l0 k x0 x1 (IntKind.u64.wrap (x5 - 1)) x6) else (if 0 ≤ (IntKind.u64.wrap (x5 - x6)) then (qrgf256_polyDiv.l0 k (Go.bits .xor .i64 x0 (shl .i64 x1 (IntKind.u64.wrap (x5 - x6)))) x1 (IntKind.u64.wrap (x5 - 1)) x6) else (none))) else (none)) else (some x0)
def qrgf256_polyDiv.f (k : Nat) (a0 : Int) (a1 : Int) : Option (Int) := (qrgf256_nbit.f k a0).bind fun t106 => ((qrgf256_nbit.f k a1).bind fun t107 => (qrgf256_polyDiv.l0 k a0 a1 t106 t107))
theorem qrgf256_polyDiv.mono_l : ∀ k, (∀ y0 y1 y2 y3, LeO (qrgf256_polyDiv.l0 k y0 y1 y2 y3) (qrgf256_polyDiv.l0 (k + 1) y0 y1 y2 y3))
  | 0 => fun _ _ _ _ r h => by simp [qrgf256_polyDiv.l0] at h
  | k + 1 => by
    have ih0 := qrgf256_polyDiv.mono_l k
    · intro y0 y1 y2 y3
      unfold qrgf256_polyDiv.l0
      repeat' first
      | (with_reducible exact ih0 _ _ _ _)
      | (with_reducible exact qrgf256_nbit.mono _ _)
      | (with_reducible exact LeO.refl _)
      | (with_reducible exact LeO.none _)
      | (with_reducible refine LeO.ite ?_ ?_)
      | (with_reducible refine LeO.bind ?_ (fun _ => ?_))
      | exact ih0 _ _ _ _
      | exact qrgf256_nbit.mono _ _
      | exact LeO.none _
      | refine LeO.ite ?_ ?_
      | refine LeO.bind ?_ (fun _ => ?_)
theorem qrgf256_polyDiv.mono : ∀ a0 a1 k, LeO (qrgf256_polyDiv.f k a0 a1) (qrgf256_polyDiv.f (k + 1) a0 a1) := by
  intro a0 a1 k
  have ih0 := qrgf256_polyDiv.mono_l k
  unfold qrgf256_polyDiv.f
  repeat' first
      | (with_reducible exact ih0 _ _ _ _)
      | (with_reducible exact qrgf256_nbit.mono _ _)
      | (with_reducible exact LeO.refl _)
      | (with_reducible exact LeO.none _)
      | (with_reducible refine LeO.ite ?_ ?_)
      | (with_reducible refine LeO.bind ?_ (fun _ => ?_))
      | exact ih0 _ _ _ _
      | exact qrgf256_nbit.mono _ _
      | exact LeO.none _
      | refine LeO.ite ?_ ?_
      | refine LeO.bind ?_ (fun _ => ?_)
set_option maxHeartbeats 8000000 in
set_option maxRecDepth 100000 in
theorem qrgf256_polyDiv.calls (k : Nat) (a0 : Int) (a1 : Int) (r : Int) (w : World) (h : qrgf256_polyDiv.f k a0 a1 = some r) :
    Calls Tryd.prog 28 #[.int .i64 a0, .int .i64 a1] w fun e w' => e = .returned (.int .i64 r) ∧ Drawn0 w w' := by
  have H : ((qrgf256_nbit.f k a0).bind fun t106 => ((qrgf256_nbit.f k a1).bind fun t107 => (qrgf256_polyDiv.l0 k a0 a1 t106 t107))) = some r := h
  clear h
  replace H := Option.bind_eq_some_iff.mp H
  obtain ⟨t106, A30, H⟩ := H
  replace H : ((qrgf256_nbit.f k a1).bind fun t107 => (qrgf256_polyDiv.l0 k a0 a1 t106 t107)) = some r := H
  have A3 := Aside0.mk A30
  clear A30
  replace H := Option.bind_eq_some_iff.mp H
  obtain ⟨t107, A40, H⟩ := H
  replace H : (qrgf256_polyDiv.l0 k a0 a1 t106 t107) = some r := H
  have A4 := Aside0.mk A40
  clear A40
  have H' := Aside0.mk H
  clear H
  go_enter Tryd.func28, Tryd.ntmps28
  go_wp2_with (first | ((with_reducible refine gate_callee (f := 27) rfl ?_); refine goesL_ (some 8) rfl rfl Tryd.func27 (by kernel_rfl) rfl #[.int .i64 a0] rfl (by (try simp only [List.map_toArray, List.map_cons, List.map_nil]); first | done | rfl | (simp only [List.length_drop, List.length_take]; rfl)) ?_; (with_reducible refine (qrgf256_nbit.calls k a0 t106 _ A3.out).mono ?_); rintro e w' ⟨rfl, ⟨nd, rfl⟩⟩; refine ⟨_, rfl, ?_⟩) | ((with_reducible refine gate_callee (f := 27) rfl ?_); refine goesL_ (some 10) rfl rfl Tryd.func27 (by kernel_rfl) rfl #[.int .i64 a1] rfl (by (try simp only [List.map_toArray, List.map_cons, List.map_nil]); first | done | rfl | (simp only [List.length_drop, List.length_take]; rfl)) ?_; (with_reducible refine (qrgf256_nbit.calls k a1 t107 _ A4.out).mono ?_); rintro e w' ⟨rfl, ⟨nd, rfl⟩⟩; refine ⟨_, rfl, ?_⟩))
  go_loopg [0, 5] k (fun kq v0 v5 w' => ∃ (x0_1 : Int) (x5_1 : Int), v0 = .int .i64 x0_1 ∧ v5 = .int .u64 x5_1 ∧ Aside0 (qrgf256_polyDiv.l0 kq x0_1 a1 x5_1 t107 = some r) ∧ Aside0 (kq ≤ k) ∧ Drawn0 w w')
  case atStart => exact ⟨(a0), (t106), (by first | rfl | (simp; done) | (simp [*]; done)), (by first | rfl | (simp; done) | (simp [*]; done)), H', ⟨Nat.le_refl _⟩, by repeat (first | exact Drawn0.refl _ | apply Drawn0.step)⟩
  case round =>
    clear H'
    try clear c2
    try clear p2
    obtain ⟨x0_1, x5_1, rfl, rfl, HA, HK1, ⟨m1, rfl⟩⟩ := hrel
    cases gk with
    | zero => exact absurd HA.out (by simp [qrgf256_polyDiv.l0])
    | succ k1 =>
      have H := HA.out
      clear HA
      simp only [qrgf256_polyDiv.l0] at H
      by_cases c5 : x5_1 ≥ t107
      · rw [if_pos c5] at H
        have c5b0 : decide (t107 ≤ x5_1) = true := decide_eq_true c5
        clear c5
        obtain ⟨ji6, hji6⟩ : ∃ j_ : Int, (IntKind.u64.wrap (x5_1 - 1)) = j_ := ⟨_, rfl⟩
        replace H : (if 0 ≤ (ji6) then (if (Go.bits .and .i64 x0_1 (shl .i64 1 (ji6))) = 0 then (qrgf256_polyDiv.l0 k1 x0_1 a1 ji6 t107) else (if 0 ≤ (IntKind.u64.wrap (x5_1 - t107)) then (qrgf256_polyDiv.l0 k1 (Go.bits .xor .i64 x0_1 (shl .i64 a1 (IntKind.u64.wrap (x5_1 - t107)))) a1 ji6 t107) else (none))) else (none)) = some r := by first | (rw [hji6] at H; exact H) | (simp only [hji6] at H ⊢; exact H)
        by_cases c7 : 0 ≤ (ji6)
        · rw [if_pos c7] at H
          have c7b0 := eq_true c7
          have c7b1 : decide (0 ≤ (ji6)) = true := decide_eq_true c7
          clear c7
          obtain ⟨ji8, hji8⟩ : ∃ j_ : Int, (shl .i64 1 (ji6)) = j_ := ⟨_, rfl⟩
          replace H : (if (Go.bits .and .i64 x0_1 (ji8)) = 0 then (qrgf256_polyDiv.l0 k1 x0_1 a1 ji6 t107) else (if 0 ≤ (IntKind.u64.wrap (x5_1 - t107)) then (qrgf256_polyDiv.l0 k1 (Go.bits .xor .i64 x0_1 (shl .i64 a1 (IntKind.u64.wrap (x5_1 - t107)))) a1 ji6 t107) else (none))) = some r := by first | (rw [hji8] at H; exact H) | (simp only [hji8] at H ⊢; exact H)
          have hji8_ : (IntKind.i64.wrap (1 * 2 ^ min (ji6).toNat 64)) = ji8 := hji8
          have hji8z : (ji6) ≤ 64 → (IntKind.i64.wrap (1 * 2 ^ (ji6).toNat)) = ji8 := shl_small hji8
          have hji8u : (IntKind.i64.wrap (2 ^ min (ji6).toNat 64)) = ji8 := by have h_ := hji8_; rw [Int.one_mul] at h_; exact h_
          have hji8v : (ji6) ≤ 64 → (IntKind.i64.wrap (2 ^ (ji6).toNat)) = ji8 := fun hle_ => by have h_ := hji8z hle_; rw [Int.one_mul] at h_; exact h_
          have hji8y : (wrap64 (1 * 2 ^ min (ji6).toNat 64)) = ji8 := (i64_w _).symm.trans hji8_
          have hji8x : (ji6) ≤ 64 → (wrap64 (1 * 2 ^ (ji6).toNat)) = ji8 := fun h_ => (i64_w _).symm.trans (hji8z h_)
          by_cases c9 : (Go.bits .and .i64 x0_1 (ji8)) = 0
          · rw [if_pos c9] at H
            have c9b0 : ((Go.bits .and .i64 x0_1 (ji8)) == 0) = true := beq_iff_eq.mpr c9
            have c9b1 : ((Go.bits .and .i64 x0_1 (ji8)) != 0) = false := bne_eq_false_iff_eq.mpr c9
            clear c9
            have H' := Aside0.mk H
            clear H
            go_wp2
            go_roundg k1
            case measure => have := HK1.out; omega
            case rel => exact ⟨(x0_1), (ji6), (by first | rfl | (simp; done) | (simp [*]; done)), (by first | rfl | (simp; done) | (simp only [← hji6] <;> (first | rfl | simp)) | (simp [*]; done)), H', ⟨by have := HK1.out; omega⟩, by repeat (first | exact Drawn0.refl _ | apply Drawn0.step)⟩
          · rw [if_neg c9] at H
            have c9b0 : ((Go.bits .and .i64 x0_1 (ji8)) == 0) = false := beq_eq_false_iff_ne.mpr c9
            have c9b1 : ((Go.bits .and .i64 x0_1 (ji8)) != 0) = true := bne_iff_ne.mpr c9
            obtain ⟨ji10, hji10⟩ : ∃ j_ : Int, (IntKind.u64.wrap (x5_1 - t107)) = j_ := ⟨_, rfl⟩
            replace H : (if 0 ≤ (ji10) then (qrgf256_polyDiv.l0 k1 (Go.bits .xor .i64 x0_1 (shl .i64 a1 (ji10))) a1 ji6 t107) else (none)) = some r := by first | (rw [hji10] at H; exact H) | (simp only [hji10] at H ⊢; exact H)
            by_cases c11 : 0 ≤ (ji10)
            · rw [if_pos c11] at H
              have c11b0 := eq_true c11
              have c11b1 : decide (0 ≤ (ji10)) = true := decide_eq_true c11
              clear c11
              obtain ⟨ji12, hji12⟩ : ∃ j_ : Int, (shl .i64 a1 (ji10)) = j_ := ⟨_, rfl⟩
              replace H : (qrgf256_polyDiv.l0 k1 (Go.bits .xor .i64 x0_1 (ji12)) a1 ji6 t107) = some r := by first | (rw [hji12] at H; exact H) | (simp only [hji12] at H ⊢; exact H)
              have hji12_ : (IntKind.i64.wrap (a1 * 2 ^ min (ji10).toNat 64)) = ji12 := hji12
              have hji12z : (ji10) ≤ 64 → (IntKind.i64.wrap (a1 * 2 ^ (ji10).toNat)) = ji12 := shl_small hji12
              have hji12y : (wrap64 (a1 * 2 ^ min (ji10).toNat 64)) = ji12 := (i64_w _).symm.trans hji12_
              have hji12x : (ji10) ≤ 64 → (wrap64 (a1 * 2 ^ (ji10).toNat)) = ji12 := fun h_ => (i64_w _).symm.trans (hji12z h_)
              have H' := Aside0.mk H
              clear H
              go_wp2
              go_roundg k1
              case measure => have := HK1.out; omega
              case rel => exact ⟨(Go.bits .xor .i64 x0_1 (ji12)), (ji6), (by first | rfl | (simp; done) | (simp only [← hji12] <;> (first | rfl | simp)) | (simp [*]; done)), (by first | rfl | (simp; done) | (simp only [← hji6] <;> (first | rfl | simp)) | (simp [*]; done)), H', ⟨by have := HK1.out; omega⟩, by repeat (first | exact Drawn0.refl _ | apply Drawn0.step)⟩
            · rw [if_neg c11] at H
              exact absurd H (by simp)
        · rw [if_neg c7] at H
          exact absurd H (by simp)
      · rw [if_neg c5] at H
        have c5b0 : decide (t107 ≤ x5_1) = false := decide_eq_false c5
        clear c5
        obtain rfl := Option.some.inj H
        go_wp2
        go_ret
        exact ⟨by first | rfl | (simp; done) | (simp [*]; done), by repeat (first | exact Drawn0.refl _ | apply Drawn0.step)⟩

/-! ### qrgf256_reducible: function 23 -/
def qrgf256_reducible.l0 : Nat → Int → Int → Int → Option (Bool)
  | 0, _, _, _ => none
  | k + 1, x0, x3, x4 => if 0 ≤ (IntKind.u64.wrap ((IntKind.u64.wrap (Int.tdiv x3 2)) + 1)) then (if x4 < (shl .i64 1 (IntKind.u64.wrap ((IntKind.u64.wrap (Int.tdiv x3 2)) + 1))) then ((qrgf256_polyDiv.f k x0 x4).bind fun t109 => (if t109 = 0 then (some true) else (qrgf256_reducible.l0 k x0 x3 (wrap64 (x4 + 1))))) else (some false)) else (none)
def qrgf256_reducible.f (k : Nat) (a0 : Int) : Option (Bool) := (qrgf256_nbit.f k a0).bind fun t108 => (qrgf256_reducible.l0 k a0 t108 2)
theorem qrgf256_reducible.mono_l : ∀ k, (∀ y0 y1 y2, LeO (qrgf256_reducible.l0 k y0 y1 y2) (qrgf256_reducible.l0 (k + 1) y0 y1 y2))
  | 0 => fun _ _ _ r h => by simp [qrgf256_reducible.l0] at h
  | k + 1 => by
    have ih0 := qrgf256_reducible.mono_l k
    · intro y0 y1 y2
      unfold qrgf256_reducible.l0
      repeat' first
      | (with_reducible exact ih0 _ _ _)
      | (with_reducible exact qrgf256_nbit.mono _ _)
      | (with_reducible exact qrgf256_polyDiv.mono _ _ _)
      | (with_reducible exact LeO.refl _)
      | (with_reducible exact LeO.none _)
      | (with_reducible refine LeO.ite ?_ ?_)
      | (with_reducible refine LeO.bind ?_ (fun _ => ?_))
      | exact ih0 _ _ _
      | exact qrgf256_nbit.mono _ _
      | exact qrgf256_polyDiv.mono _ _ _
      | exact LeO.none _
      | refine LeO.ite ?_ ?_
      | refine LeO.bind ?_ (fun _ => ?_)
theorem qrgf256_reducible.mono : ∀ a0 k, LeO (qrgf256_reducible.f k a0) (qrgf256_reducible.f (k + 1) a0) := by
  intro a0 k
  have ih0 := qrgf256_reducible.mono_l k
  unfold qrgf256_reducible.f
  repeat' first
      | (with_reducible exact ih0 _ _ _)
      | (with_reducible exact qrgf256_nbit.mono _ _)
      | (with_reducible exact qrgf256_polyDiv.mono _ _ _)
      | (with_reducible exact LeO.refl _)
      | (with_reducible exact LeO.none _)
      | (with_reducible refine LeO.ite ?_ ?_)
      | (with_reducible refine LeO.bind ?_ (fun _ => ?_))
      | exact ih0 _ _ _
      | exact qrgf256_nbit.mono _ _
      | exact qrgf256_polyDiv.mono _ _ _
      | exact LeO.none _
      | refine LeO.ite ?_ ?_
      | refine LeO.bind ?_ (fun _ => ?_)
set_option maxHeartbeats 8000000 in
set_option maxRecDepth 100000 in
theorem qrgf256_reducible.calls (k : Nat) (a0 : Int) (r : Bool) (w : World) (h : qrgf256_reducible.f k a0 = some r) :
    Calls Tryd.prog 23 #[.int .i64 a0] w fun e w' => e = .returned (.bool r) ∧ Drawn0 w w' := by
  have H : ((qrgf256_nbit.f k a0).bind fun t108 => (qrgf256_reducible.l0 k a0 t108 2)) = some r := h
  clear h
  replace H := Option.bind_eq_some_iff.mp H
  obtain ⟨t108, A20, H⟩ := H
  replace H : (qrgf256_reducible.l0 k a0 t108 2) = some r := H
  have A2 := Aside0.mk A20
  clear A20
  have H' := Aside0.mk H
  clear H
  go_enter Tryd.func23, Tryd.ntmps23
  go_wp2_with (first | ((with_reducible refine gate_callee (f := 27) rfl ?_); refine goesL_ (some 6) rfl rfl Tryd.func27 (by kernel_rfl) rfl #[.int .i64 a0] rfl (by (try simp only [List.map_toArray, List.map_cons, List.map_nil]); first | done | rfl | (simp only [List.length_drop, List.length_take]; rfl)) ?_; (with_reducible refine (qrgf256_nbit.calls k a0 t108 _ A2.out).mono ?_); rintro e w' ⟨rfl, ⟨nd, rfl⟩⟩; refine ⟨_, rfl, ?_⟩))
  go_loopg [4] k (fun kq v4 w' => ∃ (x4_1 : Int), v4 = .int .i64 x4_1 ∧ Aside0 (qrgf256_reducible.l0 kq a0 t108 x4_1 = some r) ∧ Aside0 (kq ≤ k) ∧ Drawn0 w w')
  case atStart => exact ⟨(2), (by first | rfl | (simp; done) | (simp [*]; done)), H', ⟨Nat.le_refl _⟩, by repeat (first | exact Drawn0.refl _ | apply Drawn0.step)⟩
  case round =>
    clear H'
    try clear c2
    try clear p2
    obtain ⟨x4_1, rfl, HA, HK1, ⟨m1, rfl⟩⟩ := hrel
    cases gk with
    | zero => exact absurd HA.out (by simp [qrgf256_reducible.l0])
    | succ k1 =>
      have H := HA.out
      clear HA
      simp only [qrgf256_reducible.l0] at H
      obtain ⟨ji3, hji3⟩ : ∃ j_ : Int, (IntKind.u64.wrap ((IntKind.u64.wrap (Int.tdiv t108 2)) + 1)) = j_ := ⟨_, rfl⟩
      replace H : (if 0 ≤ (ji3) then (if x4_1 < (shl .i64 1 (ji3)) then ((qrgf256_polyDiv.f k1 a0 x4_1).bind fun t109 => (if t109 = 0 then (some true) else (qrgf256_reducible.l0 k1 a0 t108 (wrap64 (x4_1 + 1))))) else (some false)) else (none)) = some r := by first | (rw [hji3] at H; exact H) | (simp only [hji3] at H ⊢; exact H)
      by_cases c4 : 0 ≤ (ji3)
      · rw [if_pos c4] at H
        have c4b0 := eq_true c4
        have c4b1 : decide (0 ≤ (ji3)) = true := decide_eq_true c4
        clear c4
        obtain ⟨ji5, hji5⟩ : ∃ j_ : Int, (shl .i64 1 (ji3)) = j_ := ⟨_, rfl⟩
        replace H : (if x4_1 < (ji5) then ((qrgf256_polyDiv.f k1 a0 x4_1).bind fun t109 => (if t109 = 0 then (some true) else (qrgf256_reducible.l0 k1 a0 t108 (wrap64 (x4_1 + 1))))) else (some false)) = some r := by first | (rw [hji5] at H; exact H) | (simp only [hji5] at H ⊢; exact H)
        have hji5_ : (IntKind.i64.wrap (1 * 2 ^ min (ji3).toNat 64)) = ji5 := hji5
        have hji5z : (ji3) ≤ 64 → (IntKind.i64.wrap (1 * 2 ^ (ji3).toNat)) = ji5 := shl_small hji5
        have hji5u : (IntKind.i64.wrap (2 ^ min (ji3).toNat 64)) = ji5 := by have h_ := hji5_; rw [Int.one_mul] at h_; exact h_
        have hji5v : (ji3) ≤ 64 → (IntKind.i64.wrap (2 ^ (ji3).toNat)) = ji5 := fun hle_ => by have h_ := hji5z hle_; rw [Int.one_mul] at h_; exact h_
        have hji5y : (wrap64 (1 * 2 ^ min (ji3).toNat 64)) = ji5 := (i64_w _).symm.trans hji5_
        have hji5x : (ji3) ≤ 64 → (wrap64 (1 * 2 ^ (ji3).toNat)) = ji5 := fun h_ => (i64_w _).symm.trans (hji5z h_)
        by_cases c6 : x4_1 < (ji5)
        · rw [if_pos c6] at H
          have c6b0 : decide (x4_1 < (ji5)) = true := decide_eq_true c6
          clear c6
          replace H := Option.bind_eq_some_iff.mp H
          obtain ⟨t109, A70, H⟩ := H
          replace H : (if t109 = 0 then (some true) else (qrgf256_reducible.l0 k1 a0 t108 (wrap64 (x4_1 + 1)))) = some r := H
          have A7 := Aside0.mk A70
          clear A70
          by_cases c8 : t109 = 0
          · rw [if_pos c8] at H
            have c8b0 : (t109 == 0) = true := beq_iff_eq.mpr c8
            have c8b1 : (t109 != 0) = false := bne_eq_false_iff_eq.mpr c8
            clear c8
            obtain rfl := Option.some.inj H
            go_wp2_with (first | ((with_reducible refine gate_callee (f := 28) rfl ?_); refine goesL_ (some 17) rfl rfl Tryd.func28 (by kernel_rfl) rfl #[.int .i64 a0, .int .i64 x4_1] rfl (by (try simp only [List.map_toArray, List.map_cons, List.map_nil]); first | done | rfl | (simp only [List.length_drop, List.length_take]; rfl)) ?_; (with_reducible refine (qrgf256_polyDiv.calls k1 a0 x4_1 t109 _ A7.out).mono ?_); rintro e w' ⟨rfl, ⟨nd, rfl⟩⟩; refine ⟨_, rfl, ?_⟩))
            go_ret
            exact ⟨by first | rfl | (simp; done) | (simp only [← hji3, ← hji5] <;> (first | rfl | simp)) | (simp [*]; done), by repeat (first | exact Drawn0.refl _ | apply Drawn0.step)⟩
          · rw [if_neg c8] at H
            have c8b0 : (t109 == 0) = false := beq_eq_false_iff_ne.mpr c8
            have c8b1 : (t109 != 0) = true := bne_iff_ne.mpr c8
            have H' := Aside0.mk H
            clear H
            go_wp2_with (first | ((with_reducible refine gate_callee (f := 28) rfl ?_); refine goesL_ (some 17) rfl rfl Tryd.func28 (by kernel_rfl) rfl #[.int .i64 a0, .int .i64 x4_1] rfl (by (try simp only [List.map_toArray, List.map_cons, List.map_nil]); first | done | rfl | (simp only [List.length_drop, List.length_take]; rfl)) ?_; (with_reducible refine (qrgf256_polyDiv.calls k1 a0 x4_1 t109 _ A7.out).mono ?_); rintro e w' ⟨rfl, ⟨nd, rfl⟩⟩; refine ⟨_, rfl, ?_⟩))
            go_roundg k1
            case measure => have := HK1.out; omega
            case rel => exact ⟨(wrap64 (x4_1 + 1)), (by first | rfl | (simp; done) | (simp [*]; done)), H', ⟨by have := HK1.out; omega⟩, by repeat (first | exact Drawn0.refl _ | apply Drawn0.step)⟩
        · rw [if_neg c6] at H
          have c6b0 : decide (x4_1 < (ji5)) = false := decide_eq_false c6
          clear c6
          obtain rfl := Option.some.inj H
          go_wp2
          go_ret
          exact ⟨by first | rfl | (simp; done) | (simp only [← hji3, ← hji5] <;> (first | rfl | simp)) | (simp [*]; done), by repeat (first | exact Drawn0.refl _ | apply Drawn0.step)⟩
      · rw [if_neg c4] at H
        exact absurd H (by simp)

/-! ### spec_Power: function 9 -/
def spec_Power.l0 : Nat → Int → Int → Int → Int → Int → Option (Int)
  | 0, _, _, _, _, _ => none
  | k + 1, x0, x2, x7, x8, x9 => if x9 < x8 then ((spec_Times.f k x7 x0 x2).bind fun t129 => (spec_Power.l0 k x0 x2 t129 x8 (wrap64 (x9 + 1)))) else (some x7)
def spec_Power.f (k : Nat) (a0 : Int) (a1 : Int) (a2 : Int) : Option (Int) := spec_Power.l0 k a0 a2 1 a1 0
theorem spec_Power.mono_l : ∀ k, (∀ y0 y1 y2 y3 y4, LeO (spec_Power.l0 k y0 y1 y2 y3 y4) (spec_Power.l0 (k + 1) y0 y1 y2 y3 y4))
  | 0 => fun _ _ _ _ _ r h => by simp [spec_Power.l0] at h
  | k + 1 => by
    have ih0 := spec_Power.mono_l k
    · intro y0 y1 y2 y3 y4
      unfold spec_Power.l0
      repeat' first
      | (with_reducible exact ih0 _ _ _ _ _)
      | (with_reducible exact spec_Times.mono _ _ _ _)
      | (with_reducible exact LeO.refl _)
      | (with_reducible exact LeO.none _)
      | (with_reducible refine LeO.ite ?_ ?_)
      | (with_reducible refine LeO.bind ?_ (fun _ => ?_))
      | exact ih0 _ _ _ _ _
      | exact spec_Times.mono _ _ _ _
      | exact LeO.none _
      | refine LeO.ite ?_ ?_
      | refine LeO.bind ?_ (fun _ => ?_)
theorem spec_Power.mono : ∀ a0 a1 a2 k, LeO (spec_Power.f k a0 a1 a2) (spec_Power.f (k + 1) a0 a1 a2) := by
  intro a0 a1 a2 k
  have ih0 := spec_Power.mono_l k
  unfold spec_Power.f
  repeat' first
      | (with_reducible exact ih0 _ _ _ _ _)
      | (with_reducible exact spec_Times.mono _ _ _ _)
      | (with_reducible exact LeO.refl _)
      | (with_reducible exact LeO.none _)
      | (with_reducible refine LeO.ite ?_ ?_)
      | (with_reducible refine LeO.bind ?_ (fun _ => ?_))
      | exact ih0 _ _ _ _ _
      | exact spec_Times.mono _ _ _ _
      | exact LeO.none _
      | refine LeO.ite ?_ ?_
      | refine LeO.bind ?_ (fun _ => ?_)
set_option maxHeartbeats 8000000 in
set_option maxRecDepth 100000 in
theorem spec_Power.calls (k : Nat) (a0 : Int) (a1 : Int) (a2 : Int) (r : Int) (w : World) (h : spec_Power.f k a0 a1 a2 = some r) :
    Calls Tryd.prog 9 #[.int .i64 a0, .int .i64 a1, .int .i64 a2] w fun e w' => e = .returned (.int .i64 r) ∧ Drawn0 w w' := by
  have H : (spec_Power.l0 k a0 a2 1 a1 0) = some r := h
  clear h
  have H' := Aside0.mk H
  clear H
  go_enter Tryd.func9, Tryd.ntmps9
  go_wp2
  go_loopg [7, 9] k (fun kq v7 v9 w' => ∃ (x7_1 : Int) (x9_1 : Int), v7 = .int .i64 x7_1 ∧ v9 = .int .i64 x9_1 ∧ Aside0 (spec_Power.l0 kq a0 a2 x7_1 a1 x9_1 = some r) ∧ Aside0 (kq ≤ k) ∧ Drawn0 w w')
  case atStart => exact ⟨(1), (0), (by first | rfl | (simp; done) | (simp [*]; done)), (by first | rfl | (simp; done) | (simp [*]; done)), H', ⟨Nat.le_refl _⟩, by repeat (first | exact Drawn0.refl _ | apply Drawn0.step)⟩
  case round =>
    clear H'
    try clear p2
    obtain ⟨x7_1, x9_1, rfl, rfl, HA, HK1, ⟨m1, rfl⟩⟩ := hrel
    cases gk with
    | zero => exact absurd HA.out (by simp [spec_Power.l0])
    | succ k1 =>
      have H := HA.out
      clear HA
      simp only [spec_Power.l0] at H
      by_cases c4 : x9_1 < a1
      · rw [if_pos c4] at H
        have c4b0 : decide (x9_1 < a1) = true := decide_eq_true c4
        clear c4
        replace H := Option.bind_eq_some_iff.mp H
        obtain ⟨t129, A50, H⟩ := H
        replace H : (spec_Power.l0 k1 a0 a2 t129 a1 (wrap64 (x9_1 + 1))) = some r := H
        have A5 := Aside0.mk A50
        clear A50
        have H' := Aside0.mk H
        clear H
        go_wp2_with (first | ((with_reducible refine gate_callee (f := 8) rfl ?_); refine goesL_ (some 14) rfl rfl Tryd.func8 (by kernel_rfl) rfl #[.int .i64 x7_1, .int .i64 a0, .int .i64 a2] rfl (by (try simp only [List.map_toArray, List.map_cons, List.map_nil]); first | done | rfl | (simp only [List.length_drop, List.length_take]; rfl)) ?_; (with_reducible refine (spec_Times.calls k1 x7_1 a0 a2 t129 _ A5.out).mono ?_); rintro e w' ⟨rfl, ⟨nd, rfl⟩⟩; refine ⟨_, rfl, ?_⟩))
        go_roundg k1
        case measure => have := HK1.out; omega
        case rel => exact ⟨(t129), (wrap64 (x9_1 + 1)), (by first | rfl | (simp; done) | (simp [*]; done)), (by first | rfl | (simp; done) | (simp [*]; done)), H', ⟨by have := HK1.out; omega⟩, by repeat (first | exact Drawn0.refl _ | apply Drawn0.step)⟩
      · rw [if_neg c4] at H
        have c4b0 : decide (x9_1 < a1) = false := decide_eq_false c4
        clear c4
        obtain rfl := Option.some.inj H
        go_wp2
        go_ret
        exact ⟨by first | rfl | (simp; done) | (simp [*]; done), by repeat (first | exact Drawn0.refl _ | apply Drawn0.step)⟩

/-! ### qrgf256_mul: function 25 -/
def qrgf256_mul.l0 : Nat → Int → Int → Int → Int → Option (Int)
  | 0, _, _, _, _ => none
  | k + 1, x0, x1, x2, x7 => if x0 > 0 then (if (Go.bits .and .i64 x0 1) = 0 then (if (Go.bits .and .i64 (wrap64 (x1 * 2)) 256) = 0 then (qrgf256_mul.l0 k (x0 / 2) (wrap64 (x1 * 2)) x2 x7) else (qrgf256_mul.l0 k (x0 / 2) (Go.bits .xor .i64 (wrap64 (x1 * 2)) x2) x2 x7)) else (if (Go.bits .and .i64 (wrap64 (x1 * 2)) 256) = 0 then (qrgf256_mul.l0 k (x0 / 2) (wrap64 (x1 * 2)) x2 (Go.bits .xor .i64 x7 x1)) else (qrgf256_mul.l0 k (x0 / 2) (Go.bits .xor .i64 (wrap64 (x1 * 2)) x2) x2 (Go.bits .xor .i64 x7 x1)))) else (some x7)
def qrgf256_mul.f (k : Nat) (a0 : Int) (a1 : Int) (a2 : Int) : Option (Int) := qrgf256_mul.l0 k a0 a1 a2 0
theorem qrgf256_mul.mono_l : ∀ k, (∀ y0 y1 y2 y3, LeO (qrgf256_mul.l0 k y0 y1 y2 y3) (qrgf256_mul.l0 (k + 1) y0 y1 y2 y3))
  | 0 => fun _ _ _ _ r h => by simp [qrgf256_mul.l0] at h
  | k + 1 => by
    have ih0 := qrgf256_mul.mono_l k
    · intro y0 y1 y2 y3
      unfold qrgf256_mul.l0
      repeat' first
      | (with_reducible exact ih0 _ _ _ _)
      | (with_reducible exact LeO.refl _)
      | (with_reducible exact LeO.none _)
      | (with_reducible refine LeO.ite ?_ ?_)
      | (with_reducible refine LeO.bind ?_ (fun _ => ?_))
      | exact ih0 _ _ _ _
      | exact LeO.none _
      | refine LeO.ite ?_ ?_
      | refine LeO.bind ?_ (fun _ => ?_)
theorem qrgf256_mul.mono : ∀ a0 a1 a2 k, LeO (qrgf256_mul.f k a0 a1 a2) (qrgf256_mul.f (k + 1) a0 a1 a2) := by
  intro a0 a1 a2 k
  have ih0 := qrgf256_mul.mono_l k
  unfold qrgf256_mul.f
  repeat' first
      | (with_reducible exact ih0 _ _ _ _)
      | (with_reducible exact LeO.refl _)
      | (with_reducible exact LeO.none _)
      | (with_reducible refine LeO.ite ?_ ?_)
      | (with_reducible refine LeO.bind ?_ (fun _ => ?_))
      | exact ih0 _ _ _ _
      | exact LeO.none _
      | refine LeO.ite ?_ ?_
      | refine LeO.bind ?_ (fun _ => ?_)
set_option maxHeartbeats 8000000 in
set_option maxRecDepth 100000 in
theorem qrgf256_mul.calls (k : Nat) (a0 : Int) (a1 : Int) (a2 : Int) (r : Int) (w : World) (h : qrgf256_mul.f k a0 a1 a2 = some r) :
    Calls Tryd.prog 25 #[.int .i64 a0, .int .i64 a1, .int .i64 a2] w fun e w' => e = .returned (.int .i64 r) ∧ Drawn0 w w' := by
  have H : (qrgf256_mul.l0 k a0 a1 a2 0) = some r := h
  clear h
  have H' := Aside0.mk H
  clear H
  go_enter Tryd.func25, Tryd.ntmps25
  go_wp2
  go_loopg [0, 1, 7] k (fun kq v0 v1 v7 w' => ∃ (x0_1 : Int) (x1_1 : Int) (x7_1 : Int), v0 = .int .i64 x0_1 ∧ v1 = .int .i64 x1_1 ∧ v7 = .int .i64 x7_1 ∧ Aside0 (qrgf256_mul.l0 kq x0_1 x1_1 a2 x7_1 = some r) ∧ Aside0 (kq ≤ k) ∧ Drawn0 w w')
  case atStart => exact ⟨(a0), (a1), (0), (by first | rfl | (simp; done) | (simp [*]; done)), (by first | rfl | (simp; done) | (simp [*]; done)), (by first | rfl | (simp; done) | (simp [*]; done)), H', ⟨Nat.le_refl _⟩, by repeat (first | exact Drawn0.refl _ | apply Drawn0.step)⟩
  case round =>
    clear H'
    try clear c2
    try clear p2
    obtain ⟨x0_1, x1_1, x7_1, rfl, rfl, rfl, HA, HK1, ⟨m1, rfl⟩⟩ := hrel
    cases gk with
    | zero => exact absurd HA.out (by simp [qrgf256_mul.l0])
    | succ k1 =>
      have H := HA.out
      clear HA
      simp only [qrgf256_mul.l0] at H
      by_cases c4 : x0_1 > 0
      · rw [if_pos c4] at H
        have c4b0 : decide (0 < x0_1) = true := decide_eq_true c4
        clear c4
        by_cases c5 : (Go.bits .and .i64 x0_1 1) = 0
        · rw [if_pos c5] at H
          have c5b0 : ((Go.bits .and .i64 x0_1 1) == 0) = true := beq_iff_eq.mpr c5
          have c5b1 : ((Go.bits .and .i64 x0_1 1) != 0) = false := bne_eq_false_iff_eq.mpr c5
          clear c5
          by_cases c6 : (Go.bits .and .i64 (wrap64 (x1_1 * 2)) 256) = 0
          · rw [if_pos c6] at H
            have c6b0 : ((Go.bits .and .i64 (wrap64 (x1_1 * 2)) 256) == 0) = true := beq_iff_eq.mpr c6
            have c6b1 : ((Go.bits .and .i64 (wrap64 (x1_1 * 2)) 256) != 0) = false := bne_eq_false_iff_eq.mpr c6
            clear c6
            have H' := Aside0.mk H
            clear H
            go_wp2
            go_roundg k1
            case measure => have := HK1.out; omega
            case rel => exact ⟨(x0_1 / 2), (wrap64 (x1_1 * 2)), (x7_1), (by first | rfl | (simp; done) | (simp [*]; done)), (by first | rfl | (simp; done) | (simp [*]; done)), (by first | rfl | (simp; done) | (simp [*]; done)), H', ⟨by have := HK1.out; omega⟩, by repeat (first | exact Drawn0.refl _ | apply Drawn0.step)⟩
          · rw [if_neg c6] at H
            have c6b0 : ((Go.bits .and .i64 (wrap64 (x1_1 * 2)) 256) == 0) = false := beq_eq_false_iff_ne.mpr c6
            have c6b1 : ((Go.bits .and .i64 (wrap64 (x1_1 * 2)) 256) != 0) = true := bne_iff_ne.mpr c6
            have H' := Aside0.mk H
            clear H
            go_wp2
            go_roundg k1
            case measure => have := HK1.out; omega
            case rel => exact ⟨(x0_1 / 2), (Go.bits .xor .i64 (wrap64 (x1_1 * 2)) a2), (x7_1), (by first | rfl | (simp; done) | (simp [*]; done)), (by first | rfl | (simp; done) | (simp [*]; done)), (by first | rfl | (simp; done) | (simp [*]; done)), H', ⟨by have := HK1.out; omega⟩, by repeat (first | exact Drawn0.refl _ | apply Drawn0.step)⟩
        · rw [if_neg c5] at H
          have c5b0 : ((Go.bits .and .i64 x0_1 1) == 0) = false := beq_eq_false_iff_ne.mpr c5
          have c5b1 : ((Go.bits .and .i64 x0_1 1) != 0) = true := bne_iff_ne.mpr c5
          by_cases c7 : (Go.bits .and .i64 (wrap64 (x1_1 * 2)) 256) = 0
          · rw [if_pos c7] at H
            have c7b0 : ((Go.bits .and .i64 (wrap64 (x1_1 * 2)) 256) == 0) = true := beq_iff_eq.mpr c7
            have c7b1 : ((Go.bits .and .i64 (wrap64 (x1_1 * 2)) 256) != 0) = false := bne_eq_false_iff_eq.mpr c7
            clear c7
            have H' := Aside0.mk H
            clear H
            go_wp2
            go_roundg k1
            case measure => have := HK1.out; omega
            case rel => exact ⟨(x0_1 / 2), (wrap64 (x1_1 * 2)), (Go.bits .xor .i64 x7_1 x1_1), (by first | rfl | (simp; done) | (simp [*]; done)), (by first | rfl | (simp; done) | (simp [*]; done)), (by first | rfl | (simp; done) | (simp [*]; done)), H', ⟨by have := HK1.out; omega⟩, by repeat (first | exact Drawn0.refl _ | apply Drawn0.step)⟩
          · rw [if_neg c7] at H
            have c7b0 : ((Go.bits .and .i64 (wrap64 (x1_1 * 2)) 256) == 0) = false := beq_eq_false_iff_ne.mpr c7
            have c7b1 : ((Go.bits .and .i64 (wrap64 (x1_1 * 2)) 256) != 0) = true := bne_iff_ne.mpr c7
            have H' := Aside0.mk H
            clear H
            go_wp2
            go_roundg k1
            case measure => have := HK1.out; omega
            case rel => exact ⟨(x0_1 / 2), (Go.bits .xor .i64 (wrap64 (x1_1 * 2)) a2), (Go.bits .xor .i64 x7_1 x1_1), (by first | rfl | (simp; done) | (simp [*]; done)), (by first | rfl | (simp; done) | (simp [*]; done)), (by first | rfl | (simp; done) | (simp [*]; done)), H', ⟨by have := HK1.out; omega⟩, by repeat (first | exact Drawn0.refl _ | apply Drawn0.step)⟩
      · rw [if_neg c4] at H
        have c4b0 : decide (0 < x0_1) = false := decide_eq_false c4
        clear c4
        obtain rfl := Option.some.inj H
        go_wp2
        go_ret
        exact ⟨by first | rfl | (simp; done) | (simp [*]; done), by repeat (first | exact Drawn0.refl _ | apply Drawn0.step)⟩










/-! ### spec_Checked: function 12 -/
mutual
def spec_Checked.l0 : Nat → List Int → Int → Int → Int → Int → Int → Option (Bool)
  | 0, _, _, _, _, _, _ => none
  | k + 1, x0, x2, x3, x9, x13, x14 => if x14 < x13 then (spec_Checked.l1 k x0 x2 x3 x9 0 x13 x14 x0 (x0.length : Int) 0) else (some true)
def spec_Checked.l1 : Nat → List Int → Int → Int → Int → Int → Int → Int → List Int → Int → Int → Option (Bool)
  | 0, _, _, _, _, _, _, _, _, _, _ => none
  | k + 1, x0, x2, x3, x9, x10, x13, x14, x16, x17, x18 => if x18 < x17 then (if 0 ≤ x18 then (if x18 < (x16.length : Int) then ((spec_Times.f k x10 x9 x3).bind fun t133 => (spec_Checked.l1 k x0 x2 x3 x9 (Go.bits .xor .i64 t133 (wrap64 (rd x16 x18))) x13 x14 x16 x17 (wrap64 (x18 + 1)))) else (none)) else (none)) else (if x10 = 0 then ((spec_Times.f k x9 x2 x3).bind fun t134 => (spec_Checked.l0 k x0 x2 x3 t134 x13 (wrap64 (x14 + 1)))) else (some false))
end
def spec_Checked.f (k : Nat) (l0 : List Int) (a1 : Int) (a2 : Int) (a3 : Int) : Option (Bool) := spec_Checked.l0 k l0 a2 a3 1 a1 0
theorem spec_Checked.mono_l : ∀ k, (∀ y0 y1 y2 y3 y4 y5, LeO (spec_Checked.l0 k y0 y1 y2 y3 y4 y5) (spec_Checked.l0 (k + 1) y0 y1 y2 y3 y4 y5)) ∧ (∀ y0 y1 y2 y3 y4 y5 y6 y7 y8 y9, LeO (spec_Checked.l1 k y0 y1 y2 y3 y4 y5 y6 y7 y8 y9) (spec_Checked.l1 (k + 1) y0 y1 y2 y3 y4 y5 y6 y7 y8 y9))
  | 0 => ⟨fun _ _ _ _ _ _ r h => by simp [spec_Checked.l0] at h, fun _ _ _ _ _ _ _ _ _ _ r h => by simp [spec_Checked.l1] at h⟩
  | k + 1 => by
    obtain ⟨ih0, ih1⟩ := spec_Checked.mono_l k
    refine ⟨?_, ?_⟩
    · intro y0 y1 y2 y3 y4 y5
      unfold spec_Checked.l0
      repeat' first
      | (with_reducible exact ih0 _ _ _ _ _ _)
      | (with_reducible exact ih1 _ _ _ _ _ _ _ _ _ _)
      | (with_reducible exact spec_Times.mono _ _ _ _)
      | (with_reducible exact LeO.refl _)
      | (with_reducible exact LeO.none _)
      | (with_reducible refine LeO.ite ?_ ?_)
      | (with_reducible refine LeO.bind ?_ (fun _ => ?_))
      | exact ih0 _ _ _ _ _ _
      | exact ih1 _ _ _ _ _ _ _ _ _ _
      | exact spec_Times.mono _ _ _ _
      | exact LeO.none _
      | refine LeO.ite ?_ ?_
      | refine LeO.bind ?_ (fun _ => ?_)
    · intro y0 y1 y2 y3 y4 y5 y6 y7 y8 y9
      unfold spec_Checked.l1
      repeat' first
      | (with_reducible exact ih0 _ _ _ _ _ _)
      | (with_reducible exact ih1 _ _ _ _ _ _ _ _ _ _)
      | (with_reducible exact spec_Times.mono _ _ _ _)
      | (with_reducible exact LeO.refl _)
      | (with_reducible exact LeO.none _)
      | (with_reducible refine LeO.ite ?_ ?_)
      | (with_reducible refine LeO.bind ?_ (fun _ => ?_))
      | exact ih0 _ _ _ _ _ _
      | exact ih1 _ _ _ _ _ _ _ _ _ _
      | exact spec_Times.mono _ _ _ _
      | exact LeO.none _
      | refine LeO.ite ?_ ?_
      | refine LeO.bind ?_ (fun _ => ?_)
theorem spec_Checked.mono : ∀ a0 a1 a2 a3 k, LeO (spec_Checked.f k a0 a1 a2 a3) (spec_Checked.f (k + 1) a0 a1 a2 a3) := by
  intro a0 a1 a2 a3 k
  obtain ⟨ih0, ih1⟩ := spec_Checked.mono_l k
  unfold spec_Checked.f
  repeat' first
      | (with_reducible exact ih0 _ _ _ _ _ _)
      | (with_reducible exact ih1 _ _ _ _ _ _ _ _ _ _)
      | (with_reducible exact spec_Times.mono _ _ _ _)
      | (with_reducible exact LeO.refl _)
      | (with_reducible exact LeO.none _)
      | (with_reducible refine LeO.ite ?_ ?_)
      | (with_reducible refine LeO.bind ?_ (fun _ => ?_))
      | exact ih0 _ _ _ _ _ _
      | exact ih1 _ _ _ _ _ _ _ _ _ _
      | exact spec_Times.mono _ _ _ _
      | exact LeO.none _
      | refine LeO.ite ?_ ?_
      | refine LeO.bind ?_ (fun _ => ?_)
set_option maxHeartbeats 8000000 in
set_option maxRecDepth 100000 in
theorem spec_Checked.calls (k : Nat) (A0 : Option Addr) (c0 : Nat) (l0 : List Int) (a1 : Int) (a2 : Int) (a3 : Int) (r : Bool) (w : World) (hr0 : Kd.C (Kd.int .u8) w A0 l0.length l0) (hc0 : l0.length ≤ c0) (h : spec_Checked.f k l0 a1 a2 a3 = some r) :
    Calls Tryd.prog 12 #[.slice A0 l0.length c0, .int .i64 a1, .int .i64 a2, .int .i64 a3] w fun e w' => e = .returned (.bool r) ∧ Drawn0 w w' := by
  have HR0 := Aside0.mk hr0
  have HC0 := Aside0.mk hc0
  clear hr0 hc0
  have H : (spec_Checked.l0 k l0 a2 a3 1 a1 0) = some r := h
  clear h
  have H' := Aside0.mk H
  clear H
  go_enter Tryd.func12, Tryd.ntmps12
  go_wp2
  go_loopg [9, 14] k (fun kq v9 v14 w' => ∃ (x9_1 : Int) (x14_1 : Int), v9 = .int .i64 x9_1 ∧ v14 = .int .i64 x14_1 ∧ Aside0 (spec_Checked.l0 kq l0 a2 a3 x9_1 a1 x14_1 = some r) ∧ Aside0 (kq ≤ k) ∧ Drawn0 w w')
  case atStart => exact ⟨(1), (0), (by first | rfl | (simp; done) | (simp [*]; done)), (by first | rfl | (simp; done) | (simp [*]; done)), H', ⟨Nat.le_refl _⟩, by repeat (first | exact Drawn0.refl _ | apply Drawn0.step)⟩
  case round =>
    clear H'
    try clear c1
    try clear p2
    obtain ⟨x9_1, x14_1, rfl, rfl, HA, HK1, ⟨m1, rfl⟩⟩ := hrel
    cases gk with
    | zero => exact absurd HA.out (by simp [spec_Checked.l0])
    | succ k1 =>
      have H := HA.out
      clear HA
      simp only [spec_Checked.l0] at H
      by_cases c5 : x14_1 < a1
      · rw [if_pos c5] at H
        have c5b0 : decide (x14_1 < a1) = true := decide_eq_true c5
        clear c5
        have H' := Aside0.mk H
        clear H
        go_wp2
        go_loopg [10, 18] k1 (fun kq v10 v18 w' => ∃ (x10_2 : Int) (x18_2 : Int), v10 = .int .i64 x10_2 ∧ v18 = .int .i64 x18_2 ∧ Aside0 (spec_Checked.l1 kq l0 a2 a3 x9_1 x10_2 a1 x14_1 l0 (l0.length : Int) x18_2 = some r) ∧ Aside0 (kq ≤ k1) ∧ Drawn0 w w')
        case atStart => exact ⟨(0), (0), (by first | rfl | (simp; done) | (simp [*]; done)), (by first | rfl | (simp; done) | (simp [*]; done)), H', ⟨Nat.le_refl _⟩, by repeat (first | exact Drawn0.refl _ | apply Drawn0.step)⟩
        case round =>
          clear H'
          try clear c1
          try clear p2
          try clear c5
          try clear c5b0
          try clear p2
          obtain ⟨x10_2, x18_2, rfl, rfl, HA, HK2, ⟨m2, rfl⟩⟩ := hrel
          cases gk with
          | zero => exact absurd HA.out (by simp [spec_Checked.l1])
          | succ k2 =>
            have H := HA.out
            clear HA
            simp only [spec_Checked.l1] at H
            by_cases c6 : x18_2 < (l0.length : Int)
            · rw [if_pos c6] at H
              have c6b0 : decide (x18_2 < (l0.length : Int)) = true := decide_eq_true c6
              clear c6
              by_cases c7 : 0 ≤ x18_2
              · rw [if_pos c7] at H
                have c7b0 : decide (0 ≤ x18_2) = true := decide_eq_true c7
                clear c7
                by_cases c8 : x18_2 < (l0.length : Int)
                · rw [if_pos c8] at H
                  have c8b0 : decide (x18_2 < (l0.length : Int)) = true := decide_eq_true c8
                  clear c8
                  replace H := Option.bind_eq_some_iff.mp H
                  obtain ⟨t133, A90, H⟩ := H
                  replace H : (spec_Checked.l1 k2 l0 a2 a3 x9_1 (Go.bits .xor .i64 t133 (wrap64 (rd l0 x18_2))) a1 x14_1 l0 (l0.length : Int) (wrap64 (x18_2 + 1))) = some r := H
                  have A9 := Aside0.mk A90
                  clear A90
                  have H' := Aside0.mk H
                  clear H
                  have p132 : 0 ≤ (x18_2 : Int) := of_decide_eq_true (by first | (with_reducible assumption) | assumption)
                  have q132 : x18_2 < (l0.length : Int) := of_decide_eq_true (by first | (with_reducible assumption) | assumption)
                  obtain ⟨ad132, e132, hx132_0⟩ := Kd.at_int HR0.out x18_2 p132 q132
                  cases e132
                  replace p132 := eq_true p132
                  replace q132 := eq_true q132
                  go_wp2_with (first | ((with_reducible refine gate_callee (f := 8) rfl ?_); refine goesL_ (some 25) rfl rfl Tryd.func8 (by kernel_rfl) rfl #[.int .i64 x10_2, .int .i64 x9_1, .int .i64 a3] rfl (by (try simp only [List.map_toArray, List.map_cons, List.map_nil]); first | done | rfl | (simp only [List.length_drop, List.length_take]; rfl)) ?_; (with_reducible refine (spec_Times.calls k2 x10_2 x9_1 a3 t133 _ A9.out).mono ?_); rintro e w' ⟨rfl, ⟨nd, rfl⟩⟩; refine ⟨_, rfl, ?_⟩))
                  go_roundg k2
                  case measure => have := HK1.out; have := HK2.out; omega
                  case rel => exact ⟨(Go.bits .xor .i64 t133 (wrap64 (rd l0 x18_2))), (wrap64 (x18_2 + 1)), (by first | rfl | (simp; done) | (simp [*]; done)), (by first | rfl | (simp; done) | (simp [*]; done)), H', ⟨by have := HK1.out; have := HK2.out; omega⟩, by repeat (first | exact Drawn0.refl _ | apply Drawn0.step)⟩
                · rw [if_neg c8] at H
                  exact absurd H (by simp)
              · rw [if_neg c7] at H
                exact absurd H (by simp)
            · rw [if_neg c6] at H
              have c6b0 : decide (x18_2 < (l0.length : Int)) = false := decide_eq_false c6
              clear c6
              by_cases c10 : x10_2 = 0
              · rw [if_pos c10] at H
                have c10b0 : (x10_2 == 0) = true := beq_iff_eq.mpr c10
                have c10b1 : (x10_2 != 0) = false := bne_eq_false_iff_eq.mpr c10
                clear c10
                replace H := Option.bind_eq_some_iff.mp H
                obtain ⟨t134, A110, H⟩ := H
                replace H : (spec_Checked.l0 k2 l0 a2 a3 t134 a1 (wrap64 (x14_1 + 1))) = some r := H
                have A11 := Aside0.mk A110
                clear A110
                have H' := Aside0.mk H
                clear H
                go_wp2_with (first | ((with_reducible refine gate_callee (f := 8) rfl ?_); refine goesL_ (some 35) rfl rfl Tryd.func8 (by kernel_rfl) rfl #[.int .i64 x9_1, .int .i64 a2, .int .i64 a3] rfl (by (try simp only [List.map_toArray, List.map_cons, List.map_nil]); first | done | rfl | (simp only [List.length_drop, List.length_take]; rfl)) ?_; (with_reducible refine (spec_Times.calls k2 x9_1 a2 a3 t134 _ A11.out).mono ?_); rintro e w' ⟨rfl, ⟨nd, rfl⟩⟩; refine ⟨_, rfl, ?_⟩))
                go_roundg k2
                case measure => have := HK1.out; have := HK2.out; omega
                case rel => exact ⟨(t134), (wrap64 (x14_1 + 1)), (by first | rfl | (simp; done) | (simp [*]; done)), (by first | rfl | (simp; done) | (simp [*]; done)), H', ⟨by have := HK1.out; have := HK2.out; omega⟩, by repeat (first | exact Drawn0.refl _ | apply Drawn0.step)⟩
              · rw [if_neg c10] at H
                have c10b0 : (x10_2 == 0) = false := beq_eq_false_iff_ne.mpr c10
                have c10b1 : (x10_2 != 0) = true := bne_iff_ne.mpr c10
                obtain rfl := Option.some.inj H
                go_wp2
                go_ret
                exact ⟨by first | rfl | (simp; done) | (simp [*]; done), by repeat (first | exact Drawn0.refl _ | apply Drawn0.step)⟩
      · rw [if_neg c5] at H
        have c5b0 : decide (x14_1 < a1) = false := decide_eq_false c5
        clear c5
        obtain rfl := Option.some.inj H
        go_wp2
        go_ret
        exact ⟨by first | rfl | (simp; done) | (simp [*]; done), by repeat (first | exact Drawn0.refl _ | apply Drawn0.step)⟩


end Go.Proofs.YtbflcmcdmdicjaaDoor.PFnCheck
