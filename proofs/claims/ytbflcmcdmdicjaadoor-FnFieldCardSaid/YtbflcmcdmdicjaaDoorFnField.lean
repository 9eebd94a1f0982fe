/-
  The law FnField returns true for every input, and every argument reads behind the call as it read before: in the field of a polynomial that makes one and an element whose powers are all of it, sums, products, powers, logarithms and inverses are those of polynomials.
  Conditions: none beside the row's own (the listed tables of math/bits and strconv start as the program's text lays them: the tied card). The frame of the row's step began as the print of proof-skeleton.mjs.
-/
import Derived.Test.YtbflcmcdmdicjaaDoorRows
import Derived.Test.YtbflcmcdmdicjaaDoorSums
import Derived.WalkKit
import Derived.ProofKit
import Derived.OpenShut
import Derived.LaidMore
import Derived.Stop.Joined
import Derived.SevenTiedAt
import Derived.Test.YtbflcmcdmdicjaaDoorCards
import Derived.Test.YtbflcmcdmdicjaaDoorTie
import Derived.ShutString
namespace Go.Proofs.YtbflcmcdmdicjaaDoor.fnField
open Go.Proofs.YtbflcmcdmdicjaaDoorW.PrintWords Go.Proofs.YtbflcmcdmdicjaaDoorW.PrintLast Go.Proofs.YtbflcmcdmdicjaaDoorW.PrintMore
open Go.Proofs.YtbflcmcdmdicjaaDoor.Gf Go.Proofs.YtbflcmcdmdicjaaDoor.PFnCheck
open Go.ChangeShapes Go.WideShapes Go.ChangeAt Go.RowKit
open Go.ChangeMaps (open_string shut_string)
set_option linter.unusedVariables false      -- a walk need not use every 'w<i>' (that an integer argument fits its kind)

theorem own : ownKnob Tryd.prog.godebug = none := by kernel_rfl

/-! ### STEP 1: THE WALK -/
theorem byte_wf {a : Int} (h : (Lit.int .u8 a).wf = true) : ∃ n : Nat, a = n ∧ n < 256 := by
  simp [Lit.wf, IntKind.min, IntKind.max, IntKind.bits, IntKind.signed] at h
  exact ⟨a.toNat, by omega, by omega⟩
theorem i64_wf {a : Int} (h : (Lit.int .i64 a).wf = true) : -9223372036854775808 ≤ a ∧ a ≤ 9223372036854775807 := by
  simp [Lit.wf, IntKind.min, IntKind.max, IntKind.bits, IntKind.signed] at h
  omega
set_option maxHeartbeats 2000000 in
set_option maxRecDepth 100000 in
theorem walk_zero (a0 a1 a4 : Int) (k P A n x y : Nat) (hf : laws_field.f k a0 a1 = some ((P : Int), (A : Int))) (g : Gen P A) (hr : qrgf256_reducible.f 400 P = some false)
    (hb : laws_below.f a4 600 = some (n : Int)) (hn : n < 600) (hx : x < 256) (hy : y < 256) (hz : x = 0) (w : World) :
    Calls Tryd.prog 3 #[.int .i64 a0, .int .i64 a1, .int .u8 x, .int .u8 y, .int .i64 a4] w fun e w' => e = .returned (.bool true) ∧ Below w.heap.size w w' := by
  have t1 : ((x : Int) == 0) = true := beq_iff_eq.2 (by omega)
  have tl : (logOf P A x == -1) = true := by unfold logOf; rw [if_pos hz]; rfl
  have ti : (((invOf P A x : Nat) : Int) == 0) = true := by unfold invOf; rw [if_pos hz]; rfl
  clear hz
  have HG := Lib.hid g
  have HR := Lib.hid hr
  have HF := Lib.hid hf
  have HN := Lib.hid hb
  have hxor : bits BinOp.xor IntKind.u8 x y = ((x ^^^ y : Nat) : Int) := u8_xor_nat x y hx hy
  have HT := Lib.hid (times_f g.lo g.hi hx hy 9 (Nat.le_refl _))
  have HE := Lib.hid (power_f g.lo g.hi g.a256 n (by omega))
  have bT := tm_lt g.lo g.hi hx y
  have bE := g.lt n
  clear g hr hf hb
  go_enter Tryd.func3, Tryd.ntmps3
  go_wp2_with fail
  refine (laws_field.calls k a0 a1 _ _ _ HF.out).mono ?_
  rintro e w1 ⟨rfl, hB1⟩
  have HB1 := Lib.hid hB1
  clear hB1
  go_wp2_with fail
  refine (laws_below.calls a4 600 _ _ HN.out).mono ?_
  rintro e w2 ⟨rfl, hB2⟩
  have HB2 := Lib.hid hB2
  clear hB2
  go_wp2_with fail
  refine (sums_calls HG.out HR.out x y n hx hy (by omega) _).mono ?_
  rintro e w3 ⟨rfl, hB3⟩
  have HB3 := Lib.hid hB3
  clear hB3
  have HB : Hid (Below w.heap.size w w3) := (HB1.out.trans (HB2.out.mono HB1.out.size)).trans (HB3.out.mono (Nat.le_trans HB1.out.size HB2.out.size))
  clear HB1 HB2 HB3
  generalize x ^^^ y = z at hxor ⊢
  generalize tm P x y = T at HT bT ⊢
  generalize pw P A n = E at HE bE ⊢
  generalize logOf P A x = L at tl ⊢
  generalize invOf P A x = I at ti ⊢
  go_wp2_with fail
  refine (spec_Times.calls 9 x y P T _ HT.out).mono ?_
  rintro e w' ⟨rfl, ⟨n1, rfl⟩⟩
  go_wp2_with fail
  refine (spec_Power.calls _ A n P E _ HE.out).mono ?_
  rintro e w' ⟨rfl, ⟨n2, rfl⟩⟩
  go_wp2
  go_ret
  exact ⟨rfl, below_drewN' HB.out _⟩
set_option maxHeartbeats 2000000 in
set_option maxRecDepth 100000 in
theorem walk_more (a0 a1 a4 : Int) (k P A n x y : Nat) (hf : laws_field.f k a0 a1 = some ((P : Int), (A : Int))) (g : Gen P A) (hr : qrgf256_reducible.f 400 P = some false)
    (hb : laws_below.f a4 600 = some (n : Int)) (hn : n < 600) (hx : x < 256) (hy : y < 256) (hz : 0 < x) (w : World) :
    Calls Tryd.prog 3 #[.int .i64 a0, .int .i64 a1, .int .u8 x, .int .u8 y, .int .i64 a4] w fun e w' => e = .returned (.bool true) ∧ Below w.heap.size w w' := by
  have t1 : ((x : Int) == 0) = false := beq_eq_false_iff_ne.2 (by omega)
  have el : logOf P A x = (lg P A x : Nat) := by unfold logOf; rw [if_neg (by omega)]
  have ei : invOf P A x = pw P A (255 - lg P A x) := by unfold invOf; rw [if_neg (by omega)]
  have HI := Lib.hid (times_f g.lo g.hi hx (g.lt (255 - lg P A x)) 9 (Nat.le_refl _))
  have hi : tm P x (pw P A (255 - lg P A x)) = 1 := g.inv_lg hz hx
  have hl := (g.pw_lg hz hx).2
  have HL := Lib.hid (power_f g.lo g.hi g.a256 (lg P A x) (by omega))
  have hlx := (g.pw_lg hz hx).1
  have hi256 := g.lt (255 - lg P A x)
  rw [hi] at HI
  rw [hlx] at HL
  rw [← ei] at HI hi256
  clear hi hlx
  have HEL := Lib.hid el
  clear el ei
  have HG := Lib.hid g
  have HR := Lib.hid hr
  have HF := Lib.hid hf
  have HN := Lib.hid hb
  have hxor : bits BinOp.xor IntKind.u8 x y = ((x ^^^ y : Nat) : Int) := u8_xor_nat x y hx hy
  have HT := Lib.hid (times_f g.lo g.hi hx hy 9 (Nat.le_refl _))
  have HE := Lib.hid (power_f g.lo g.hi g.a256 n (by omega))
  have bT := tm_lt g.lo g.hi hx y
  have bE := g.lt n
  clear g hr hf hb
  go_enter Tryd.func3, Tryd.ntmps3
  go_wp2_with fail
  refine (laws_field.calls k a0 a1 _ _ _ HF.out).mono ?_
  rintro e w1 ⟨rfl, hB1⟩
  have HB1 := Lib.hid hB1
  clear hB1
  go_wp2_with fail
  refine (laws_below.calls a4 600 _ _ HN.out).mono ?_
  rintro e w2 ⟨rfl, hB2⟩
  have HB2 := Lib.hid hB2
  clear hB2
  go_wp2_with fail
  refine (sums_calls HG.out HR.out x y n hx hy (by omega) _).mono ?_
  rintro e w3 ⟨rfl, hB3⟩
  have HB3 := Lib.hid hB3
  clear hB3
  have HB : Hid (Below w.heap.size w w3) := (HB1.out.trans (HB2.out.mono HB1.out.size)).trans (HB3.out.mono (Nat.le_trans HB1.out.size HB2.out.size))
  clear HB1 HB2 HB3
  generalize x ^^^ y = z at hxor ⊢
  generalize tm P x y = T at HT bT ⊢
  generalize pw P A n = E at HE bE ⊢
  rw [HEL.out]
  clear HEL
  generalize lg P A x = l at hl HL ⊢
  generalize invOf P A x = I at HI hi256 ⊢
  go_wp2_with fail
  refine (spec_Times.calls 9 x y P T _ HT.out).mono ?_
  rintro e w' ⟨rfl, ⟨n1, rfl⟩⟩
  go_wp2_with fail
  refine (spec_Power.calls _ A n P E _ HE.out).mono ?_
  rintro e w' ⟨rfl, ⟨n2, rfl⟩⟩
  go_wp2_with fail
  refine (spec_Power.calls _ A l P x _ HL.out).mono ?_
  rintro e w' ⟨rfl, ⟨n3, rfl⟩⟩
  go_wp2_with fail
  refine (spec_Times.calls 9 x I P _ _ HI.out).mono ?_
  rintro e w' ⟨rfl, ⟨n4, rfl⟩⟩
  go_wp2
  go_ret
  exact ⟨rfl, below_drewN' HB.out _⟩
theorem walk (a0 : Int) (a1 : Int) (a2 : Int) (a3 : Int) (a4 : Int) (w0 : (Lit.int .i64 a0).wf = true) (w1 : (Lit.int .i64 a1).wf = true) (w2 : (Lit.int .u8 a2).wf = true) (w3 : (Lit.int .u8 a3).wf = true) (w4 : (Lit.int .i64 a4).wf = true) (w : World) :
    Calls Tryd.prog 3 #[.int .i64 a0, .int .i64 a1, .int .u8 a2, .int .u8 a3, .int .i64 a4] w fun e w' => e = .returned (.bool true) ∧ Below w.heap.size w w' := by
  obtain ⟨x, rfl, hx⟩ := byte_wf w2
  obtain ⟨y, rfl, hy⟩ := byte_wf w3
  obtain ⟨k, P, A, hf, g, hr⟩ := field_f a0 a1 (i64_wf w0).1 (i64_wf w0).2 (i64_wf w1).1 (i64_wf w1).2
  obtain ⟨n, hb, hn⟩ := below_f a4 600 (by decide) (i64_wf w4).1 (i64_wf w4).2
  by_cases hz : x = 0
  · exact walk_zero a0 a1 a4 k P A n x y hf g hr hb hn hx hy hz w
  · exact walk_more a0 a1 a4 k P A n x y hf g hr hb hn hx hy (by omega) w

/-! ### THE ROW's STEP (by proof-skeleton.mjs, turned to a row that lists variables) -/
def laid3 : List (String × DataW Unit) := [("math/bits.deBruijn32tab", Rows.laid_math_bits_deBruijn32tab), ("math/bits.deBruijn64tab", Rows.laid_math_bits_deBruijn64tab), ("internal/strconv.uint64pow10", Rows.laid_internal_strconv_uint64pow10)]
set_option maxRecDepth 100000 in
/-- The door's own heap meets the condition. -/
theorem door_met (os : Os) (args : Array Value) : laidMetH Tryd.prog laid3 ((World.doorLaid Tryd.prog 32 os).forCall (fun _ _ => 0) ⟨#[], args, []⟩).memory :=
  laidMetH_of_parts3 (fuel := 8) (laidMet_of_run' 8 (by kernel_rfl) (by kernel_rfl)) (by kernel_rfl) (by kernel_rfl)
set_option maxRecDepth 100000 in
theorem lifted (os : Os) (started : os.Started) (H : Type) (enc : TypeId × Value → H) :
    ReturnsInHanded {} Tryd.checked os 3 .any (fun w args => (Rows.fnFieldSpec.pre enc Tryd.prog Tryd.f3 [] false w args ∧ laidMetH Tryd.prog laid3 w) ∧ sizedMet enc Tryd.prog Tryd.f3 (OpenSpec.ofChange Rows.fnFieldSpec) false w args)
      (Rows.fnFieldSpec.post enc Tryd.prog Tryd.f3 false true false false) := by
  refine returnsInHanded_of_change_and (C := Tryd.checked) (X := fun w _ => laidMetH Tryd.prog laid3 w) (fun _ _ _ hh h => h.of_heap hh) own started (by kernel_rfl) Tryd.func3
    (ChangeSpec.witness_shaped (enc := enc) (C := Tryd.checked) (os := os) (X := fun w _ => laidMetH Tryd.prog laid3 w) false (World.doorLaid Tryd.prog 32 os) #[.int .i64 0, .int .i64 0, .int .u8 0, .int .u8 0, .int .i64 0] 8 rfl (World.shaped_of_RefB (by kernel_rfl) (by kernel_rfl)) (by kernel_rfl) (by kernel_rfl) (by kernel_rfl) (door_met os _)) ?_
  intro W base args ds gs before hval0 hW _ _ _ _
  have hval : ∀ (j : Nat) t v, Tryd.f3.params[j]? = some t → args[j]? = some v → Value.okWide Tryd.prog W .any base t v := hval0
  have hW' := hW
  obtain ⟨p, q, hA0, hV, rfl, hfz, hnd⟩ := hW
  have hA : DataW.TrodAll enc Tryd.prog W 0 (fun _ => true) true Tryd.f3.params.toList args.toList ds p := hA0
  rw [Tryd.params3] at hA hval
  obtain ⟨v0, vs0, d0, ds0, p0, q0, hargs, rfl, rfl, h0, r0⟩ := trodAll_cons hA
  obtain ⟨v1, vs1, d1, ds1, p1, q1, rfl, rfl, rfl, h1, r1⟩ := trodAll_cons r0
  obtain ⟨v2, vs2, d2, ds2, p2, q2, rfl, rfl, rfl, h2, r2⟩ := trodAll_cons r1
  obtain ⟨v3, vs3, d3, ds3, p3, q3, rfl, rfl, rfl, h3, r3⟩ := trodAll_cons r2
  obtain ⟨v4, vs4, d4, ds4, p4, q4, rfl, rfl, rfl, h4, r4⟩ := trodAll_cons r3
  obtain ⟨rfl, rfl, rfl⟩ := trodAll_nil r4
  obtain rfl : args = #[v0, v1, v2, v3, v4] := by cases args; simp_all
  obtain ⟨rfl, rfl⟩ := trodVars_none hV
  obtain ⟨a0, rfl, rfl, rfl, w0⟩ := open_int Tryd.underlying3 (hval 0 3 v0 rfl rfl) h0
  obtain ⟨a1, rfl, rfl, rfl, w1⟩ := open_int Tryd.underlying3 (hval 1 3 v1 rfl rfl) h1
  obtain ⟨a2, rfl, rfl, rfl, w2⟩ := open_int Tryd.underlying5 (hval 2 5 v2 rfl rfl) h2
  obtain ⟨a3, rfl, rfl, rfl, w3⟩ := open_int Tryd.underlying5 (hval 3 5 v3 rfl rfl) h3
  obtain ⟨a4, rfl, rfl, rfl, w4⟩ := open_int Tryd.underlying3 (hval 4 3 v4 rfl rfl) h4
  clear hA0 hval0
  simp only [List.append_nil] at hW'
  refine (walk a0 a1 a2 a3 a4 w0 w1 w2 w3 w4 W).mono fun e W' ⟨he, hg⟩ => ?_
  subst he
  exact ⟨_, rfl, _, _, _, [], [], [], hW', trodAll_mk1 (shut_bool Tryd.underlying4 _), (trodAll_cons_mk (shut_int Tryd.underlying3 w0) (trodAll_cons_mk (shut_int Tryd.underlying3 w1) (trodAll_cons_mk (shut_int Tryd.underlying5 w2) (trodAll_cons_mk (shut_int Tryd.underlying5 w3) (trodAll_cons_mk (shut_int Tryd.underlying3 w4) trodAll_mk0))))), rfl, hg.frame _, fun h => by cases h⟩

theorem over : Rows.fnFieldRow.holds Tryd.pinned (OpenSpec.ofChange Rows.fnFieldSpec) :=
  OpenClaim.holds_of_wide 3 Tryd.f3 rfl rfl rfl rfl rfl rfl rfl ⟨rfl, rfl, rfl, rfl, rfl⟩ rfl rfl rfl rfl rfl (by kernel_rfl) Tryd.func3 (by kernel_rfl)
    (of_decide_eq_true (by kernel_rfl)) (by unfold Func.isWrapper; first | (rw [if_pos (by decide +kernel)]; kernel_rfl) | (rw [if_neg (by decide +kernel)]; exact ⟨rfl, rfl⟩))
    (fun os started H enc _ => lifted os started H enc)

/-- The row. -/
theorem proved : Rows.FnFieldSaid :=
  over
/-- THE TIED CARD: THE STATEMENT. -/
theorem card_holds : Rows.FnFieldCardSaid :=
  Claim7.holds_tied_plain_at .later [] [.data, .data, .data] true (true, "edc56a7176b2b8dbacf83988ea42e63e056ee165082d416e975fe45a093c1e3b") false
    proved (fun _ h => by cases h) (by kernel_rfl) (fun _ h => by cases h) fnField_row_tie rfl ⟨rfl, rfl⟩ (by kernel_rfl) rfl
    (fun f fn hf hfn => by
      obtain rfl : f = 3 := Option.some.inj ((show Tryd.prog.funcNamed "codesofdots/laws.FnField" = some 3 by kernel_rfl).symm.trans hf) |>.symm
      obtain rfl : fn = Tryd.f3 := (Option.some.inj (Tryd.func3.symm.trans hfn)).symm
      exact ⟨by kernel_rfl, fun j t ht => by
        rw [Tryd.params3] at ht
        have hm : t ∈ [3, 5] := by have hm0 := Array.mem_of_getElem? ht; simp at hm0; rcases hm0 with h | h | h <;> simp [h]
        have hall : ([3, 5].all fun u => !Tryd.prog.wantsStandIn u) = true := by kernel_rfl
        exact (show Tryd.prog.wantsStandIn t = false by simpa using List.all_eq_true.1 hall t hm)⟩)
    (by kernel_rfl)
#print axioms card_holds
end Go.Proofs.YtbflcmcdmdicjaaDoor.fnField
