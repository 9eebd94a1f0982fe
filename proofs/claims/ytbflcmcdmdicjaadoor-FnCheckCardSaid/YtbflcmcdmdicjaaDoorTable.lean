/- Which polynomials of degree 8 make a field, reckoned by the kernel: Whole and reducible answer opposite, and where Whole says yes some element's powers are all. No condition beyond the range 256 to 511. -/
import Derived.Test.YtbflcmcdmdicjaaDoorFb
namespace Go.Proofs.YtbflcmcdmdicjaaDoor.PFnCheck
open Go.RowKit Go.Proofs.YtbflcmcdmdicjaaDoorW.PrintWords Go.Proofs.YtbflcmcdmdicjaaDoorW.PrintLast Go.Proofs.YtbflcmcdmdicjaaDoorW.PrintMore
set_option maxRecDepth 100000
/-- One polynomial's row. -/
def wholeRow (n : Nat) : Bool :=
  match spec_Whole.f 3000 ((256 + n : Nat) : Int) with
  | some true => (match qrgf256_reducible.f 400 ((256 + n : Nat) : Int) with | some b => !b | none => false) &&
      ((List.range 254).any fun g => match spec_Makes.f 265 ((g + 2 : Nat) : Int) ((256 + n : Nat) : Int) with | some b => b | none => false)
  | some false => true
  | none => false
theorem row0 : ((List.range 32).all fun n => wholeRow n) = true := by decide +kernel
theorem row1 : ((List.range 32).all fun n => wholeRow (32 + n)) = true := by decide +kernel
theorem row2 : ((List.range 32).all fun n => wholeRow (64 + n)) = true := by decide +kernel
theorem row3 : ((List.range 32).all fun n => wholeRow (96 + n)) = true := by decide +kernel
theorem row4 : ((List.range 32).all fun n => wholeRow (128 + n)) = true := by decide +kernel
theorem row5 : ((List.range 32).all fun n => wholeRow (160 + n)) = true := by decide +kernel
theorem row6 : ((List.range 32).all fun n => wholeRow (192 + n)) = true := by decide +kernel
theorem row7 : ((List.range 32).all fun n => wholeRow (224 + n)) = true := by decide +kernel
theorem whole283 : spec_Whole.f 3000 283 = some true := by decide +kernel
theorem row_all (n : Nat) (h : n < 256) : wholeRow n = true := by
  have get : ∀ b, ((List.range 32).all fun m => wholeRow (b + m)) = true → b ≤ n → n < b + 32 → wholeRow n = true := by
    intro b hb h1 h2
    have := List.all_eq_true.1 hb (n - b) (List.mem_range.2 (by omega))
    rwa [show b + (n - b) = n from by omega] at this
  have r0 : ((List.range 32).all fun m => wholeRow (0 + m)) = true := by simpa using row0
  by_cases h0 : n < 32
  · exact get 0 r0 (by omega) (by omega)
  by_cases h1 : n < 64
  · exact get 32 row1 (by omega) (by omega)
  by_cases h2 : n < 96
  · exact get 64 row2 (by omega) (by omega)
  by_cases h3 : n < 128
  · exact get 96 row3 (by omega) (by omega)
  by_cases h4 : n < 160
  · exact get 128 row4 (by omega) (by omega)
  by_cases h5 : n < 192
  · exact get 160 row5 (by omega) (by omega)
  by_cases h6 : n < 224
  · exact get 192 row6 (by omega) (by omega)
  exact get 224 row7 (by omega) (by omega)
theorem whole_or (P : Nat) (h1 : 256 ≤ P) (h2 : P < 512) : spec_Whole.f 3000 P = some false ∨
    (spec_Whole.f 3000 P = some true ∧ qrgf256_reducible.f 400 P = some false ∧ ∃ g : Nat, 2 ≤ g ∧ g < 256 ∧ spec_Makes.f 265 g P = some true) := by
  have h := row_all (P - 256) (by omega)
  unfold wholeRow at h
  rw [show 256 + (P - 256) = P from by omega] at h
  cases hw : spec_Whole.f 3000 P with
  | none => rw [hw] at h; cases h
  | some b =>
    cases b with
    | false => exact .inl rfl
    | true =>
      right
      rw [hw] at h
      simp only [Bool.and_eq_true, List.any_eq_true] at h
      obtain ⟨h3, g, hg, h4⟩ := h
      refine ⟨rfl, ?_, g + 2, by omega, by have := List.mem_range.1 hg; omega, ?_⟩
      · cases hr : qrgf256_reducible.f 400 P with
        | none => rw [hr] at h3; cases h3
        | some b => rw [hr] at h3; cases b with
          | false => rfl
          | true => cases h3
      · cases hm : spec_Makes.f 265 ((g + 2 : Nat) : Int) P with
        | none => rw [hm] at h4; cases h4
        | some b => rw [hm] at h4; cases b with
          | true => rfl
          | false => cases h4
end Go.Proofs.YtbflcmcdmdicjaaDoor.PFnCheck
