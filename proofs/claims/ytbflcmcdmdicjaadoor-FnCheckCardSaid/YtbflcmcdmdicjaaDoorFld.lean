/- The search for a field always ends, with a polynomial that makes one and an element whose powers are all. Condition: both numbers are int64. -/
import Derived.Test.YtbflcmcdmdicjaaDoorNum
import Derived.Test.YtbflcmcdmdicjaaDoorTable
namespace Go.Proofs.YtbflcmcdmdicjaaDoor.PFnCheck
set_option maxRecDepth 10000
open Go.RowKit Go.Proofs.YtbflcmcdmdicjaaDoorW.PrintWords Go.Proofs.YtbflcmcdmdicjaaDoorW.PrintLast Go.Proofs.YtbflcmcdmdicjaaDoorW.PrintMore
open Go.Proofs.YtbflcmcdmdicjaaDoor.Gf

theorem more {α : Type} (f : Nat → Option α) (h : ∀ k r, f k = some r → f (k + 1) = some r) {k m : Nat} (hk : k ≤ m) {r : α} (e : f k = some r) : f m = some r := by
  obtain ⟨d, rfl⟩ : ∃ d, m = k + d := ⟨m - k, by omega⟩
  clear hk
  induction d with
  | zero => exact e
  | succ d ih => exact h _ _ ih

theorem l1_step (P g : Nat) (h1 : 256 ≤ P) (h2 : P < 512) (hm : spec_Makes.f 265 g P = some true) (k A : Nat) (ha : 2 ≤ A) (ha' : A < 256) (hk : 265 ≤ k) :
    (laws_field.l1 (k + 1) P A = some ((P : Int), (A : Int)) ∧ Gen P A) ∨ (A ≠ g ∧ laws_field.l1 (k + 1) P A = laws_field.l1 k P ((if A = 255 then 2 else A + 1 : Nat) : Int)) := by
  obtain ⟨r, hr, hG⟩ := makes_f h1 h2 ha ha' k hk
  simp only [laws_field.l1]
  rw [hr]
  simp only [Option.bind_some]
  cases r with
  | true => exact .inl ⟨by simp, hG rfl⟩
  | false =>
    right
    have hne : A ≠ g := by
      rintro rfl
      have := more (fun k => spec_Makes.f k A P) (fun k r h => spec_Makes.mono _ _ k r h) hk hm
      rw [this] at hr
      cases hr
    rw [if_neg (by simp)]
    have en : wrap64 (2 + Int.tmod (wrap64 ((A : Int) - 1)) 254) = ((if A = 255 then 2 else A + 1 : Nat) : Int) := by
      rw [wr ((A : Int) - 1) (by omega) (by omega), show ((A : Int) - 1) = ((A - 1 : Nat) : Int) from by omega]
      have : Int.tmod ((A - 1 : Nat) : Int) 254 = ((A - 1) % 254 : Nat) := rfl
      rw [this, wr _ (by omega) (by omega)]
      split <;> omega
    rw [en]
    exact ⟨hne, rfl⟩
theorem field_l1 (P g : Nat) (h1 : 256 ≤ P) (h2 : P < 512) (hg : 2 ≤ g) (hg' : g < 256) (hm : spec_Makes.f 265 g P = some true) (d : Nat) :
    ∀ (k A : Nat), 2 ≤ A → A < 256 → (A ≤ g → d = g - A) → (g < A → d = g + 254 - A) → d + 265 ≤ k → ∃ A' : Nat, laws_field.l1 (k + 1) P A = some ((P : Int), (A' : Int)) ∧ Gen P A' := by
  induction d with
  | zero =>
    intro k A ha ha' e1 e2 hk
    rcases l1_step P g h1 h2 hm k A ha ha' (by omega) with h | ⟨h, _⟩
    · exact ⟨A, h⟩
    · exact absurd (e1 (by omega)) (by omega)
  | succ d ih =>
    intro k A ha ha' e1 e2 hk
    rcases l1_step P g h1 h2 hm k A ha ha' (by omega) with h | ⟨h, hn⟩
    · exact ⟨A, h⟩
    · rw [hn]
      obtain ⟨k, rfl⟩ : ∃ m, k = m + 1 := ⟨k - 1, by omega⟩
      refine ih k _ ?_ ?_ ?_ ?_ (by omega) <;> split <;> omega
theorem l0_step (k P A : Nat) (hp : 256 ≤ P) (hp' : P < 512) (ha : 2 ≤ A) (ha' : A < 256) (hk : 4000 ≤ k) :
    (∃ A' : Nat, laws_field.l0 (k + 1) P A = some ((P : Int), (A' : Int)) ∧ Gen P A' ∧ qrgf256_reducible.f 400 P = some false) ∨
    (P ≠ 283 ∧ laws_field.l0 (k + 1) P A = laws_field.l0 k ((if P = 511 then 256 else P + 1 : Nat) : Int) A) := by
  simp only [laws_field.l0]
  rcases whole_or P hp hp' with hw | ⟨hw, hr, g, hg, hg', hm⟩
  · right
    have hne : P ≠ 283 := by
      rintro rfl
      have h3 : spec_Whole.f 3000 ((283 : Nat) : Int) = some true := whole283
      rw [h3] at hw
      cases hw
    have hw2 : spec_Whole.f k P = some false := more (fun k => spec_Whole.f k P) (fun k r h => spec_Whole.mono _ k r h) (show 3000 ≤ k by omega) hw
    rw [hw2]
    simp only [Option.bind_some]
    rw [if_neg (by simp)]
    have en : wrap64 (256 + Int.tmod (wrap64 ((P : Int) + 1)) 256) = ((if P = 511 then 256 else P + 1 : Nat) : Int) := by
      rw [wr ((P : Int) + 1) (by omega) (by omega), show ((P : Int) + 1) = ((P + 1 : Nat) : Int) from by omega]
      have : Int.tmod ((P + 1 : Nat) : Int) 256 = ((P + 1) % 256 : Nat) := rfl
      rw [this, wr _ (by omega) (by omega)]
      split <;> omega
    rw [en]
    exact ⟨hne, rfl⟩
  · left
    have hw2 : spec_Whole.f k P = some true := more (fun k => spec_Whole.f k P) (fun k r h => spec_Whole.mono _ k r h) (show 3000 ≤ k by omega) hw
    rw [hw2]
    simp only [Option.bind_some]
    rw [if_pos (by simp)]
    obtain ⟨k, rfl⟩ : ∃ m, k = m + 1 := ⟨k - 1, by omega⟩
    obtain ⟨A', h3, h4⟩ := field_l1 P g hp hp' hg hg' hm (if A ≤ g then g - A else g + 254 - A) k A ha ha' (fun h => by rw [if_pos h]) (fun h => by rw [if_neg (by omega)]) (by split <;> omega)
    exact ⟨A', h3, h4, hr⟩
theorem field_l0 (d : Nat) : ∀ (k P A : Nat), 256 ≤ P → P < 512 → 2 ≤ A → A < 256 → (P ≤ 283 → d = 283 - P) → (283 < P → d = 283 + 256 - P) → d + 4000 ≤ k →
    ∃ P' A' : Nat, laws_field.l0 (k + 1) P A = some ((P' : Int), (A' : Int)) ∧ Gen P' A' ∧ qrgf256_reducible.f 400 P' = some false := by
  induction d with
  | zero =>
    intro k P A hp hp' ha ha' e1 e2 hk
    rcases l0_step k P A hp hp' ha ha' (by omega) with ⟨A', h⟩ | ⟨h, _⟩
    · exact ⟨P, A', h⟩
    · exact absurd (e1 (by omega)) (by omega)
  | succ d ih =>
    intro k P A hp hp' ha ha' e1 e2 hk
    rcases l0_step k P A hp hp' ha ha' (by omega) with ⟨A', h⟩ | ⟨h, hn⟩
    · exact ⟨P, A', h⟩
    · rw [hn]
      obtain ⟨k, rfl⟩ : ∃ m, k = m + 1 := ⟨k - 1, by omega⟩
      refine ih k _ A ?_ ?_ ha ha' ?_ ?_ (by omega) <;> split <;> omega
theorem field_k (a0 a1 : Int) (h1 : -9223372036854775808 ≤ a0) (h2 : a0 ≤ 9223372036854775807) (h3 : -9223372036854775808 ≤ a1) (h4 : a1 ≤ 9223372036854775807) (k : Nat) (hk : 4300 ≤ k) :
    ∃ P A : Nat, laws_field.f (k + 1) a0 a1 = some ((P : Int), (A : Int)) ∧ Gen P A ∧ qrgf256_reducible.f 400 P = some false := by
  obtain ⟨r, hr, hr'⟩ := below_f a0 256 (by decide) h1 h2
  obtain ⟨s, hs, hs'⟩ := below_f a1 254 (by decide) h3 h4
  have hr2 : laws_below.f a0 256 = some (r : Int) := hr
  have hs2 : laws_below.f a1 254 = some (s : Int) := hs
  unfold laws_field.f
  rw [hr2, hs2]
  simp only [Option.bind_some]
  rw [show wrap64 (256 + (r : Int)) = ((256 + r : Nat) : Int) from by rw [wr _ (by omega) (by omega)]; omega, show wrap64 (2 + (s : Int)) = ((2 + s : Nat) : Int) from by rw [wr _ (by omega) (by omega)]; omega]
  exact field_l0 (if 256 + r ≤ 283 then 283 - (256 + r) else 283 + 256 - (256 + r)) k (256 + r) (2 + s) (by omega) (by omega) (by omega) (by omega) (fun h => by rw [if_pos h]) (fun h => by rw [if_neg (by omega)]) (by split <;> omega)
theorem field_f (a0 a1 : Int) (h1 : -9223372036854775808 ≤ a0) (h2 : a0 ≤ 9223372036854775807) (h3 : -9223372036854775808 ≤ a1) (h4 : a1 ≤ 9223372036854775807) :
    ∃ k P A : Nat, laws_field.f k a0 a1 = some ((P : Int), (A : Int)) ∧ Gen P A ∧ qrgf256_reducible.f 400 P = some false := by
  obtain ⟨k, hk⟩ : ∃ k, 4300 ≤ k := ⟨4300, Nat.le_refl _⟩
  obtain ⟨P, A, h⟩ := field_k a0 a1 h1 h2 h3 h4 k hk
  exact ⟨k + 1, P, A, h⟩
end Go.Proofs.YtbflcmcdmdicjaaDoor.PFnCheck
