/- NewField makes the tables of powers and of logarithms. Condition: the polynomial makes a field, the element's powers are all. -/
import Derived.Test.YtbflcmcdmdicjaaDoorFld
import Derived.Lib.Hide
import Derived.WalkSpells
import Derived.WalkLawsBesides
namespace Go.Proofs.YtbflcmcdmdicjaaDoor.PFnCheck
open Go.RowKit Go.Proofs.YtbflcmcdmdicjaaDoorW.PrintWords Go.Proofs.YtbflcmcdmdicjaaDoorW.PrintLast Go.Proofs.YtbflcmcdmdicjaaDoorW.PrintMore
open Go.Proofs.YtbflcmcdmdicjaaDoor.Gf
/-- The tables of a field: powers and logarithms. -/
structure Tab (w : World) (b P A : Nat) : Prop where
  exp : ∀ i, i < 510 → w.cell? ⟨b, 256 + i, none⟩ = some (.int .u8 (pw P A i : Nat))
  log : ∀ x, 0 < x → x < 256 → w.cell? ⟨b, x, none⟩ = some (.int .u8 (lg P A x : Nat))
  log0 : w.cell? ⟨b, 0, none⟩ = some (.int .u8 255)
/-- What NewField leaves. -/
def Made (P A : Nat) (w : World) (e : Ending) (w' : World) : Prop :=
  ∃ b : Nat, e = .returned (.pointer (some ⟨b, 0, none⟩)) ∧ w.heap.size ≤ b ∧ b < w'.heap.size ∧ Tab w' b P A ∧ Below w.heap.size w w'
def zeros766 : Array Value := Array.replicate 766 (.int .u8 0)
theorem zeros766_at (j : Nat) (h : j < 766) : zeros766[j]? = some (.int .u8 0) := by unfold zeros766; simp [h]
/-- The tables half made. -/
structure Part (w : World) (b P A i : Nat) : Prop where
  e1 : ∀ j, j < i → w.cell? ⟨b, 256 + j, none⟩ = some (.int .u8 (pw P A j : Nat))
  e2 : ∀ j, j < i → w.cell? ⟨b, 256 + (j + 255), none⟩ = some (.int .u8 (pw P A j : Nat))
  l1 : ∀ j, j < i → w.cell? ⟨b, pw P A j, none⟩ = some (.int .u8 (j : Nat))
  all : ∀ j, j < 766 → ∃ v, w.cell? ⟨b, j, none⟩ = some v
  fr : ∀ j, w.frozen? ⟨b, j, none⟩ = false
theorem set_same {w : World} {a : Addr} {u v : Value} (h : w.cell? a = some u) : (w.setCell a v).cell? a = some v := World.cell?_setCell_same _ _ _ h
theorem set_other {w : World} {b i j : Nat} {v : Value} (h : i ≠ j) : (w.setCell ⟨b, i, none⟩ v).cell? ⟨b, j, none⟩ = w.cell? ⟨b, j, none⟩ :=
  World.cell?_setCell_other _ _ _ _ (fun e => h (by injection e))
theorem set_ex {w : World} {b i j : Nat} {v : Value} (h : ∃ u, w.cell? ⟨b, j, none⟩ = some u) : ∃ u, (w.setCell ⟨b, i, none⟩ v).cell? ⟨b, j, none⟩ = some u := by
  obtain ⟨u, hu⟩ := h
  exact cell?_setCell_some hu
theorem Part.step {w : World} {b P A k x : Nat} (g : Gen P A) (hp : Part w b P A k) (hk : k < 255) (hx : pw P A k = x) :
    Part (((w.setCell ⟨b, 256 + k, none⟩ (.int .u8 (x : Nat))).setCell ⟨b, 256 + (k + 255), none⟩ (.int .u8 (x : Nat))).setCell ⟨b, x, none⟩ (.int .u8 (k : Nat))) b P A (k + 1) := by
  subst hx
  have hl := g.lt k
  obtain ⟨v1, h1⟩ := hp.all (256 + k) (by omega)
  obtain ⟨v2, h2⟩ := hp.all (256 + (k + 255)) (by omega)
  obtain ⟨v3, h3⟩ := hp.all (pw P A k) (by omega)
  refine ⟨fun j hj => ?_, fun j hj => ?_, fun j hj => ?_, fun j hj => set_ex (set_ex (set_ex (hp.all j hj))), fun j => by simp [hp.fr]⟩
  · rw [set_other (by omega), set_other (by omega)]
    by_cases h : j = k
    · subst h; exact set_same h1
    · rw [set_other (by omega)]; exact hp.e1 j (by omega)
  · rw [set_other (by omega)]
    by_cases h : j = k
    · subst h; exact set_same ((set_other (by omega)).trans h2)
    · rw [set_other (by omega), set_other (by omega)]; exact hp.e2 j (by omega)
  · have hj' := g.lt j
    by_cases h : j = k
    · subst h; exact set_same ((set_other (by omega)).trans ((set_other (by omega)).trans h3))
    · rw [set_other (fun e => h (g.inj' (by omega) (by omega) e.symm)), set_other (by omega), set_other (by omega)]; exact hp.l1 j (by omega)
theorem Part.tab {w : World} {b P A : Nat} (g : Gen P A) (hp : Part w b P A 255) : Tab (w.setCell ⟨b, 0, none⟩ (.int .u8 255)) b P A := by
  obtain ⟨v, hv⟩ := hp.all 0 (by omega)
  refine ⟨fun i hi => ?_, fun x h0 hx => ?_, set_same hv⟩
  · rw [set_other (by omega)]
    by_cases h : i < 255
    · exact hp.e1 i h
    · have := hp.e2 (i - 255) (by omega)
      rw [show i - 255 + 255 = i from by omega] at this
      rw [this, ← g.add255 (i - 255), show i - 255 + 255 = i from by omega]
  · rw [set_other (by omega)]
    obtain ⟨h1, h2⟩ := g.pw_lg h0 hx
    have := hp.l1 (lg P A x) h2
    rwa [h1] at this
theorem Part.start (w : World) (nd P A : Nat) : Part ((w.drewN nd).alloc (.cells zeros766 50)) w.heap.size P A 0 := by
  refine ⟨fun j h => absurd h (by omega), fun j h => absurd h (by omega), fun j h => absurd h (by omega), fun j h => ⟨.int .u8 0, ?_⟩, fun j => ?_⟩
  · show ((w.drewN nd).alloc (.cells zeros766 50)).cell? ⟨(w.drewN nd).heap.size, j, none⟩ = _
    rw [World.cell?_alloc_new]; exact zeros766_at j h
  · show ((w.drewN nd).alloc (.cells zeros766 50)).frozen? ⟨(w.drewN nd).heap.size, j, none⟩ = _
    rw [World.frozen?_alloc_new]
theorem below_drewN' {B : Nat} {a w : World} (h : Below B a w) (n : Nat) : Below B a (w.drewN n) := ⟨h.os, h.tape, h.output, h.size, h.block⟩
theorem Made.mk' {P A : Nat} {w wr : World} (ht : Tab wr w.heap.size P A) (hb : Below w.heap.size w wr) (hs : w.heap.size < wr.heap.size) : Made P A w (.returned (.pointer (some ⟨w.heap.size, 0, none⟩))) wr :=
  ⟨_, rfl, Nat.le_refl _, hs, ht, hb⟩
set_option maxHeartbeats 2000000 in
set_option maxRecDepth 100000 in
theorem newField_calls (P A : Nat) (g : Gen P A) (hr : qrgf256_reducible.f 400 P = some false) (w : World) :
    Calls Tryd.prog 15 #[.int .i64 P, .int .i64 A] w (Made P A w) := by
  have c1 : decide ((P : Int) < 256) = false := by have := g.lo; simp; omega
  have c2 : decide ((P : Int) ≥ 512) = false := by have := g.hi; simp; omega
  have h1 := g.lo
  have h2 := g.hi
  have h3 := g.a256
  have HG := Lib.hid g
  have HR := Lib.hid hr
  clear g hr
  have hz : ∀ w : World, (zeroValue 50).run Tryd.prog w = .ok (.agg zeros766) w := fun _ => by kernel_rfl
  go_enter Tryd.func15, Tryd.ntmps15
  go_wp2_with (go_at_call 23; refine (qrgf256_reducible.calls 400 P false _ HR.out).mono ?_; rintro e w' ⟨rfl, ⟨nd, rfl⟩⟩)
  go_loopw [6, 7] (fun x i wr => ∃ k x0 : Nat, k ≤ 255 ∧ x0 < 256 ∧ i = .int .i64 k ∧ x = .int .i64 x0 ∧ Hid (pw P A k = x0) ∧ Part wr w.heap.size P A k ∧ Below w.heap.size w wr ∧ w.heap.size < wr.heap.size) (fun _ i _ => 255 - (intOf i).toNat)
  case atStart => exact ⟨0, 1, by omega, by omega, rfl, rfl, rfl, Part.start w nd P A, (below_drewN' (Below.refl _ _) nd).alloc (Nat.le_refl _) _, by simp⟩
  case round =>
    obtain ⟨k, x, hk, hx, rfl, rfl, HX, hp, hb, hs⟩ := hrel
    have HP := Lib.hid hp
    have HB := Lib.hid hb
    clear hp hb hz
    by_cases hlt : k < 255
    · have t1 : ((x : Int) == 1) = false ∨ (((k : Int) != 0) = false ∧ ((x : Int) == 1) = true) := by
        by_cases h0 : k = 0
        · right
          subst h0
          have : 1 = x := HX.out
          subst this
          exact ⟨rfl, rfl⟩
        · left
          have := HG.out.part k (by omega) hlt
          rw [HX.out] at this
          exact beq_eq_false_iff_ne.2 (by omega)
      obtain ⟨v1, f1⟩ := HP.out.all (256 + k) (by omega)
      obtain ⟨v2, f2⟩ := HP.out.all (256 + (k + 255)) (by omega)
      obtain ⟨v3, f3⟩ := HP.out.all x (by omega)
      have fr := HP.out.fr
      have n1 : ¬ 256 + k = x := by omega
      have n2 : ¬ 256 + (k + 255) = x := by omega
      have n3 : ¬ 256 + k = 256 + (k + 255) := by omega
      rcases t1 with t1 | ⟨t1, t2⟩
      · go_wp2_with (go_at_call 25; refine (qrgf256_mul.calls 9 x A P _ _ (mul_f h1 h2 hx h3)).mono ?_; rintro e w' ⟨rfl, ⟨nd2, rfl⟩⟩)
        go_roundw
        case rel => exact ⟨k + 1, tm P x A, by omega, tm_lt h1 h2 hx _, by go_num, rfl, by show tm P (pw P A k) A = _; rw [HX.out], (by have := HP.out.step HG.out hlt HX.out; exact ⟨this.e1, this.e2, this.l1, this.all, this.fr⟩), below_drewN' (((HB.out.setCell (by simp) _).setCell (by simp) _).setCell (by simp) _) nd2, by simpa using hs⟩
        case measure => simp [intOf]; omega
      · go_wp2_with (go_at_call 25; refine (qrgf256_mul.calls 9 x A P _ _ (mul_f h1 h2 hx h3)).mono ?_; rintro e w' ⟨rfl, ⟨nd2, rfl⟩⟩)
        go_roundw
        case rel => exact ⟨k + 1, tm P x A, by omega, tm_lt h1 h2 hx _, by go_num, rfl, by show tm P (pw P A k) A = _; rw [HX.out], (by have := HP.out.step HG.out hlt HX.out; exact ⟨this.e1, this.e2, this.l1, this.all, this.fr⟩), below_drewN' (((HB.out.setCell (by simp) _).setCell (by simp) _).setCell (by simp) _) nd2, by simpa using hs⟩
        case measure => simp [intOf]; omega
    · obtain rfl : k = 255 := by omega
      obtain ⟨v1, f1⟩ := HP.out.all 0 (by omega)
      have fr := HP.out.fr
      go_wp2
      go_loopw [8] (fun i wr => ∃ k : Nat, k ≤ 255 ∧ i = .int .i64 k ∧ Tab wr w.heap.size P A ∧ Below w.heap.size w wr ∧ w.heap.size < wr.heap.size) (fun i _ => 255 - (intOf i).toNat)
      case atStart => exact ⟨0, by omega, rfl, HP.out.tab HG.out, HB.out.setCell (by simp) _, by simpa using hs⟩
      case round =>
        clear f1 fr hs HP HB
        obtain ⟨k, hk, rfl, ht, hb, hs⟩ := hrel
        have HT := Lib.hid ht
        have HB := Lib.hid hb
        clear ht hb
        by_cases hlt : k < 255
        · obtain ⟨y, HY⟩ : ∃ y, Hid (pw P A k = y) := ⟨_, rfl⟩
          have hy : y < 256 := by have := HG.out.lt k; rw [HY.out] at this; exact this
          have f1 : wr.cell? ⟨w.heap.size, 256 + k, none⟩ = some (.int .u8 y) := by rw [← HY.out]; exact HT.out.exp k (by omega)
          have f2 : wr.cell? ⟨w.heap.size, 256 + (k + 255), none⟩ = some (.int .u8 y) := by
            have := HT.out.exp (k + 255) (by omega)
            rw [HG.out.add255, HY.out] at this
            exact this
          have f3 : wr.cell? ⟨w.heap.size, y, none⟩ = some (.int .u8 k) := by
            have h0 : 0 < y := by have := HG.out.ne_zero k; rw [HY.out] at this; omega
            have := HT.out.log y h0 hy
            rw [← HY.out, HG.out.lg_pw hlt, HY.out] at this
            exact this
          go_wp2
          go_roundw
          case rel => exact ⟨k + 1, by omega, by go_num, HT.out, HB.out, hs⟩
          case measure => simp [intOf]; omega
        · go_wp2
          go_loopw [9] (fun i wr => ∃ k : Nat, 1 ≤ k ∧ k ≤ 256 ∧ i = .int .i64 k ∧ Tab wr w.heap.size P A ∧ Below w.heap.size w wr ∧ w.heap.size < wr.heap.size) (fun i _ => 256 - (intOf i).toNat)
          case atStart => exact ⟨1, by omega, by omega, rfl, HT.out, HB.out, hs⟩
          case round =>
            clear hs HT HB hk hlt
            obtain ⟨k, hk0, hk, rfl, ht, hb, hs⟩ := hrel
            have HT := Lib.hid ht
            have HB := Lib.hid hb
            clear ht hb
            by_cases hlt : k < 256
            · obtain ⟨y, HY⟩ : ∃ y, Hid (lg P A k = y) := ⟨_, rfl⟩
              have hy : y < 255 := by have := (HG.out.pw_lg hk0 hlt).2; rw [HY.out] at this; exact this
              have f1 : wr.cell? ⟨w.heap.size, k, none⟩ = some (.int .u8 y) := by rw [← HY.out]; exact HT.out.log k (by omega) hlt
              have f2 : wr.cell? ⟨w.heap.size, 256 + y, none⟩ = some (.int .u8 k) := by
                have := HT.out.exp y (by omega)
                rw [← HY.out, (HG.out.pw_lg hk0 hlt).1, HY.out] at this
                exact this
              go_wp2
              go_roundw
              case rel => exact ⟨k + 1, by omega, by omega, by go_num, HT.out, HB.out, hs⟩
              case measure => simp [intOf]; omega
            · go_wp2
              go_ret
              exact Made.mk' HT.out HB.out hs
end Go.Proofs.YtbflcmcdmdicjaaDoor.PFnCheck
