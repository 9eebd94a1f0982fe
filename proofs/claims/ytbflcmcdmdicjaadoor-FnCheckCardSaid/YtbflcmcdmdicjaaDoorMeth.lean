/- The field's methods: sum, product, power, logarithm, inverse, off the tables that NewField made. Conditions: the tables stand; the operands are bytes. -/
import Derived.Test.YtbflcmcdmdicjaaDoorNewf
import Derived.Laws.BitsAllLaws
namespace Go.Proofs.YtbflcmcdmdicjaaDoor.PFnCheck
open Go.RowKit Go.Proofs.YtbflcmcdmdicjaaDoorW.PrintWords Go.Proofs.YtbflcmcdmdicjaaDoorW.PrintLast Go.Proofs.YtbflcmcdmdicjaaDoorW.PrintMore
open Go.Proofs.YtbflcmcdmdicjaaDoor.Gf
theorem ret_int {k : IntKind} {a b : Int} (h : a = b) : Ending.returned (.int k a) = .returned (.int k b) := by rw [h]
theorem add_calls (v : Value) (x y : Nat) (hx : x < 256) (hy : y < 256) (w : World) :
    Calls Tryd.prog 16 #[v, .int .u8 x, .int .u8 y] w fun e w' => e = .returned (.int .u8 (x ^^^ y : Nat)) ∧ Drawn0 w w' := by
  have hb := u8_xor_nat x y hx hy
  go_enter Tryd.func16, Tryd.ntmps16
  go_wp2
  go_ret
  exact ⟨rfl, Drawn0.refl _⟩
/-- The product off the tables. -/
def mulOf (P A x y : Nat) : Nat := if x = 0 ∨ y = 0 then 0 else pw P A (lg P A x + lg P A y)
theorem mulOf_tm {P A : Nat} (g : Gen P A) {x y : Nat} (hx : x < 256) (hy : y < 256) : mulOf P A x y = tm P x y := by
  unfold mulOf
  split
  · rename_i h
    rcases h with rfl | rfl
    · rw [tm_zero_left g.lo g.hi]
    · rw [tm_zero g.lo g.hi hx]
  · rename_i h
    exact g.mul_lg (by omega) hx (by omega) hy
set_option maxRecDepth 100000 in
theorem mul_calls {P A b : Nat} (g : Gen P A) (x y : Nat) (hx : x < 256) (hy : y < 256) (w : World) (ht : Tab w b P A) :
    Calls Tryd.prog 17 #[.pointer (some ⟨b, 0, none⟩), .int .u8 x, .int .u8 y] w fun e w' => e = .returned (.int .u8 (tm P x y : Nat)) ∧ Drawn0 w w' := by
  by_cases h0 : x = 0
  · subst h0
    rw [tm_zero_left g.lo g.hi]
    clear ht
    go_enter Tryd.func17, Tryd.ntmps17
    go_wp2
    go_ret
    exact ⟨rfl, Drawn0.refl _⟩
  · by_cases k0 : y = 0
    · subst k0
      rw [tm_zero g.lo g.hi hx]
      have t1 : ((x : Int) == 0) = false := beq_eq_false_iff_ne.2 (by omega)
      clear ht
      go_enter Tryd.func17, Tryd.ntmps17
      go_wp2
      go_ret
      exact ⟨rfl, Drawn0.refl _⟩
    · have t1 : ((x : Int) == 0) = false := beq_eq_false_iff_ne.2 (by omega)
      have t2 : ((y : Int) == 0) = false := beq_eq_false_iff_ne.2 (by omega)
      have f3 := ht.exp (lg P A x + lg P A y) (by have := (g.pw_lg (x := x) (by omega) hx).2; have := (g.pw_lg (x := y) (by omega) hy).2; omega)
      rw [g.mul_lg (by omega) hx (by omega) hy] at f3
      have f1 := ht.log x (by omega) hx
      have f2 := ht.log y (by omega) hy
      have b1 := (g.pw_lg (x := x) (by omega) hx).2
      have b2 := (g.pw_lg (x := y) (by omega) hy).2
      generalize lg P A x = u at f1 f3 b1
      generalize lg P A y = v at f2 f3 b2
      generalize tm P x y = r at f3 ⊢
      clear ht g
      go_enter Tryd.func17, Tryd.ntmps17
      go_wp2
      go_quiet (fail)
      go_wp2
      go_ret
      exact ⟨rfl, ⟨⟨_, rfl⟩⟩⟩
set_option maxRecDepth 100000 in
theorem exp_calls {P A b : Nat} (g : Gen P A) (n : Nat) (hn : n < 1000000) (w : World) (ht : Tab w b P A) :
    Calls Tryd.prog 18 #[.pointer (some ⟨b, 0, none⟩), .int .i64 n] w fun e w' => e = .returned (.int .u8 (pw P A n : Nat)) ∧ Drawn0 w w' := by
  have f := ht.exp (n % 255) (by omega)
  rw [g.mod] at f
  generalize pw P A n = r at f ⊢
  have e1 : ((n : Int) % 255).toNat = n % 255 := by omega
  clear ht g
  go_enter Tryd.func18, Tryd.ntmps18
  go_wp2
  go_ret
  exact ⟨rfl, Drawn0.refl _⟩
set_option maxRecDepth 100000 in
theorem log_zero (v : Value) (w : World) :
    Calls Tryd.prog 19 #[v, .int .u8 0] w fun e w' => e = .returned (.int .i64 (-1)) ∧ Drawn0 w w' := by
  go_enter Tryd.func19, Tryd.ntmps19
  go_wp2
  go_ret
  exact ⟨rfl, Drawn0.refl _⟩
set_option maxRecDepth 100000 in
theorem log_calls {P A b : Nat} (x : Nat) (h0 : 0 < x) (hx : x < 256) (w : World) (ht : Tab w b P A) (hl : lg P A x < 255) :
    Calls Tryd.prog 19 #[.pointer (some ⟨b, 0, none⟩), .int .u8 x] w fun e w' => e = .returned (.int .i64 (lg P A x : Nat)) ∧ Drawn0 w w' := by
  have t1 : ((x : Int) == 0) = false := beq_eq_false_iff_ne.2 (by omega)
  have f := ht.log x h0 hx
  generalize lg P A x = r at f hl ⊢
  clear ht
  go_enter Tryd.func19, Tryd.ntmps19
  go_wp2
  go_ret
  exact ⟨rfl, Drawn0.refl _⟩
set_option maxRecDepth 100000 in
theorem inv_zero (v : Value) (w : World) :
    Calls Tryd.prog 20 #[v, .int .u8 0] w fun e w' => e = .returned (.int .u8 0) ∧ Drawn0 w w' := by
  go_enter Tryd.func20, Tryd.ntmps20
  go_wp2
  go_ret
  exact ⟨rfl, Drawn0.refl _⟩
set_option maxRecDepth 100000 in
theorem inv_calls {P A b : Nat} (x : Nat) (h0 : 0 < x) (hx : x < 256) (w : World) (ht : Tab w b P A) (hl : lg P A x < 255) :
    Calls Tryd.prog 20 #[.pointer (some ⟨b, 0, none⟩), .int .u8 x] w fun e w' => e = .returned (.int .u8 (pw P A (255 - lg P A x) : Nat)) ∧ Drawn0 w w' := by
  have t1 : ((x : Int) == 0) = false := beq_eq_false_iff_ne.2 (by omega)
  have f := ht.log x h0 hx
  have f2 := ht.exp (255 - lg P A x) (by omega)
  generalize lg P A x = r at f f2 hl ⊢
  generalize pw P A (255 - r) = z at f2 ⊢
  have e1 : (255 - (r : Int)).toNat = 255 - r := by omega
  clear ht
  go_enter Tryd.func20, Tryd.ntmps20
  go_wp2
  go_quiet (fail)
  go_wp2
  go_ret
  exact ⟨rfl, ⟨⟨_, rfl⟩⟩⟩
end Go.Proofs.YtbflcmcdmdicjaaDoor.PFnCheck
