/- impl.Sums comes to the sum, the product, the power, the logarithm and the inverse. Conditions: the polynomial makes a field, the element's powers are all; the operands are bytes; the exponent is from 0 to 999999. -/
import Derived.Test.YtbflcmcdmdicjaaDoorMeth
namespace Go.Proofs.YtbflcmcdmdicjaaDoor.PFnCheck
open Go.RowKit Go.Proofs.YtbflcmcdmdicjaaDoorW.PrintWords Go.Proofs.YtbflcmcdmdicjaaDoorW.PrintLast Go.Proofs.YtbflcmcdmdicjaaDoorW.PrintMore
open Go.Proofs.YtbflcmcdmdicjaaDoor.Gf
def logOf (P A x : Nat) : Int := if x = 0 then -1 else (lg P A x : Nat)
def invOf (P A x : Nat) : Nat := if x = 0 then 0 else pw P A (255 - lg P A x)
theorem Tab.drewN {w : World} {b P A : Nat} (h : Tab w b P A) (n : Nat) : Tab (w.drewN n) b P A := ⟨h.exp, h.log, h.log0⟩
theorem log_any {P A b : Nat} (g : Gen P A) (x : Nat) (hx : x < 256) (w : World) (ht : Tab w b P A) :
    Calls Tryd.prog 19 #[.pointer (some ⟨b, 0, none⟩), .int .u8 x] w fun e w' => e = .returned (.int .i64 (logOf P A x)) ∧ Drawn0 w w' := by
  by_cases h : x = 0
  · subst h; exact log_zero _ w
  · unfold logOf; rw [if_neg h]; exact log_calls x (by omega) hx w ht (g.pw_lg (by omega) hx).2
theorem inv_any {P A b : Nat} (g : Gen P A) (x : Nat) (hx : x < 256) (w : World) (ht : Tab w b P A) :
    Calls Tryd.prog 20 #[.pointer (some ⟨b, 0, none⟩), .int .u8 x] w fun e w' => e = .returned (.int .u8 (invOf P A x : Nat)) ∧ Drawn0 w w' := by
  by_cases h : x = 0
  · subst h; exact inv_zero _ w
  · unfold invOf; rw [if_neg h]; exact inv_calls x (by omega) hx w ht (g.pw_lg (by omega) hx).2
set_option maxHeartbeats 1000000 in
set_option maxRecDepth 100000 in
theorem sums_calls {P A : Nat} (g : Gen P A) (hr : qrgf256_reducible.f 400 P = some false) (x y n : Nat) (hx : x < 256) (hy : y < 256) (hn : n < 1000000) (w : World) :
    Calls Tryd.prog 7 #[.int .i64 P, .int .i64 A, .int .u8 x, .int .u8 y, .int .i64 n] w fun e w' =>
      e = .returned (.tuple #[.int .u8 (x ^^^ y : Nat), .int .u8 (tm P x y : Nat), .int .u8 (pw P A n : Nat), .int .i64 (logOf P A x), .int .u8 (invOf P A x : Nat)]) ∧ Below w.heap.size w w' := by
  have HG := Lib.hid g
  have HR := Lib.hid hr
  clear g hr
  go_enter Tryd.func7, Tryd.ntmps7
  go_wp2_with fail
  refine (newField_calls P A HG.out HR.out _).mono ?_
  rintro e w1 ⟨b, rfl, hb1, hb2, ht, hB⟩
  have HT := Lib.hid ht
  have HB := Lib.hid hB
  clear ht hB hb1 hb2
  go_wp2_with fail
  refine (add_calls _ x y hx hy _).mono ?_
  rintro e w' ⟨rfl, ⟨n1, rfl⟩⟩
  go_wp2_with fail
  refine (mul_calls HG.out x y hx hy _ (HT.out.drewN n1)).mono ?_
  rintro e w' ⟨rfl, ⟨n2, rfl⟩⟩
  go_wp2_with fail
  refine (exp_calls HG.out n hn _ (HT.out.drewN _)).mono ?_
  rintro e w' ⟨rfl, ⟨n3, rfl⟩⟩
  go_wp2_with fail
  refine (log_any HG.out x hx _ (HT.out.drewN _)).mono ?_
  rintro e w' ⟨rfl, ⟨n4, rfl⟩⟩
  go_wp2_with fail
  refine (inv_any HG.out x hx _ (HT.out.drewN _)).mono ?_
  rintro e w' ⟨rfl, ⟨n5, rfl⟩⟩
  go_wp2
  exact bodyPost_ret (v := .tuple #[.int .u8 (x ^^^ y : Nat), .int .u8 (tm P x y : Nat), .int .u8 (pw P A n : Nat), .int .i64 (logOf P A x), .int .u8 (invOf P A x : Nat)]) (by simp [results, Tryd.results7, go_sem]) rfl ⟨rfl, below_drewN' HB.out _⟩
end Go.Proofs.YtbflcmcdmdicjaaDoor.PFnCheck
