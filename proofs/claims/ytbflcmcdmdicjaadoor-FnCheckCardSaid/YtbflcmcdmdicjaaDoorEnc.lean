/- NewRSEncoder lays an encoder over the logarithms that gen made. Conditions: the tables stand; from 1 to 1000 bytes. -/
import Derived.Test.YtbflcmcdmdicjaaDoorGen
namespace Go.Proofs.YtbflcmcdmdicjaaDoor.PFnCheck
open Go.RowKit Go.Proofs.YtbflcmcdmdicjaaDoorW.PrintWords Go.Proofs.YtbflcmcdmdicjaaDoorW.PrintLast Go.Proofs.YtbflcmcdmdicjaaDoorW.PrintMore
open Go.Proofs.YtbflcmcdmdicjaaDoor.Gf
set_option linter.unusedVariables false
/-- An encoder at block r: its field, its number of bytes, its logarithms, no row kept. -/
structure Encd (w : World) (r b g2 e : Nat) : Prop where
  c0 : w.cell? ⟨r, 0, none⟩ = some (.pointer (some ⟨b, 0, none⟩))
  c1 : w.cell? ⟨r, 1, none⟩ = some (.int .i64 e)
  c3 : w.cell? ⟨r, 3, none⟩ = some (.slice (some ⟨g2, 0, none⟩) (e + 1) (e + 1))
  c4 : w.cell? ⟨r, 4, none⟩ = some (.slice none 0 0)
  fr : w.frozen? ⟨r, 4, none⟩ = false
/-- What NewRSEncoder leaves. -/
def EncMade (P A b e : Nat) (w : World) (en : Ending) (w' : World) : Prop :=
  ∃ r g2 : Nat, en = .returned (.pointer (some ⟨r, 0, none⟩)) ∧ w.heap.size ≤ r ∧ r < w'.heap.size ∧ w.heap.size ≤ g2 ∧ g2 ≠ r ∧ Encd w' r b g2 e ∧ Row w' g2 (e + 1) (lgp P A e) ∧ Below w.heap.size w w'
set_option maxHeartbeats 1000000 in
set_option maxRecDepth 100000 in
theorem enc_calls {P A b : Nat} (g : Gen P A) (e : Nat) (he : 1 ≤ e) (he' : e ≤ 1000) (w : World) (ht : Tab w b P A) (hb : b < w.heap.size) :
    Calls Tryd.prog 21 #[.pointer (some ⟨b, 0, none⟩), .int .i64 e] w (EncMade P A b e w) := by
  have HG := Lib.hid g
  have HT := Lib.hid ht
  clear g ht
  go_enter Tryd.func21, Tryd.ntmps21
  go_wp2_with fail
  refine (gen_calls HG.out e he he' _ HT.out hb).mono ?_
  rintro en w1 ⟨g1, g2, rfl, hg2, hr, hB⟩
  have HR := Lib.hid hr
  have HB := Lib.hid hB
  clear hr hB
  go_wp2
  go_ret
  have hlt := HB.out.size
  refine ⟨w1.heap.size, g2, rfl, hlt, by simp, hg2, Nat.ne_of_lt HR.out.lt, ?_, HR.out.alloc _, HB.out.alloc hlt _⟩
  refine ⟨?_, ?_, ?_, ?_, ?_⟩ <;> simp
end Go.Proofs.YtbflcmcdmdicjaaDoor.PFnCheck
