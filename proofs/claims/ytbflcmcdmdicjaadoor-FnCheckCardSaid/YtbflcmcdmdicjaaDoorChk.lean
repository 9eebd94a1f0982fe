/- impl.Check hands back the bytes for correction; slices.Clone hands back the bytes in new memory. Conditions: the polynomial makes a field, the element's powers are all; the data are bytes that are read; from 1 to 1000 of each. -/
import Derived.Test.YtbflcmcdmdicjaaDoorEcc
import Derived.Deep.AppendLies
import Derived.WalkSpells
namespace Go.Proofs.YtbflcmcdmdicjaaDoor.PFnCheck
open Go.RowKit Go.Proofs.YtbflcmcdmdicjaaDoorW.PrintWords Go.Proofs.YtbflcmcdmdicjaaDoorW.PrintLast Go.Proofs.YtbflcmcdmdicjaaDoorW.PrintMore
open Go.Proofs.YtbflcmcdmdicjaaDoor.Gf
set_option linter.unusedVariables false
/-- What impl.Check leaves. -/
def CheckMade (P A len n : Nat) (d : Nat → Nat) (w : World) (en : Ending) (w' : World) : Prop :=
  ∃ cb : Nat, en = .returned (.slice (some ⟨cb, 0, none⟩) n n) ∧ w.heap.size ≤ cb ∧ Row w' cb n (chk P A d len n) ∧ Below w.heap.size w w'
theorem cell_below {w w' : World} {B : Nat} (hb : Below B w w') {p : Addr} {v : Value} (hp : p.block < B) (h : w.cell? p = some v) : w'.cell? p = some v := (hb.cell hp).trans h
set_option maxHeartbeats 2000000 in
set_option maxRecDepth 100000 in
theorem check_calls {P A db dof len cap n : Nat} {d : Nat → Nat} (g : Gen P A) (hr : qrgf256_reducible.f 400 P = some false) (hn : 1 ≤ n) (hn' : n ≤ 1000) (hl : 1 ≤ len) (hl' : len ≤ 1000) (hd : ∀ j, d j < 256) (w : World)
    (hdat : ∀ j, j < len → w.cell? ⟨db, dof + j, none⟩ = some (.int .u8 (d j : Nat))) :
    Calls Tryd.prog 10 #[.int .i64 P, .int .i64 A, .slice (some ⟨db, dof, none⟩) len cap, .int .i64 n] w (CheckMade P A len n d w) := by
  have HG := Lib.hid g
  have HRD := Lib.hid hr
  have HD := Lib.hid hd
  have HDAT := Lib.hid hdat
  clear g hr hd hdat
  have hmk := run_mk n n rfl (by omega)
  go_enter Tryd.func10, Tryd.ntmps10
  go_wp2_with fail
  refine (newField_calls P A HG.out HRD.out _).mono ?_
  rintro en w1 ⟨b, rfl, hb1, hb2, ht, hB⟩
  have HT := Lib.hid ht
  have HB1 := Lib.hid hB
  have hb1' : w.heap.size + 1 ≤ b := by simpa using hb1
  clear ht hB hmk hb1
  go_wp2_with fail
  refine (enc_calls HG.out n hn hn' _ HT.out hb2).mono ?_
  rintro en w2 ⟨r, g2, rfl, hr1, hr2, hg1, hg2, hen, hlg, hB⟩
  have HEN := Lib.hid hen
  have HLG := Lib.hid hlg
  have HB2 := Lib.hid hB
  have HNE := Lib.hid hg2
  clear hen hlg hB hg2
  have hz1 : w.heap.size + 1 ≤ w1.heap.size := by have := HB1.out.size; simpa using this
  have HCK : Hid (Row w2 w.heap.size n (fun _ => 0)) := ((row_made w n).below HB1.out (by simp)).below HB2.out (by omega)
  have HBw : Hid (Below w.heap.size w w1) := ((Below.refl _ w).alloc (Nat.le_refl _) _).trans (HB1.out.mono (by simp))
  have HBw2 : Hid (Below w.heap.size w w2) := HBw.out.trans (HB2.out.mono (by omega))
  have HDAT2 : Hid (∀ j, j < len → w2.cell? ⟨db, dof + j, none⟩ = some (.int .u8 (d j : Nat))) := fun j hj => by
    have h := HDAT.out j hj
    exact cell_below HBw2.out (lt_of_cell h) h
  have HTW : Hid (Tab w2 b P A) := HT.out.below HB2.out hb2
  go_wp2_with fail
  refine (ecc_calls HG.out hn hn' hl hl' HD.out w.heap.size _ HTW.out HEN.out HLG.out HDAT2.out HCK.out (by omega) (by omega) (Nat.le_refl _)).mono ?_
  rintro en w3 ⟨rfl, hrow, hB⟩
  have HROW := Lib.hid hrow
  have HB3 := Lib.hid hB
  clear hrow hB
  go_wp2
  go_ret
  exact ⟨w.heap.size, rfl, Nat.le_refl _, HROW.out, HBw2.out.trans HB3.out⟩
/-- What Clone leaves. -/
def CloneMade (len : Nat) (d : Nat → Nat) (w : World) (en : Ending) (w' : World) : Prop :=
  ∃ g cap : Nat, en = .returned (.slice (some ⟨g, 0, none⟩) len cap) ∧ w'.ownsRow w.heap.size 5 1 (.slice (some ⟨g, 0, none⟩) len cap) len (rowL len d) ∧ Below w.heap.size w w'
set_option maxHeartbeats 2000000 in
set_option maxRecDepth 100000 in
theorem clone_calls {db dof len cap : Nat} {d : Nat → Nat} (hl : 1 ≤ len) (hl' : len ≤ 1000) (w : World)
    (hdat : ∀ j, j < len → w.cell? ⟨db, dof + j, none⟩ = some (.int .u8 (d j : Nat))) :
    Calls Tryd.prog 11 #[.slice (some ⟨db, dof, none⟩) len cap] w (CloneMade len d w) := by
  have HDAT := Lib.hid hdat
  clear hdat
  have q : ∀ (w : World) (a : Option Addr) (n c n' c' : Nat), (binOp .eql 29 (.slice a n c) (.slice none n' c')).run Tryd.prog w = .ok (.bool a.isNone) w := fun w a n c n' c' => Lib.run_eql_slice_nil w _ _ a n c n' c' Tryd.underlying29
  obtain ⟨i0, hi, hz0, hz1, hz2⟩ := info_parts info5
  go_enter Tryd.func11, Tryd.ntmps11
  go_wp2_with (at_builtin; refine wpList_append_own _ rfl _ _ 29 rfl w.heap.size 5 i0 (.int .u8 0) 1 1 Tryd.underlying29 hi hz0 hz1 hz2 rfl (by decide) _ _ _ rfl (World.ownsRow_made w #[] 0 (Nat.le_refl _) (Nat.zero_le _) rfl) ⟨db, dof, none⟩ len cap (rowL len d) rfl ?qc1 ?qc2 ?qc3 ?qc4 ?qc5 ?qc6 ?_)
  case qc1 => rw [rowL_len]; omega
  case qc2 =>
    intro j u hj
    rw [rowL_get] at hj
    by_cases hjl : j < len
    · rw [if_pos hjl] at hj
      have h := HDAT.out j hjl
      rw [← Option.some.inj hj, show (⟨db, dof, none⟩ : Addr).add j = ⟨db, dof + j, none⟩ from by simp [Addr.add], World.cell?_alloc_lt _ _ _ (lt_of_cell h)]
      exact h
    · rw [if_neg hjl] at hj; cases hj
  case qc3 => exact rowL_one _ _
  case qc4 => unfold maxLen; omega
  case qc5 => omega
  case qc6 => simp
  intro v' w1 hown hgrow hnil
  have hown2 : w1.ownsRow w.heap.size 5 1 v' len (rowL len d) := by simpa using hown
  have HOWN := Lib.hid hown2
  have HB : Hid (Below w.heap.size w w1) := ((Below.refl _ w).alloc (Nat.le_refl _) _).grown hgrow (by simp) (by intro k hk; simp [Value.ownBlock] at hk; omega)
  clear hown hown2 hgrow hnil q
  go_wp2
  go_ret
  obtain ⟨g, cap', hv⟩ : ∃ g cap', v' = .slice (some ⟨g, 0, none⟩) len cap' := by
    rcases HOWN.out.2 with ⟨_, h⟩ | ⟨g, cap', cur, h, _⟩
    · omega
    · exact ⟨g, cap', h⟩
  refine ⟨g, cap', by rw [hv]; rfl, ?_, HB.out⟩
  rw [← hv]
  exact HOWN.out
end Go.Proofs.YtbflcmcdmdicjaaDoor.PFnCheck
