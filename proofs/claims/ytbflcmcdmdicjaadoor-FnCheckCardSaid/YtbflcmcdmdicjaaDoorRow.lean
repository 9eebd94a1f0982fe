/- A row of bytes that the call itself made, known whole; and the check of data with their bytes for correction. Conditions stand in each theorem. -/
import Derived.Test.YtbflcmcdmdicjaaDoorSums
import Derived.Test.YtbflcmcdmdicjaaDoorRs
import Derived.Laws.CopyOwn
namespace Go.Proofs.YtbflcmcdmdicjaaDoor.PFnCheck
open Go.RowKit Go.Proofs.YtbflcmcdmdicjaaDoorW.PrintWords Go.Proofs.YtbflcmcdmdicjaaDoorW.PrintLast Go.Proofs.YtbflcmcdmdicjaaDoorW.PrintMore
open Go.Proofs.YtbflcmcdmdicjaaDoor.Gf
set_option linter.unusedVariables false
/-- A byte as a value. -/
def B8 (n : Nat) : Value := .int .u8 (n : Nat)
/-- The cells of a row of n bytes. -/
def rowL (n : Nat) (f : Nat → Nat) : List Value := (List.range n).map fun j => B8 (f j)
/-- Block g is a row of n bytes of the call's own. -/
def Row (w : World) (g n : Nat) (f : Nat → Nat) : Prop := w.heap[g]? = some (.cells (rowL n f).toArray 5 (0, 0))
def upd (f : Nat → Nat) (i v : Nat) (j : Nat) : Nat := if j = i then v else f j
theorem rowL_len (n : Nat) (f : Nat → Nat) : (rowL n f).length = n := by simp [rowL]
theorem rowL_get (n : Nat) (f : Nat → Nat) (j : Nat) : (rowL n f)[j]? = if j < n then some (B8 (f j)) else none := by
  unfold rowL
  rw [List.getElem?_map]
  by_cases h : j < n
  · rw [if_pos h, List.getElem?_range h]; rfl
  · rw [if_neg h, List.getElem?_eq_none (by simpa using h)]; rfl
theorem rowL_one (n : Nat) (f : Nat → Nat) : ∀ v ∈ rowL n f, v.oneCell' = true := by
  intro v hv
  simp only [rowL, List.mem_map] at hv
  obtain ⟨j, _, rfl⟩ := hv
  rfl
theorem rowL_congr {n : Nat} {f h : Nat → Nat} (e : ∀ j, j < n → f j = h j) : rowL n f = rowL n h := by
  apply List.ext_getElem?
  intro j
  rw [rowL_get, rowL_get]
  by_cases hj : j < n
  · rw [if_pos hj, if_pos hj, e j hj]
  · rw [if_neg hj, if_neg hj]
theorem rowL_set (n : Nat) (f : Nat → Nat) (i v : Nat) : (rowL n f).set i (B8 v) = rowL n (upd f i v) := by
  apply List.ext_getElem?
  intro j
  rw [List.getElem?_set, rowL_get, rowL_get, rowL_len]
  unfold upd
  by_cases h : i = j
  · subst h; simp
  · rw [if_neg h]
    have h2 : ¬ j = i := fun e => h e.symm
    rw [if_neg h2]
theorem Row.congr {w : World} {g n : Nat} {f h : Nat → Nat} (hr : Row w g n f) (e : ∀ j, j < n → f j = h j) : Row w g n h := by
  unfold Row at *; rw [hr, rowL_congr e]
theorem Row.cell {w : World} {g n : Nat} {f : Nat → Nat} (hr : Row w g n f) {j : Nat} (hj : j < n) : w.cell? ⟨g, j, none⟩ = some (.int .u8 (f j : Nat)) := by
  unfold Row at hr
  have h2 := rowL_get n f j
  rw [if_pos hj] at h2
  simp [World.cell?, hr, h2]
  rfl
theorem Row.free {w : World} {g n : Nat} {f : Nat → Nat} (hr : Row w g n f) (j : Nat) : w.frozen? ⟨g, j, none⟩ = false := by
  unfold Row at hr
  simp [World.frozen?, hr]
theorem Row.lt {w : World} {g n : Nat} {f : Nat → Nat} (hr : Row w g n f) : g < w.heap.size := by
  unfold Row at hr
  exact (Array.getElem?_eq_some_iff.1 hr).1
theorem Row.set {w : World} {g n : Nat} {f : Nat → Nat} (hr : Row w g n f) (i v : Nat) : Row (w.setCell ⟨g, i, none⟩ (.int .u8 (v : Nat))) g n (upd f i v) := by
  unfold Row at *
  rw [← rowL_set]
  simp only [World.setCell, Array.getElem?_modify, hr, if_true, Option.map_some]
  rw [← List.setIfInBounds_toArray]
  rfl
theorem Row.set_far {w : World} {g n : Nat} {f : Nat → Nat} (hr : Row w g n f) {b i : Nat} (hb : b ≠ g) (v : Value) : Row (w.setCell ⟨b, i, none⟩ v) g n f := by
  unfold Row at *
  rw [Below.heap_setCell _ _ _ _ (by simpa using Ne.symm hb)]
  exact hr
theorem Row.drewN {w : World} {g n : Nat} {f : Nat → Nat} (hr : Row w g n f) (k : Nat) : Row (w.drewN k) g n f := hr
theorem Row.drew {w : World} {g n : Nat} {f : Nat → Nat} (hr : Row w g n f) : Row w.drew g n f := hr
theorem Row.below {w w' : World} {g n B : Nat} {f : Nat → Nat} (hr : Row w g n f) (hb : Below B w w') (hg : g < B) : Row w' g n f := by
  unfold Row at *; rw [hb.block g hg]; exact hr
theorem Row.alloc {w : World} {g n : Nat} {f : Nat → Nat} (hr : Row w g n f) (o : Obj) : Row (w.alloc o) g n f := by
  have := hr.lt
  unfold Row at *; rw [Below.heap_alloc _ _ _ this]; exact hr
/-- A row just made. -/
def zrow (n : Nat) : Array Value := (rowL n fun _ => 0).toArray
theorem made_zrow (n : Nat) : madeCells (Value.int .u8 0).cells (n * 1) = zrow n := by
  apply Array.toList_inj.1
  have := toList_madeCells_one (Value.int .u8 0) (n * 1)
  rw [show (Value.int .u8 0).cells = #[Value.int .u8 0] from rfl, this]
  unfold zrow
  apply List.ext_getElem?
  intro j
  rw [rowL_get, List.getElem?_replicate, Nat.mul_one]
  rfl
theorem row_made (w : World) (n : Nat) : Row (w.alloc (.cells (zrow n) 5)) w.heap.size n (fun _ => 0) := by
  unfold Row
  show (w.heap.push _)[w.heap.size]? = _
  rw [Array.getElem?_push, if_pos rfl]
  rfl
theorem info5 : (Tryd.prog.info? 5).map (fun i => (i.zero, i.size, i.bytes)) = some (some (.int .u8 0), 1, 1) := by kernel_rfl
/-- make([]byte, n). -/
theorem run_mk (n : Nat) (m : Int) (hm : m = n) (hn : n ≤ 1000000) (w : World) :
    (Instr.makeSlice 29 (.int .i64 m) (.int .i64 m)).run Tryd.prog w = .ok (.slice (some ⟨w.heap.size, 0, none⟩) n n) (w.alloc (.cells (zrow n) 5)) := by
  subst hm
  obtain ⟨i0, hi, hz0, hz1, hz2⟩ := info_parts info5
  have h := run_make (P := Tryd.prog) w 29 5 i0 (.int .u8 0) Tryd.underlying29 hi hz0 .i64 .i64 n n (by omega) (Int.le_refl _) (by rw [hz2]; omega) (by omega)
  rw [Int.toNat_natCast, hz1, made_zrow] at h
  exact h

/-! The check of data with their bytes for correction. -/
/-- The bytes of a row as numbers. -/
def nums (f : Nat → Nat) (n : Nat) : List Int := (List.range n).map fun j => ((f j : Nat) : Int)
theorem nums_len (f : Nat → Nat) (n : Nat) : (nums f n).length = n := by simp [nums]
theorem nums_rd (f : Nat → Nat) (n i : Nat) (hi : i < n) : rd (nums f n) i = ((f i : Nat) : Int) := by
  simp [rd, nums, hi]
section
variable {p : Nat} (hp : 256 ≤ p) (hp' : p < 512)
include hp hp'
theorem checked_l1 {a : Nat} (ha : a < 256) {f : Nat → Nat} (hf : ∀ j, f j < 256) (N : Nat) (hN : N < 1000000) (r : Nat) (hr : r < 256) (n idx : Int) (h0 : ev p r f N = 0) (k : Nat) (hk : 9 ≤ k) :
    ∀ d i, i + d = N → spec_Checked.l1 (d + 1 + k) (nums f N) a p r (ev p r f i : Nat) n idx (nums f N) N i = spec_Checked.l0 k (nums f N) a p (tm p r a : Nat) n (wrap64 (idx + 1))
  | 0, i, hi => by
    obtain rfl : i = N := by omega
    rw [show 0 + 1 + k = k + 1 from by omega]
    simp only [spec_Checked.l1]
    have c1 : ¬ ((i : Int) < (i : Int)) := by omega
    rw [if_neg c1, h0]
    have c2 : ((0 : Nat) : Int) = 0 := rfl
    rw [if_pos c2, times_f hp hp' hr ha k hk]
    rfl
  | d + 1, i, hi => by
    rw [show d + 1 + 1 + k = (d + 1 + k) + 1 from by omega]
    simp only [spec_Checked.l1]
    have c1 : (i : Int) < (N : Int) := by omega
    have c2 : 0 ≤ (i : Int) := by omega
    have c3 : (i : Int) < ((nums f N).length : Int) := by rw [nums_len]; omega
    rw [if_pos c1, if_pos c2, if_pos c3, times_f hp hp' (ev_lt hp hp' hf i) hr _ (by omega)]
    simp only [Option.bind_some]
    rw [nums_rd f N i (by omega), wr _ (by omega) (by have := hf i; omega), wr _ (by omega) (by omega),
      xor64 _ _ (Nat.lt_trans (tm_lt hp hp' (ev_lt hp hp' hf i) r) (by decide)) (Nat.lt_trans (hf i) (by decide))]
    exact checked_l1 ha hf N hN r hr n idx h0 k hk d (i + 1) (by omega)
theorem checked_l0 {a : Nat} (ha : a < 256) {f : Nat → Nat} (hf : ∀ j, f j < 256) (N : Nat) (hN : N < 1000000) (n : Nat) (hn : n < 1000000) (h0 : ∀ m, m < n → ev p (pw p a m) f N = 0) :
    ∀ d i, i + d = n → spec_Checked.l0 (d * (N + 2) + 10) (nums f N) a p (pw p a i : Nat) n i = some true
  | 0, i, hi => by
    rw [show 0 * (N + 2) + 10 = 9 + 1 from by omega]
    simp only [spec_Checked.l0]
    have c1 : ¬ ((i : Int) < (n : Int)) := by omega
    rw [if_neg c1]
  | d + 1, i, hi => by
    rw [show (d + 1) * (N + 2) + 10 = (N + 1 + (d * (N + 2) + 10)) + 1 from by rw [Nat.succ_mul]; omega]
    simp only [spec_Checked.l0]
    have c1 : (i : Int) < (n : Int) := by omega
    rw [if_pos c1, nums_len]
    have h := checked_l1 hp hp' ha hf N hN (pw p a i) (pw_lt hp hp' i) n i (h0 i (by omega)) (d * (N + 2) + 10) (by omega) N 0 (by omega)
    have e0 : ((ev p (pw p a i) f 0 : Nat) : Int) = 0 := rfl
    rw [e0] at h
    refine h.trans ?_
    rw [wr _ (by omega) (by omega)]
    exact checked_l0 ha hf N hN n hn h0 d (i + 1) (by omega)
theorem checked_f {a : Nat} (ha : a < 256) {f : Nat → Nat} (hf : ∀ j, f j < 256) (N : Nat) (hN : N < 1000000) (n : Nat) (hn : n < 1000000) (h0 : ∀ m, m < n → ev p (pw p a m) f N = 0) :
    spec_Checked.f (n * (N + 2) + 10) (nums f N) n a p = some true := checked_l0 hp hp' ha hf N hN n hn h0 n 0 (by omega)
end
end Go.Proofs.YtbflcmcdmdicjaaDoor.PFnCheck
