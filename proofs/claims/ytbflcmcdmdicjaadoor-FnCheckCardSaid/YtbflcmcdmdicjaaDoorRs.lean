/- The bytes for correction on plain numbers: the polynomial that is 0 at the first powers, the division, and that data with what is left are 0 there. No Go, no memory. Condition: a polynomial from 256 to 511. -/
import Derived.Test.YtbflcmcdmdicjaaDoorGf
namespace Go.Proofs.YtbflcmcdmdicjaaDoor.Gf
set_option linter.unusedSectionVars false
set_option linter.unusedVariables false

/-- The value at r of the first n numbers, the first one the highest. -/
def ev (p r : Nat) (f : Nat → Nat) : Nat → Nat
  | 0 => 0
  | n + 1 => tm p (ev p r f n) r ^^^ f n
/-- A polynomial times (x + c), kept to e + 1 places. -/
def gstep (p c e : Nat) (f : Nat → Nat) (j : Nat) : Nat := if j < e then tm p (f j) c ^^^ f (j + 1) else tm p (f j) c
/-- The polynomial that is 0 at the first i powers. -/
def gp (p a e : Nat) : Nat → Nat → Nat
  | 0 => fun j => if j = e then 1 else 0
  | i + 1 => gstep p (pw p a i) e (gp p a e i)
/-- One round of the division by g, of c + 1 places. -/
def dstep (p c : Nat) (g : Nat → Nat) (i : Nat) (q : Nat → Nat) (m : Nat) : Nat := if i < m ∧ m ≤ i + c then q m ^^^ tm p (q i) (g (m - i)) else q m
/-- What the division leaves behind n rounds. -/
def dv (p c : Nat) (g q : Nat → Nat) : Nat → Nat → Nat
  | 0 => q
  | i + 1 => dstep p c g i (dv p c g q i)

theorem ev_congr {p r : Nat} {f h : Nat → Nat} : ∀ n, (∀ j, j < n → f j = h j) → ev p r f n = ev p r h n
  | 0, _ => rfl
  | n + 1, hj => by simp only [ev]; rw [ev_congr n (fun j hj' => hj j (by omega)), hj n (by omega)]

section
variable {p : Nat} (hp : 256 ≤ p) (hp' : p < 512)
include hp hp'
theorem ev_lt {r : Nat} {f : Nat → Nat} (hf : ∀ j, f j < 256) : ∀ n, ev p r f n < 256
  | 0 => by simp [ev]
  | n + 1 => xor_lt _ _ (tm_lt hp hp' (ev_lt hf n) r) (hf n)
theorem ev_xor {r : Nat} {f h : Nat → Nat} (hf : ∀ j, f j < 256) (hh : ∀ j, h j < 256) : ∀ n, ev p r (fun j => f j ^^^ h j) n = ev p r f n ^^^ ev p r h n
  | 0 => by simp [ev]
  | n + 1 => by
    simp only [ev]
    rw [ev_xor hf hh n, tm_xor_left hp hp' (ev_lt hp hp' hf n) (ev_lt hp hp' hh n), xor_shuf]
theorem ev_mul {r c : Nat} (hr : r < 256) (hc : c < 256) {f : Nat → Nat} (hf : ∀ j, f j < 256) : ∀ n, ev p r (fun j => tm p (f j) c) n = tm p (ev p r f n) c
  | 0 => by simp only [ev]; rw [tm_zero_left hp hp']
  | n + 1 => by
    have hl := ev_lt hp hp' (r := r) hf n
    simp only [ev]
    rw [ev_mul hr hc hf n, tm_xor_left hp hp' (tm_lt hp hp' hl r) (hf n), tm_assoc hp hp' hl hc, tm_comm hp hp' hc hr, ← tm_assoc hp hp' hl hr]
theorem ev_zeros {r : Nat} {f : Nat → Nat} : ∀ n, (∀ j, j < n → f j = 0) → ev p r f n = 0
  | 0, _ => rfl
  | n + 1, h => by simp only [ev]; rw [ev_zeros n (fun j hj => h j (by omega)), h n (by omega), tm_zero_left hp hp']; rfl
/-- One place on: what stood first goes. -/
theorem ev_shift {r : Nat} {f : Nat → Nat} (h0 : f 0 = 0) : ∀ n, ev p r (fun j => f (j + 1)) n = ev p r f (n + 1)
  | 0 => by simp only [ev]; rw [tm_zero_left hp hp', h0]; rfl
  | n + 1 => by
    have := ev_shift (r := r) h0 n
    simp only [ev] at this ⊢
    rw [this]
theorem gp_lt {a : Nat} (e : Nat) : ∀ i j, gp p a e i j < 256
  | 0, j => by simp only [gp]; split <;> omega
  | i + 1, j => by
    simp only [gp, gstep]
    split
    · exact xor_lt _ _ (tm_lt hp hp' (gp_lt e i j) _) (gp_lt e i _)
    · exact tm_lt hp hp' (gp_lt e i j) _
/-- The highest place so far is 1, what stands before it 0. -/
theorem gp_head {a : Nat} (e : Nat) : ∀ i, i ≤ e → gp p a e i (e - i) = 1 ∧ ∀ j, j < e - i → gp p a e i j = 0
  | 0, _ => ⟨by simp [gp], fun j hj => by simp only [gp]; rw [if_neg (by omega)]⟩
  | i + 1, hi => by
    obtain ⟨h1, h2⟩ := gp_head e i (by omega)
    refine ⟨?_, fun j hj => ?_⟩
    · simp only [gp, gstep]
      rw [if_pos (by omega), h2 _ (by omega), tm_zero_left hp hp', show e - (i + 1) + 1 = e - i from by omega, h1]
      rfl
    · simp only [gp, gstep]
      rw [if_pos (by omega), h2 j (by omega), h2 (j + 1) (by omega), tm_zero_left hp hp']
      rfl
theorem gstep_ev {r c e : Nat} (hr : r < 256) (hc : c < 256) {f : Nat → Nat} (hf : ∀ j, f j < 256) (h0 : f 0 = 0) :
    ev p r (gstep p c e f) (e + 1) = tm p (ev p r f (e + 1)) c ^^^ tm p (ev p r f (e + 1)) r := by
  have e1 : ev p r (gstep p c e f) (e + 1) = ev p r (fun j => tm p (f j) c ^^^ (if j < e then f (j + 1) else 0)) (e + 1) := by
    refine ev_congr _ fun j hj => ?_
    simp only [gstep]
    split
    · rfl
    · simp
  rw [e1, ev_xor hp hp' (fun j => tm_lt hp hp' (hf j) c) (fun j => by split; exact hf _; omega), ev_mul hp hp' hr hc hf]
  congr 1
  have e2 : ev p r (fun j => if j < e then f (j + 1) else 0) e = ev p r (fun j => f (j + 1)) e := ev_congr _ fun j hj => by simp [hj]
  have e3 : ev p r (fun j => if j < e then f (j + 1) else 0) (e + 1) = tm p (ev p r (fun j => if j < e then f (j + 1) else 0) e) r ^^^ (if e < e then f (e + 1) else 0) := rfl
  rw [e3, e2, ev_shift hp hp' h0, if_neg (Nat.lt_irrefl e), Nat.xor_zero]
theorem gp_root {a : Nat} (e : Nat) : ∀ i, i ≤ e → ∀ m, m < i → ev p (pw p a m) (gp p a e i) (e + 1) = 0
  | 0, _, m, hm => absurd hm (by omega)
  | i + 1, hi, m, hm => by
    have h0 := (gp_head hp hp' (a := a) e i (by omega)).2 0 (by omega)
    have := gstep_ev hp hp' (e := e) (pw_lt hp hp' (a := a) m) (pw_lt hp hp' (a := a) i) (gp_lt hp hp' e i) h0
    simp only [gp]
    rw [this]
    by_cases h : m = i
    · subst h; rw [Nat.xor_self]
    · rw [gp_root e i (by omega) m (by omega), tm_zero_left hp hp', tm_zero_left hp hp']; rfl
theorem dv_lt {c : Nat} {g q : Nat → Nat} (hq : ∀ j, q j < 256) : ∀ i j, dv p c g q i j < 256
  | 0, j => hq j
  | i + 1, j => by
    simp only [dv, dstep]
    split
    · exact xor_lt _ _ (dv_lt hq i j) (tm_lt hp hp' (dv_lt hq i _) _)
    · exact dv_lt hq i j
/-- g times k, laid from place i on: 0 where g is. -/
theorem ev_laid {r k c i : Nat} (hr : r < 256) (hk : k < 256) {g : Nat → Nat} (hg : ∀ j, g j < 256) (h0 : ev p r g (c + 1) = 0) (N : Nat) (hN : i + c + 1 ≤ N) :
    ev p r (fun m => if i ≤ m ∧ m ≤ i + c then tm p k (g (m - i)) else 0) N = 0 := by
  have h1 : ev p r (fun m => if i ≤ m ∧ m ≤ i + c then tm p k (g (m - i)) else 0) i = 0 := ev_zeros hp hp' i fun j hj => if_neg (by omega)
  have h2 : ∀ d, d ≤ c + 1 → ev p r (fun m => if i ≤ m ∧ m ≤ i + c then tm p k (g (m - i)) else 0) (i + d) = tm p k (ev p r g d) := by
    intro d
    induction d with
    | zero => intro _; rw [Nat.add_zero, h1]; simp only [ev]; rw [tm_zero hp hp' hk]
    | succ d ih =>
      intro hd
      rw [← Nat.add_assoc]
      simp only [ev]
      have hl := ev_lt hp hp' (r := r) hg d
      rw [ih (by omega), if_pos (by omega), show i + d - i = d from by omega, tm_xor hp hp' hk (tm_lt hp hp' hl r) (hg d), tm_assoc hp hp' hk hl]
  have h3 : ∀ d, ev p r (fun m => if i ≤ m ∧ m ≤ i + c then tm p k (g (m - i)) else 0) (i + (c + 1) + d) = 0 := by
    intro d
    induction d with
    | zero => rw [Nat.add_zero, h2 (c + 1) (Nat.le_refl _), h0, tm_zero hp hp' hk]
    | succ d ih =>
      rw [← Nat.add_assoc]
      simp only [ev]
      rw [ih, if_neg (by omega), tm_zero_left hp hp']
      rfl
  have := h3 (N - (i + (c + 1)))
  rwa [show i + (c + 1) + (N - (i + (c + 1))) = N from by omega] at this
/-- Data and what the division leaves are 0 where g is. -/
theorem dv_ev {r c : Nat} (hr : r < 256) {g q : Nat → Nat} (hg : ∀ j, g j < 256) (hq : ∀ j, q j < 256) (h1 : g 0 = 1) (h0 : ev p r g (c + 1) = 0) (N : Nat) :
    ∀ i, i + c ≤ N → ev p r (fun m => if m < i then 0 else dv p c g q i m) N = ev p r q N
  | 0, _ => ev_congr _ fun j _ => by simp [dv]
  | i + 1, hi => by
    have ih := dv_ev hr hg hq h1 h0 N i (by omega)
    have hl := dv_lt hp hp' (c := c) (g := g) hq i
    have e1 : ev p r (fun m => if m < i + 1 then 0 else dv p c g q (i + 1) m) N =
        ev p r (fun m => (if m < i then 0 else dv p c g q i m) ^^^ (if i ≤ m ∧ m ≤ i + c then tm p (dv p c g q i i) (g (m - i)) else 0)) N := by
      refine ev_congr _ fun m hm => ?_
      simp only [dv, dstep]
      by_cases h2 : m < i
      · rw [if_pos (by omega), if_pos h2, if_neg (by omega)]; rfl
      · by_cases h3 : m = i
        · subst h3
          rw [if_pos (by omega), if_neg h2, if_pos (by omega), Nat.sub_self, h1, tm_one hp hp' (hl m), Nat.xor_self]
        · rw [if_neg (by omega), if_neg h2]
          by_cases h4 : m ≤ i + c
          · rw [if_pos (by omega), if_pos (by omega)]
          · rw [if_neg (by omega), if_neg (by omega), Nat.xor_zero]
    rw [e1, ev_xor hp hp' (fun j => by split; omega; exact hl j) (fun j => by split; exact tm_lt hp hp' (hl i) _; omega), ih, ev_laid hp hp' hr (hl i) hg h0 N (by omega), Nat.xor_zero]
end
/-- The data, then n zeros. -/
def pad (d : Nat → Nat) (len : Nat) (m : Nat) : Nat := if m < len then d m else 0
/-- The bytes for correction. -/
def chk (p a : Nat) (d : Nat → Nat) (len c : Nat) (j : Nat) : Nat := dv p c (gp p a c c) (pad d len) len (len + j)
/-- Data, then the bytes for correction. -/
def whole (p a : Nat) (d : Nat → Nat) (len c : Nat) (m : Nat) : Nat := if m < len then d m else chk p a d len c (m - len)
section
variable {p : Nat} (hp : 256 ≤ p) (hp' : p < 512)
include hp hp'
theorem pad_lt {d : Nat → Nat} (hd : ∀ j, d j < 256) (len j : Nat) : pad d len j < 256 := by unfold pad; split; exact hd j; omega
theorem chk_lt {a : Nat} {d : Nat → Nat} (hd : ∀ j, d j < 256) (len c j : Nat) : chk p a d len c j < 256 := dv_lt hp hp' (pad_lt hp hp' hd len) _ _
theorem whole_lt {a : Nat} {d : Nat → Nat} (hd : ∀ j, d j < 256) (len c j : Nat) : whole p a d len c j < 256 := by
  unfold whole; split; exact hd j; exact chk_lt hp hp' hd _ _ _
theorem whole_root {a : Nat} {d : Nat → Nat} (hd : ∀ j, d j < 256) (len c m : Nat) (hm : m < c) : ev p (pw p a m) (whole p a d len c) (len + c) = 0 := by
  have hr := pw_lt hp hp' (a := a) m
  have hq := pad_lt hp hp' hd len
  have h1 := (gp_head hp hp' (a := a) c c (Nat.le_refl _)).1
  rw [Nat.sub_self] at h1
  have h := dv_ev hp hp' hr (gp_lt hp hp' (a := a) c c) hq h1 (gp_root hp hp' c c (Nat.le_refl _) m hm) (len + c) len (Nat.le_refl _)
  have e : ev p (pw p a m) (whole p a d len c) (len + c) = ev p (pw p a m) (fun j => pad d len j ^^^ (if j < len then 0 else dv p c (gp p a c c) (pad d len) len j)) (len + c) := by
    refine ev_congr _ fun j hj => ?_
    unfold whole chk
    by_cases hl : j < len
    · rw [if_pos hl, if_pos hl, Nat.xor_zero]; unfold pad; rw [if_pos hl]
    · rw [if_neg hl, if_neg hl, show len + (j - len) = j from by omega]
      have : pad d len j = 0 := by unfold pad; rw [if_neg hl]
      rw [this, Nat.zero_xor]
  rw [e, ev_xor hp hp' hq (fun j => by split; omega; exact dv_lt hp hp' hq _ _), h, Nat.xor_self]
end
end Go.Proofs.YtbflcmcdmdicjaaDoor.Gf
