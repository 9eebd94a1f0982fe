/- The field of 256 elements on plain numbers: doubling, products, powers, logarithms. No Go, no memory. Condition: a polynomial from 256 to 511. -/
namespace Go.Proofs.YtbflcmcdmdicjaaDoor.Gf
set_option linter.unusedSectionVars false

/-- An element times x. -/
def dbl (p v : Nat) : Nat := if v < 128 then 2 * v else (2 * v) ^^^ p
/-- The low k bits of b, the highest first, times a. -/
def horner (p a : Nat) : Nat → Nat → Nat
  | _, 0 => 0
  | b, k + 1 => dbl p (horner p a (b / 2) k) ^^^ (if b % 2 = 1 then a else 0)
/-- The product. -/
def tm (p a b : Nat) : Nat := horner p a b 8
/-- The power. -/
def pw (p a : Nat) : Nat → Nat
  | 0 => 1
  | n + 1 => tm p (pw p a n) a

theorem xor_lt (a b : Nat) (ha : a < 256) (hb : b < 256) : a ^^^ b < 256 := Nat.xor_lt_two_pow (n := 8) ha hb
theorem xor_high (u v : Nat) (hu : u < 256) (hv : v < 256) : (256 + u) ^^^ (256 + v) = u ^^^ v := by
  have h1 : ∀ x, x < 256 → 256 + x = 256 ^^^ x := by
    intro x hx
    have := Nat.two_pow_add_eq_or_of_lt (i := 8) (b := x) hx 1
    simp only [Nat.mul_one] at this
    rw [show (256 : Nat) = 2 ^ 8 from rfl, this]
    apply Nat.eq_of_testBit_eq
    intro i
    rw [Nat.testBit_or, Nat.testBit_xor, Nat.testBit_two_pow]
    by_cases h : 8 = i
    · subst h; simp [Nat.testBit_lt_two_pow (i := 8) hx]
    · simp [h]
  rw [h1 u hu, h1 v hv, Nat.xor_assoc, Nat.xor_comm u, Nat.xor_assoc, ← Nat.xor_assoc, Nat.xor_self, Nat.zero_xor, Nat.xor_comm]
theorem dbl_lt {p v : Nat} (hp : 256 ≤ p) (hp' : p < 512) (hv : v < 256) : dbl p v < 256 := by
  unfold dbl
  split
  · omega
  · have := xor_high (2 * v - 256) (p - 256) (by omega) (by omega)
    rw [show 256 + (2 * v - 256) = 2 * v from by omega, show 256 + (p - 256) = p from by omega] at this
    rw [this]
    exact xor_lt _ _ (by omega) (by omega)
theorem two_mul_xor (u v : Nat) : 2 * (u ^^^ v) = (2 * u) ^^^ (2 * v) := by
  have h := Nat.shiftLeft_xor_distrib (a := u) (b := v) (i := 1)
  simp only [Nat.shiftLeft_eq, Nat.pow_one] at h
  rw [Nat.mul_comm 2, Nat.mul_comm 2, Nat.mul_comm 2, h]
theorem xor_small (u v : Nat) (hu : u < 128) (hv : v < 128) : u ^^^ v < 128 := Nat.xor_lt_two_pow (n := 7) hu hv
theorem xor_big (u v : Nat) (hu : ¬ u < 128) (hv : v < 128) : ¬ u ^^^ v < 128 := by
  intro h
  have := xor_small (u ^^^ v) v h hv
  rw [Nat.xor_assoc, Nat.xor_self, Nat.xor_zero] at this
  exact hu this
theorem high_div (x : Nat) (h1 : 128 ≤ x) (h2 : x < 256) : x / 128 = 1 := by omega
theorem xor_bigs (u v : Nat) (hu : ¬ u < 128) (hu' : u < 256) (hv : ¬ v < 128) (hv' : v < 256) : u ^^^ v < 128 := by
  have h : (u ^^^ v) / 2 ^ 7 = (u / 2 ^ 7) ^^^ (v / 2 ^ 7) := Nat.xor_div_two_pow
  rw [show (2 : Nat) ^ 7 = 128 from rfl, high_div u (by omega) hu', high_div v (by omega) hv', Nat.xor_self] at h
  omega
theorem dbl_xor {p u v : Nat} (hu : u < 256) (hv : v < 256) : dbl p (u ^^^ v) = dbl p u ^^^ dbl p v := by
  unfold dbl
  by_cases h1 : u < 128 <;> by_cases h2 : v < 128
  · rw [if_pos h1, if_pos h2, if_pos (xor_small u v h1 h2), two_mul_xor]
  · rw [if_pos h1, if_neg h2, if_neg (by rw [Nat.xor_comm]; exact xor_big v u h2 h1), two_mul_xor, Nat.xor_assoc]
  · rw [if_neg h1, if_pos h2, if_neg (xor_big u v h1 h2), two_mul_xor, Nat.xor_assoc, Nat.xor_assoc, Nat.xor_comm p]
  · rw [if_neg h1, if_neg h2, if_pos (xor_bigs u v h1 hu h2 hv), two_mul_xor, Nat.xor_assoc, Nat.xor_comm p, Nat.xor_assoc (2 * v), Nat.xor_self, Nat.xor_zero]
theorem dbl_zero (p : Nat) : dbl p 0 = 0 := rfl
theorem xor_shuf (a b c d : Nat) : (a ^^^ b) ^^^ (c ^^^ d) = (a ^^^ c) ^^^ (b ^^^ d) := by
  rw [Nat.xor_assoc, ← Nat.xor_assoc b, Nat.xor_comm b c, Nat.xor_assoc c, ← Nat.xor_assoc a]

section
variable {p : Nat} (hp : 256 ≤ p) (hp' : p < 512)
include hp hp'
theorem horner_lt {a : Nat} (ha : a < 256) : ∀ (k b : Nat), horner p a b k < 256
  | 0, _ => by simp [horner]
  | k + 1, b => by
    simp only [horner]
    refine xor_lt _ _ (dbl_lt hp hp' (horner_lt ha k _)) ?_
    split <;> omega
theorem horner_xor {a a' : Nat} (ha : a < 256) (ha' : a' < 256) : ∀ (k b : Nat), horner p (a ^^^ a') b k = horner p a b k ^^^ horner p a' b k
  | 0, _ => by simp [horner]
  | k + 1, b => by
    simp only [horner]
    rw [horner_xor ha ha' k, dbl_xor (horner_lt hp hp' ha k _) (horner_lt hp hp' ha' k _)]
    by_cases h : b % 2 = 1
    · rw [if_pos h, if_pos h, if_pos h, xor_shuf]
    · rw [if_neg h, if_neg h, if_neg h]; simp
theorem horner_zero : ∀ (k b : Nat), horner p 0 b k = 0
  | 0, _ => rfl
  | k + 1, b => by simp only [horner]; rw [horner_zero k]; simp [dbl_zero]
theorem horner_dbl {a : Nat} (ha : a < 256) : ∀ (k b : Nat), horner p (dbl p a) b k = dbl p (horner p a b k)
  | 0, _ => rfl
  | k + 1, b => by
    simp only [horner]
    rw [horner_dbl ha k, dbl_xor (dbl_lt hp hp' (horner_lt hp hp' ha k _)) (by split <;> omega)]
    congr 1
    split
    · rfl
    · exact (dbl_zero p).symm
theorem horner_comm {a : Nat} (ha : a < 256) (c m : Nat) : ∀ (k b : Nat), horner p (horner p a b k) c m = horner p (horner p a c m) b k
  | 0, _ => by simp only [horner]; exact horner_zero hp hp' m c
  | k + 1, b => by
    have hl := horner_lt hp hp' ha k (b / 2)
    simp only [horner]
    rw [horner_xor hp hp' (dbl_lt hp hp' hl) (by split <;> omega), horner_dbl hp hp' hl, horner_comm ha c m k]
    congr 1
    split
    · rfl
    · exact horner_zero hp hp' m c
theorem horner_one : ∀ (k b : Nat), k ≤ 8 → b < 2 ^ k → horner p 1 b k = b
  | 0, b, _, h => by simp [horner]; omega
  | k + 1, b, hk, h => by
    simp only [horner]
    have hb : b / 2 < 2 ^ k := by rw [Nat.pow_succ] at h; omega
    have h7 : 2 ^ k ≤ 2 ^ 7 := Nat.pow_le_pow_right (by decide) (by omega)
    rw [horner_one k (b / 2) (by omega) hb]
    unfold dbl
    rw [if_pos (by omega)]
    have e : (if b % 2 = 1 then 1 else 0) = b % 2 := by split <;> omega
    rw [e]
    have := Nat.two_pow_add_eq_or_of_lt (i := 1) (b := b % 2) (by omega) (b / 2)
    rw [Nat.pow_one] at this
    have hx : (2 * (b / 2)) ^^^ (b % 2) = (2 * (b / 2)) ||| (b % 2) := by
      apply Nat.eq_of_testBit_eq
      intro i
      rw [Nat.testBit_or, Nat.testBit_xor]
      cases i with
      | zero => simp [Nat.testBit_zero]
      | succ i => simp [Nat.testBit_lt_two_pow (x := b % 2) (i := i + 1) (by rw [Nat.pow_succ]; have := Nat.two_pow_pos i; omega)]
    rw [hx, ← this]
    omega
theorem tm_lt {a : Nat} (ha : a < 256) (b : Nat) : tm p a b < 256 := horner_lt hp hp' ha 8 b
theorem tm_one_left {b : Nat} (hb : b < 256) : tm p 1 b = b := horner_one hp hp' 8 b (Nat.le_refl _) hb
theorem tm_comm {a b : Nat} (ha : a < 256) (hb : b < 256) : tm p a b = tm p b a := by
  have h := horner_comm hp hp' (a := 1) (by omega) b 8 8 a
  have e1 : horner p 1 a 8 = a := tm_one_left hp hp' ha
  have e2 : horner p 1 b 8 = b := tm_one_left hp hp' hb
  rw [e1, e2] at h
  exact h
theorem tm_one {a : Nat} (ha : a < 256) : tm p a 1 = a := by rw [tm_comm hp hp' ha (by omega), tm_one_left hp hp' ha]
theorem tm_assoc {a b c : Nat} (ha : a < 256) (hb : b < 256) : tm p (tm p a b) c = tm p a (tm p b c) := by
  rw [tm_comm hp hp' ha (tm_lt hp hp' hb c), tm_comm hp hp' ha hb]
  exact horner_comm hp hp' hb c 8 8 a
theorem tm_zero_left (b : Nat) : tm p 0 b = 0 := horner_zero hp hp' 8 b
theorem tm_zero {a : Nat} (ha : a < 256) : tm p a 0 = 0 := by rw [tm_comm hp hp' ha (by omega), tm_zero_left hp hp']
theorem tm_xor_left {a a' : Nat} (ha : a < 256) (ha' : a' < 256) (b : Nat) : tm p (a ^^^ a') b = tm p a b ^^^ tm p a' b := horner_xor hp hp' ha ha' 8 b
theorem tm_xor {a b b' : Nat} (ha : a < 256) (hb : b < 256) (hb' : b' < 256) : tm p a (b ^^^ b') = tm p a b ^^^ tm p a b' := by
  rw [tm_comm hp hp' ha (xor_lt _ _ hb hb'), tm_xor_left hp hp' hb hb', tm_comm hp hp' hb ha, tm_comm hp hp' hb' ha]
theorem pw_lt {a : Nat} : ∀ n, pw p a n < 256
  | 0 => by simp [pw]
  | n + 1 => tm_lt hp hp' (pw_lt n) a
theorem pw_add {a : Nat} (ha : a < 256) (m : Nat) : ∀ n, pw p a (m + n) = tm p (pw p a m) (pw p a n)
  | 0 => by simp only [Nat.add_zero, pw]; rw [tm_one hp hp' (pw_lt hp hp' m)]
  | n + 1 => by
    rw [← Nat.add_assoc]
    simp only [pw]
    rw [pw_add ha m n, tm_assoc hp hp' (pw_lt hp hp' m) (pw_lt hp hp' n)]
end

/-- The powers of a are 255 different ones. -/
structure Gen (p a : Nat) : Prop where
  lo : 256 ≤ p
  hi : p < 512
  a2 : 2 ≤ a
  a256 : a < 256
  full : pw p a 255 = 1
  part : ∀ i, 0 < i → i < 255 → pw p a i ≠ 1

section
variable {p a : Nat} (g : Gen p a)
include g
theorem Gen.lt (n : Nat) : pw p a n < 256 := pw_lt g.lo g.hi n
theorem Gen.add (m n : Nat) : pw p a (m + n) = tm p (pw p a m) (pw p a n) := pw_add g.lo g.hi g.a256 m n
theorem Gen.add255 (n : Nat) : pw p a (n + 255) = pw p a n := by rw [g.add, g.full, tm_one g.lo g.hi (g.lt n)]
theorem Gen.mod (n : Nat) : pw p a (n % 255) = pw p a n := by
  have h : ∀ q r, pw p a (r + 255 * q) = pw p a r := by
    intro q r
    induction q with
    | zero => rfl
    | succ q ih => rw [Nat.mul_succ, ← Nat.add_assoc, g.add255, ih]
  have := h (n / 255) (n % 255)
  rw [show n % 255 + 255 * (n / 255) = n from by omega] at this
  exact this.symm
theorem Gen.ne_zero (n : Nat) : pw p a n ≠ 0 := by
  rw [← g.mod]
  intro h
  have h2 := g.add (n % 255) (255 - n % 255)
  rw [h, tm_zero_left g.lo g.hi, show n % 255 + (255 - n % 255) = 255 from by omega, g.full] at h2
  omega
theorem Gen.inj {i j : Nat} (hij : i < j) (hj : j < 255) : pw p a i ≠ pw p a j := by
  intro h
  have h1 := g.add i (255 - i)
  have h2 := g.add j (255 - i)
  rw [h, ← h2, show i + (255 - i) = 255 from by omega, g.full, show j + (255 - i) = (j - i) + 255 from by omega, g.add255] at h1
  exact g.part (j - i) (by omega) (by omega) h1.symm
theorem Gen.inj' {i j : Nat} (hi : i < 255) (hj : j < 255) (h : pw p a i = pw p a j) : i = j := by
  rcases Nat.lt_trichotomy i j with h1 | h1 | h1
  · exact absurd h (g.inj h1 hj)
  · exact h1
  · exact absurd h.symm (g.inj h1 hi)
end

/-- Numbers below n, all different: at most n. -/
theorem nodup_le : ∀ (n : Nat) (l : List Nat), l.Nodup → (∀ x ∈ l, x < n) → l.length ≤ n
  | 0, l, _, h => by
    cases l with
    | nil => simp
    | cons x t => exact absurd (h x (by simp)) (by omega)
  | n + 1, l, hd, h => by
    by_cases hn : n ∈ l
    · have h1 := nodup_le n (l.erase n) (hd.erase n) (fun x hx => by
        have hx' := (List.Nodup.mem_erase_iff hd).1 hx
        have := h x hx'.2
        have := hx'.1
        omega)
      rw [List.length_erase_of_mem hn] at h1
      omega
    · have h1 := nodup_le n l hd (fun x hx => by
        have := h x hx
        have : x ≠ n := fun e => hn (e ▸ hx)
        omega)
      omega

theorem Gen.surj {p a : Nat} (g : Gen p a) {x : Nat} (h0 : 0 < x) (hx : x < 256) : ∃ i, i < 255 ∧ pw p a i = x := by
  refine Classical.byContradiction fun hno => ?_
  have hno' : ∀ i, i < 255 → pw p a i ≠ x := fun i hi e => hno ⟨i, hi, e⟩
  have hnd : ((List.range 255).map (pw p a)).Nodup := by
    rw [List.Nodup, List.pairwise_map]
    refine List.Pairwise.imp_of_mem ?_ List.pairwise_lt_range
    intro i j _ hj hij
    exact g.inj hij (List.mem_range.1 hj)
  have := nodup_le 256 (0 :: x :: (List.range 255).map (pw p a)) (by
      refine List.nodup_cons.2 ⟨?_, List.nodup_cons.2 ⟨?_, hnd⟩⟩
      · simp only [List.mem_cons, List.mem_map, List.mem_range, not_or, not_exists, not_and]
        exact ⟨by omega, fun i _ e => g.ne_zero i e⟩
      · simp only [List.mem_map, List.mem_range, not_exists, not_and]
        exact hno')
    (by
      intro y hy
      simp only [List.mem_cons, List.mem_map, List.mem_range] at hy
      rcases hy with rfl | rfl | ⟨i, _, rfl⟩
      · omega
      · exact hx
      · exact g.lt i)
  simp at this

/-- The logarithm. -/
def lg (p a x : Nat) : Nat := ((List.range 255).find? (fun i => pw p a i == x)).getD 0
theorem Gen.lg_pw {p a : Nat} (g : Gen p a) {i : Nat} (hi : i < 255) : lg p a (pw p a i) = i := by
  unfold lg
  cases h : (List.range 255).find? (fun j => pw p a j == pw p a i) with
  | none =>
    have := List.find?_eq_none.1 h i (List.mem_range.2 hi)
    simp at this
  | some j =>
    have h1 := List.find?_some h
    have h2 := List.mem_range.1 (List.mem_of_find?_eq_some h)
    simp only [beq_iff_eq] at h1
    exact g.inj' h2 hi h1
theorem Gen.pw_lg {p a : Nat} (g : Gen p a) {x : Nat} (h0 : 0 < x) (hx : x < 256) : pw p a (lg p a x) = x ∧ lg p a x < 255 := by
  obtain ⟨i, hi, rfl⟩ := g.surj h0 hx
  rw [g.lg_pw hi]
  exact ⟨rfl, hi⟩
/-- The product by logarithms. -/
theorem Gen.mul_lg {p a : Nat} (g : Gen p a) {x y : Nat} (h0 : 0 < x) (hx : x < 256) (k0 : 0 < y) (hy : y < 256) : pw p a (lg p a x + lg p a y) = tm p x y := by
  rw [g.add, (g.pw_lg h0 hx).1, (g.pw_lg k0 hy).1]
theorem Gen.inv_lg {p a : Nat} (g : Gen p a) {x : Nat} (h0 : 0 < x) (hx : x < 256) : tm p x (pw p a (255 - lg p a x)) = 1 := by
  obtain ⟨h1, h2⟩ := g.pw_lg h0 hx
  have := g.add (lg p a x) (255 - lg p a x)
  rw [h1, show lg p a x + (255 - lg p a x) = 255 from by omega, g.full] at this
  exact this.symm
/-- Adding from the low bit of x on. -/
def low (p : Nat) : Nat → Nat → Nat → Nat → Nat
  | 0, _, _, z => z
  | k + 1, x, y, z => low p k (x / 2) (dbl p y) (if x % 2 = 1 then z ^^^ y else z)
theorem low_eq {p : Nat} (hp : 256 ≤ p) (hp' : p < 512) : ∀ (k x y z : Nat), y < 256 → low p k x y z = z ^^^ horner p y x k
  | 0, _, _, _, _ => by simp [low, horner]
  | k + 1, x, y, z, hy => by
    simp only [low, horner]
    rw [low_eq hp hp' k _ _ _ (dbl_lt hp hp' hy), horner_dbl hp hp' hy]
    by_cases h : x % 2 = 1
    · rw [if_pos h, if_pos h, Nat.xor_assoc, Nat.xor_comm y]
    · rw [if_neg h, if_neg h, Nat.xor_zero]
end Go.Proofs.YtbflcmcdmdicjaaDoor.Gf
