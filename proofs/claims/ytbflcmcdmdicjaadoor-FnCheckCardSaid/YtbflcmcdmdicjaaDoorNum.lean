/- What the functions over whole numbers alone come to: products, powers, multiplication, the search for a field. Conditions stand in each theorem. -/
import Derived.Test.YtbflcmcdmdicjaaDoorFb
import Derived.Test.YtbflcmcdmdicjaaDoorGf
namespace Go.Proofs.YtbflcmcdmdicjaaDoor.PFnCheck
open Go.RowKit Go.Proofs.YtbflcmcdmdicjaaDoorW.PrintWords Go.Proofs.YtbflcmcdmdicjaaDoorW.PrintLast Go.Proofs.YtbflcmcdmdicjaaDoorW.PrintMore
open Go.Proofs.YtbflcmcdmdicjaaDoor.Gf
set_option linter.unusedSectionVars false

theorem wr (n : Int) (h : -9223372036854775808 ≤ n) (h' : n ≤ 9223372036854775807) : wrap64 n = n := by unfold wrap64; omega
theorem i64_wraps (n : Int) (h₀ : 0 ≤ n) (h₁ : n < 2 ^ 62) : IntKind.i64.wrap n = n := by
  rw [show (2 : Int) ^ 62 = 4611686018427387904 from by decide] at h₁
  rw [IntKind.wrap_i64]; omega
theorem and64 (a b : Nat) (ha : a < 2 ^ 62) (hb : b < 2 ^ 62) : Go.bits .and .i64 (a : Int) (b : Int) = ((a &&& b : Nat) : Int) :=
  (bits_nat .i64 62 (by decide) i64_wraps a b ha hb).1
theorem xor64 (a b : Nat) (ha : a < 2 ^ 62) (hb : b < 2 ^ 62) : Go.bits .xor .i64 (a : Int) (b : Int) = ((a ^^^ b : Nat) : Int) := by
  have hp : (2 : Nat) ^ 62 ≤ 2 ^ IntKind.i64.bits := Nat.pow_le_pow_right (by decide) (by decide)
  have ha' : a % 2 ^ IntKind.i64.bits = a := Nat.mod_eq_of_lt (Nat.lt_of_lt_of_le ha hp)
  have hb' : b % 2 ^ IntKind.i64.bits = b := Nat.mod_eq_of_lt (Nat.lt_of_lt_of_le hb hp)
  simp only [bits, BitVec.ofInt_natCast, BitVec.toNat_xor, BitVec.toNat_ofNat, ha', hb']
  exact i64_wraps _ (Int.natCast_nonneg _) (by exact_mod_cast Nat.xor_lt_two_pow ha hb)
theorem bit1 (a : Nat) (ha : a < 2 ^ 62) : Go.bits .and .i64 (a : Int) 1 = ((a % 2 : Nat) : Int) := by
  have := and64 a 1 ha (by decide)
  rw [show ((1 : Nat) : Int) = 1 from rfl] at this
  rw [this, Nat.and_one_is_mod]
theorem bit256 (a : Nat) (ha : a < 512) : Go.bits .and .i64 (a : Int) 256 = 0 ↔ a < 256 := by
  have := and64 a 256 (Nat.lt_trans ha (by decide)) (by decide)
  rw [show ((256 : Nat) : Int) = 256 from rfl] at this
  rw [this]
  have e : ∀ b : Nat, b < 512 → (b &&& 256 = 0 ↔ b < 256) := by decide +kernel
  have := e a ha
  omega
theorem shr64 (x y : Nat) (hy : y ≤ 64) : shr .i64 (x : Int) (y : Int) = ((x / 2 ^ y : Nat) : Int) := by
  unfold shr
  rw [show IntKind.i64.bits = 64 from rfl, Int.toNat_natCast, Nat.min_eq_left hy]
  simp

section
variable {p : Nat} (hp : 256 ≤ p) (hp' : p < 512)
include hp hp'
theorem times_l0 {a b : Nat} (ha : a < 256) (hb : b < 256) : ∀ (j k out : Nat), out < 256 → j ≤ 8 → j < k → out = horner p a (b / 2 ^ j) (8 - j) →
    spec_Times.l0 k a b p out ((j : Int) - 1) = some ((tm p a b : Nat) : Int)
  | 0, k, out, _, _, hk, he => by
    obtain ⟨k, rfl⟩ : ∃ m, k = m + 1 := ⟨k - 1, by omega⟩
    simp only [spec_Times.l0]
    rw [if_neg (by omega), he]
    simp [tm]
  | j + 1, k, out, ho, hj, hk, he => by
    obtain ⟨k, rfl⟩ : ∃ m, k = m + 1 := ⟨k - 1, by omega⟩
    simp only [spec_Times.l0]
    have e1 : (((j + 1 : Nat) : Int) - 1) = (j : Int) := by omega
    have e2 : wrap64 ((out : Int) * 2) = ((2 * out : Nat) : Int) := by rw [wr _ (by omega) (by omega)]; omega
    have e3 : wrap64 ((j : Int) - 1) = (j : Int) - 1 := wr _ (by omega) (by omega)
    have hbj : b / 2 ^ j < 256 := Nat.lt_of_le_of_lt (Nat.div_le_self _ _) hb
    have c1 : (j : Int) ≥ 0 := by omega
    have c2 : 0 ≤ (j : Int) := by omega
    rw [e1, if_pos c1, if_pos c2, if_pos c2, e2, e3, shr64 b j (by omega), bit1 _ (Nat.lt_trans hbj (by decide))]
    have hd := dbl_lt hp hp' ho
    have hh : horner p a (b / 2 ^ j) (8 - j) = dbl p out ^^^ (if b / 2 ^ j % 2 = 1 then a else 0) := by
      rw [show 8 - j = (8 - (j + 1)) + 1 from by omega]
      simp only [horner]
      rw [Nat.div_div_eq_div_mul, ← Nat.pow_succ, ← he]
    have hx : (2 * out) ^^^ p < 2 ^ 62 := Nat.xor_lt_two_pow (Nat.lt_trans (show 2 * out < 512 by omega) (by decide)) (Nat.lt_trans hp' (by decide))
    by_cases h1 : out < 128
    · have ed : dbl p out = 2 * out := by unfold dbl; rw [if_pos h1]
      rw [if_pos ((bit256 (2 * out) (by omega)).2 (by omega)), ← ed]
      by_cases h2 : b / 2 ^ j % 2 = 1
      · have c3 : ((b / 2 ^ j % 2 : Nat) : Int) = 1 := by omega
        rw [if_pos c3, xor64 _ _ (Nat.lt_trans hd (by decide)) (Nat.lt_trans ha (by decide))]
        exact times_l0 ha hb j k _ (xor_lt _ _ hd ha) (by omega) (by omega) (by rw [hh, if_pos h2])
      · have c3 : ¬ ((b / 2 ^ j % 2 : Nat) : Int) = 1 := by omega
        rw [if_neg c3]
        exact times_l0 ha hb j k _ hd (by omega) (by omega) (by rw [hh, if_neg h2, Nat.xor_zero])
    · have ed : dbl p out = (2 * out) ^^^ p := by unfold dbl; rw [if_neg h1]
      have c4 : ¬ Go.bits .and .i64 ((2 * out : Nat) : Int) 256 = 0 := by rw [bit256 (2 * out) (by omega)]; omega
      rw [if_neg c4, xor64 (2 * out) p (Nat.lt_trans (show 2 * out < 512 by omega) (by decide)) (Nat.lt_trans hp' (by decide)), ← ed]
      by_cases h2 : b / 2 ^ j % 2 = 1
      · have c3 : ((b / 2 ^ j % 2 : Nat) : Int) = 1 := by omega
        rw [if_pos c3, xor64 _ _ (Nat.lt_trans hd (by decide)) (Nat.lt_trans ha (by decide))]
        exact times_l0 ha hb j k _ (xor_lt _ _ hd ha) (by omega) (by omega) (by rw [hh, if_pos h2])
      · have c3 : ¬ ((b / 2 ^ j % 2 : Nat) : Int) = 1 := by omega
        rw [if_neg c3]
        exact times_l0 ha hb j k _ hd (by omega) (by omega) (by rw [hh, if_neg h2, Nat.xor_zero])
theorem times_f {a b : Nat} (ha : a < 256) (hb : b < 256) (k : Nat) (hk : 9 ≤ k) : spec_Times.f k a b p = some ((tm p a b : Nat) : Int) := by
  have := times_l0 hp hp' ha hb 8 k 0 (by omega) (by omega) (by omega) (by simp [horner])
  simpa [spec_Times.f] using this

theorem low_zero : ∀ (n y z : Nat), low p n 0 y z = z
  | 0, _, _ => rfl
  | n + 1, y, z => by simp only [low]; exact low_zero n _ _
theorem mul_l0 : ∀ (n k x y z : Nat), x < 2 ^ n → n ≤ 8 → n < k → y < 256 → z < 256 → qrgf256_mul.l0 k x y p z = some ((low p n x y z : Nat) : Int)
  | 0, k, x, y, z, hx, _, hk, _, _ => by
    obtain ⟨k, rfl⟩ : ∃ m, k = m + 1 := ⟨k - 1, by omega⟩
    simp only [qrgf256_mul.l0]
    rw [if_neg (by omega)]
    rfl
  | n + 1, k, x, y, z, hx, hn, hk, hy, hz => by
    obtain ⟨k, rfl⟩ : ∃ m, k = m + 1 := ⟨k - 1, by omega⟩
    simp only [qrgf256_mul.l0]
    by_cases h0 : x = 0
    · subst h0
      rw [if_neg (by omega), low_zero hp hp']
    · have hp8 : 2 ^ (n + 1) ≤ 2 ^ 8 := Nat.pow_le_pow_right (by decide) hn
      have c1 : (x : Int) > 0 := by omega
      rw [if_pos c1, bit1 x (Nat.lt_of_lt_of_le hx (Nat.le_trans hp8 (by decide)))]
      have e2 : wrap64 ((y : Int) * 2) = ((2 * y : Nat) : Int) := by rw [wr _ (by omega) (by omega)]; omega
      have e4 : (x : Int) / 2 = ((x / 2 : Nat) : Int) := by omega
      have hx2 : x / 2 < 2 ^ n := by rw [Nat.pow_succ] at hx; omega
      have hd := dbl_lt hp hp' hy
      rw [e2, e4]
      simp only [low]
      rw [xor64 z y (Nat.lt_trans hz (by decide)) (Nat.lt_trans hy (by decide))]
      by_cases h1 : y < 128
      · have ed : dbl p y = 2 * y := by unfold dbl; rw [if_pos h1]
        have c4 : Go.bits .and .i64 ((2 * y : Nat) : Int) 256 = 0 := (bit256 (2 * y) (by omega)).2 (by omega)
        rw [if_pos c4, if_pos c4, ← ed]
        by_cases h2 : x % 2 = 1
        · have c3 : ¬ ((x % 2 : Nat) : Int) = 0 := by omega
          rw [if_neg c3, if_pos h2]
          exact mul_l0 n k _ _ _ hx2 (by omega) (by omega) hd (xor_lt _ _ hz hy)
        · have c3 : ((x % 2 : Nat) : Int) = 0 := by omega
          rw [if_pos c3, if_neg h2]
          exact mul_l0 n k _ _ _ hx2 (by omega) (by omega) hd hz
      · have ed : dbl p y = (2 * y) ^^^ p := by unfold dbl; rw [if_neg h1]
        have c4 : ¬ Go.bits .and .i64 ((2 * y : Nat) : Int) 256 = 0 := by rw [bit256 (2 * y) (by omega)]; omega
        rw [if_neg c4, if_neg c4, xor64 (2 * y) p (Nat.lt_trans (show 2 * y < 512 by omega) (by decide)) (Nat.lt_trans hp' (by decide)), ← ed]
        by_cases h2 : x % 2 = 1
        · have c3 : ¬ ((x % 2 : Nat) : Int) = 0 := by omega
          rw [if_neg c3, if_pos h2]
          exact mul_l0 n k _ _ _ hx2 (by omega) (by omega) hd (xor_lt _ _ hz hy)
        · have c3 : ((x % 2 : Nat) : Int) = 0 := by omega
          rw [if_pos c3, if_neg h2]
          exact mul_l0 n k _ _ _ hx2 (by omega) (by omega) hd hz
theorem mul_f {x y : Nat} (hx : x < 256) (hy : y < 256) : qrgf256_mul.f 9 x y p = some ((tm p x y : Nat) : Int) := by
  have h := mul_l0 hp hp' 8 9 x y 0 hx (by omega) (by omega) hy (by omega)
  rw [low_eq hp hp' 8 x y 0 hy, Nat.zero_xor] at h
  have h2 : horner p y x 8 = tm p x y := (tm_comm hp hp' hx hy).symm
  rw [h2] at h
  exact h
theorem power_l0 {a : Nat} (ha : a < 256) : ∀ (d i n k : Nat), i + d = n → n < 1000000 → d + 10 ≤ k → spec_Power.l0 k a p ((pw p a i : Nat) : Int) n i = some ((pw p a n : Nat) : Int)
  | 0, i, n, k, hd, _, hk => by
    obtain ⟨k, rfl⟩ : ∃ m, k = m + 1 := ⟨k - 1, by omega⟩
    simp only [spec_Power.l0]
    rw [if_neg (by omega), show i = n from by omega]
  | d + 1, i, n, k, hd, hn, hk => by
    obtain ⟨k, rfl⟩ : ∃ m, k = m + 1 := ⟨k - 1, by omega⟩
    simp only [spec_Power.l0]
    rw [if_pos (by omega), times_f hp hp' (pw_lt hp hp' i) ha k (by omega)]
    simp only [Option.bind_some]
    rw [show wrap64 ((i : Int) + 1) = ((i + 1 : Nat) : Int) from by rw [wr _ (by omega) (by omega)]; omega]
    exact power_l0 ha d (i + 1) n k (by omega) hn (by omega)
theorem power_f {a : Nat} (ha : a < 256) (n : Nat) (hn : n < 1000000) : spec_Power.f (n + 10) a n p = some ((pw p a n : Nat) : Int) :=
  power_l0 hp hp' ha n 0 n (n + 10) (by omega) hn (by omega)
theorem makes_l0 {a : Nat} (ha : a < 256) : ∀ (d i k : Nat), i + d = 256 → 1 ≤ i → d + 10 ≤ k →
    ∃ r, spec_Makes.l0 k a p ((pw p a (i - 1) : Nat) : Int) i = some r ∧ (r = true → pw p a 255 = 1 ∧ ∀ m, i ≤ m → m < 255 → pw p a m ≠ 1)
  | 0, i, k, hd, hi, hk => by
    obtain ⟨k, rfl⟩ : ∃ m, k = m + 1 := ⟨k - 1, by omega⟩
    refine ⟨false, ?_, fun h => by cases h⟩
    simp only [spec_Makes.l0]
    rw [if_neg (by omega)]
  | d + 1, i, k, hd, hi, hk => by
    obtain ⟨k, rfl⟩ : ∃ m, k = m + 1 := ⟨k - 1, by omega⟩
    simp only [spec_Makes.l0]
    rw [if_pos (by omega), times_f hp hp' (pw_lt hp hp' _) ha k (by omega)]
    simp only [Option.bind_some]
    have e : tm p (pw p a (i - 1)) a = pw p a i := by
      have : pw p a (i - 1 + 1) = tm p (pw p a (i - 1)) a := rfl
      rw [← this, show i - 1 + 1 = i from by omega]
    rw [e]
    by_cases h1 : pw p a i = 1
    · rw [if_pos (by omega)]
      refine ⟨_, rfl, fun h => ?_⟩
      have h2 : i = 255 := by have := eq_of_beq h; omega
      subst h2
      exact ⟨h1, fun m h3 h4 => by omega⟩
    · rw [if_neg (by omega), show wrap64 ((i : Int) + 1) = ((i + 1 : Nat) : Int) from by rw [wr _ (by omega) (by omega)]; omega]
      obtain ⟨r, hr, hg⟩ := makes_l0 ha d (i + 1) k (by omega) (by omega) (by omega)
      refine ⟨r, hr, fun h => ⟨(hg h).1, fun m h3 h4 => ?_⟩⟩
      by_cases h5 : m = i
      · rw [h5]; exact h1
      · exact (hg h).2 m (by omega) h4
theorem makes_f {a : Nat} (h2 : 2 ≤ a) (ha : a < 256) (k : Nat) (hk : 265 ≤ k) : ∃ r, spec_Makes.f k a p = some r ∧ (r = true → Gen p a) := by
  obtain ⟨r, hr, hg⟩ := makes_l0 hp hp' ha 255 1 k (by omega) (by omega) (by omega)
  refine ⟨r, hr, fun h => ⟨hp, hp', h2, ha, (hg h).1, fun i h3 h4 => (hg h).2 i (by omega) h4⟩⟩
end
theorem below_f (a : Int) (n : Nat) (hn : 0 < n) (h1 : -9223372036854775808 ≤ a) (h2 : a ≤ 9223372036854775807) : ∃ r : Nat, laws_below.f a n = some (r : Int) ∧ r < n := by
  unfold laws_below.f
  rw [if_neg (by omega)]
  have h0 : 0 ≤ mx a (wrap64 (-(wrap64 (a + 1)))) := by
    unfold mx wrap64
    split <;> omega
  have h3 := Int.tmod_nonneg (n : Int) h0
  have h4 := Int.tmod_lt_of_pos (mx a (wrap64 (-(wrap64 (a + 1))))) (show (0 : Int) < n by omega)
  exact ⟨_, congrArg some (Int.toNat_of_nonneg h3).symm, by omega⟩
end Go.Proofs.YtbflcmcdmdicjaaDoor.PFnCheck
