/-
  ROUNDING TO 53 DIGITS, ON WHOLE NUMBERS; and what Ieee's 'nearest' writes at the format 'double'. No Go in sight.
-/
import Ieee.Arith
namespace Go.Proofs.Qxb6604785a.Fl
open Ieee

/-- 'n / d' to the nearest whole number, ties to the even one. -/
def rhe (n d : Nat) : Nat := n / d + (if d < 2 * (n % d) ∨ (d = 2 * (n % d) ∧ n / d % 2 = 1) then 1 else 0)

theorem rhe_one (n : Nat) : rhe n 1 = n := by simp [rhe, Nat.mod_one]

theorem rhe_mul (n d k : Nat) (hk : 0 < k) : rhe (n * k) (d * k) = rhe n d := by
  unfold rhe
  rw [Nat.mul_div_mul_right _ _ hk, Nat.mul_mod_mul_right]
  have e1 : (d * k < 2 * (n % d * k)) ↔ d < 2 * (n % d) := by
    rw [← Nat.mul_assoc]; exact Nat.mul_lt_mul_right hk
  have e2 : (d * k = 2 * (n % d * k)) ↔ d = 2 * (n % d) := by
    rw [← Nat.mul_assoc]; exact Nat.mul_right_cancel_iff hk
  simp only [e1, e2]

theorem rhe_exact (q d : Nat) (hd : 0 < d) : rhe (q * d) d = q := by
  have := rhe_mul q 1 d hd
  rwa [Nat.one_mul, rhe_one] at this

theorem rhe_bounds (n d : Nat) (hd : 0 < d) : 2 * n ≤ 2 * (rhe n d * d) + d ∧ 2 * (rhe n d * d) ≤ 2 * n + d := by
  unfold rhe
  have h1 := Nat.div_add_mod n d
  have h2 := Nat.mod_lt n hd
  generalize n / d = q at *
  generalize n % d = r at *
  have e : d * q = q * d := Nat.mul_comm _ _
  split
  · rw [Nat.add_mul, Nat.one_mul]; omega
  · rw [Nat.add_zero]; omega

theorem toNat_ite (a b c : Prop) [Decidable a] [Decidable b] [Decidable c] : (decide a || (decide b && decide c)).toNat = if a ∨ (b ∧ c) then 1 else 0 := by
  by_cases a <;> by_cases b <;> by_cases c <;> simp [*]

theorem cut_eq (neg : Bool) (n drop : Nat) : Toward.even.cut neg n drop = rhe n (2 ^ drop) := by
  have key : ∀ g, (n / g + (decide (g < 2 * (n % g)) || (g == 2 * (n % g) && n / g % 2 == 1)).toNat) = rhe n g := by
    intro g
    exact congrArg (n / g + ·) (toNat_ite (g < 2 * (n % g)) (g = 2 * (n % g)) (n / g % 2 = 1))
  have h0 : Toward.even.cut neg n drop = rhe n (2 ^ min drop (n.log2 + 2)) := by
    rw [← key]
    unfold Toward.cut
    simp only [Nat.one_shiftLeft]
  rw [h0]
  rcases Nat.le_total drop (n.log2 + 2) with h | h
  · rw [Nat.min_eq_left h]
  · rw [Nat.min_eq_right h]
    have hn : n < 2 ^ (n.log2 + 1) := Nat.lt_log2_self
    have small : ∀ k, n.log2 + 2 ≤ k → rhe n (2 ^ k) = 0 := by
      intro k hk
      have h1 : 2 ^ (n.log2 + 2) ≤ 2 ^ k := Nat.pow_le_pow_right (by omega) hk
      have h2 : 2 ^ (n.log2 + 2) = 2 * 2 ^ (n.log2 + 1) := by rw [Nat.pow_succ]; omega
      unfold rhe
      rw [Nat.div_eq_of_lt (by omega), Nat.mod_eq_of_lt (by omega), if_neg (by omega)]
    rw [small _ (Nat.le_refl _), small _ h]

/-- The nearest number of 53 digits. -/
def rn (n : Nat) : Nat := rhe n (2 ^ (n.log2 - 52)) * 2 ^ (n.log2 - 52)

theorem rn_zero : rn 0 = 0 := by decide

theorem log2_mul_pow (n k : Nat) (hn : n ≠ 0) : (n * 2 ^ k).log2 = n.log2 + k := by
  have h1 : 2 ^ n.log2 ≤ n := Nat.log2_self_le hn
  have h2 : n < 2 ^ (n.log2 + 1) := Nat.lt_log2_self
  have hp : 0 < 2 ^ k := Nat.two_pow_pos k
  have h3 : n * 2 ^ k ≠ 0 := by
    have := Nat.mul_pos (Nat.pos_of_ne_zero hn) hp
    omega
  refine (Nat.log2_eq_iff h3).2 ⟨?_, ?_⟩
  · rw [Nat.pow_add]; exact Nat.mul_le_mul_right _ h1
  · rw [show n.log2 + k + 1 = (n.log2 + 1) + k by omega, Nat.pow_add]; exact Nat.mul_lt_mul_of_pos_right h2 hp

/-- Fewer than 54 digits: nothing is cut. -/
theorem rn_small (n : Nat) (h : n < 2 ^ 53) : rn n = n := by
  by_cases h0 : n = 0
  · subst h0; exact rn_zero
  · have : n.log2 < 53 := (Nat.log2_lt h0).2 h
    unfold rn
    rw [show n.log2 - 52 = 0 by omega]
    simp [rhe_one]

theorem rn_mul (n k : Nat) : rn (n * 2 ^ k) = rn n * 2 ^ k := by
  by_cases h0 : n = 0
  · subst h0; simp [rn_zero]
  have hp : 0 < 2 ^ k := Nat.two_pow_pos k
  have e := log2_mul_pow n k h0
  rcases Nat.lt_or_ge n.log2 52 with h | h
  · have hn : n < 2 ^ 53 := Nat.lt_of_lt_of_le Nat.lt_log2_self (Nat.pow_le_pow_right (by omega) (by omega))
    rw [rn_small n hn]
    unfold rn
    rw [e]
    obtain ⟨j, hj⟩ : ∃ j, k = j + (n.log2 + k - 52) := ⟨k - (n.log2 + k - 52), by omega⟩
    generalize n.log2 + k - 52 = d at *
    subst hj
    rw [Nat.pow_add, ← Nat.mul_assoc, rhe_exact _ _ (Nat.two_pow_pos d)]
  · unfold rn
    rw [e, show n.log2 + k - 52 = (n.log2 - 52) + k by omega, Nat.pow_add, rhe_mul _ _ _ hp, Nat.mul_assoc]

/-- 'm * 2 ^ k' with at most 53 digits (or 2 ^ 53 itself) is kept. -/
theorem rn_exact (m k : Nat) (h : m ≤ 2 ^ 53) : rn (m * 2 ^ k) = m * 2 ^ k := by
  rw [rn_mul]
  rcases Nat.lt_or_eq_of_le h with h | h
  · rw [rn_small m h]
  · have e : rn m = m := by
      rw [h, show (2 : Nat) ^ 53 = 1 * 2 ^ 53 by omega, rn_mul, rn_small 1 (by omega)]
    rw [e]

/-- How far, and to what. -/
theorem rn_near (n d : Nat) (h1 : 2 ^ (52 + d) ≤ n) (h2 : n < 2 ^ (53 + d)) : (∃ q, rn n = q * 2 ^ d) ∧ 2 * n ≤ 2 * rn n + 2 ^ d ∧ 2 * rn n ≤ 2 * n + 2 ^ d := by
  have h0 : n ≠ 0 := by have := Nat.two_pow_pos (52 + d); omega
  have e : n.log2 = 52 + d := (Nat.log2_eq_iff h0).2 ⟨h1, by rw [show 52 + d + 1 = 53 + d by omega]; exact h2⟩
  have ed : n.log2 - 52 = d := by omega
  unfold rn
  rw [ed]
  exact ⟨⟨_, rfl⟩, rhe_bounds n _ (Nat.two_pow_pos d)⟩

/-! ### The format -/
theorem d_least : double.leastPlace = -1074 := by decide
theorem d_binade : double.binade = 4503599627370496 := by decide
theorem d_inf : double.infRung = 9218868437227405312 := by decide
theorem d_sign : double.signWeight = 9223372036854775808 := by decide
theorem d_frac : double.fractionBits = 52 := rfl

/-- The word x stands for the finite number 'n * 2 ^ -1074' of the sign s. -/
def Is (x : Nat) (s : Bool) (n : Nat) : Prop := ∃ m e : Nat, m < 2 ^ 53 ∧ double.read x = .number s m ((e : Int) - 1074) ∧ n = m * 2 ^ e

theorem read_word (s : Bool) (r : Nat) (h : r < 9218868437227405312) :
    double.read (double.word s r) = if r < 4503599627370496 then .number s r (-1074) else .number s (4503599627370496 + r % 4503599627370496) (-1074 + (r / 4503599627370496 - 1 : Nat)) := by
  have e1 : (double.word s r / 9223372036854775808 % 2 == 1) = s := by
    unfold Format.word
    rw [d_sign]
    cases s
    · simp; omega
    · simp; omega
  have e2 : double.word s r % 9223372036854775808 = r := by
    unfold Format.word
    rw [d_sign]
    cases s
    · simp; omega
    · simp; omega
  unfold Format.read
  simp only [d_sign, d_binade, d_inf, d_least, e1, e2]
  split
  · rfl
  · first | rfl | rw [if_pos h]

theorem is_word_small (s : Bool) (r : Nat) (h : r < 2 ^ 52) : Is (double.word s r) s r := by
  have h' : r < 4503599627370496 := h
  refine ⟨r, 0, by omega, ?_, by simp⟩
  rw [read_word s r (by omega), if_pos h']; rfl

theorem is_word_normal (s : Bool) (d kept : Nat) (h1 : 2 ^ 52 ≤ kept) (h2 : kept ≤ 2 ^ 53) (hd : d ≤ 2044) : Is (double.word s (d * 2 ^ 52 + kept)) s (kept * 2 ^ d) := by
  have g1 : 4503599627370496 ≤ kept := h1
  have g2 : kept ≤ 9007199254740992 := h2
  have e0 : d * 2 ^ 52 + kept = d * 4503599627370496 + kept := rfl
  rw [e0]
  rcases Nat.lt_or_eq_of_le g2 with g | g
  · refine ⟨kept, d, g, ?_, rfl⟩
    rw [read_word s _ (by omega), if_neg (by omega)]
    have a1 : (d * 4503599627370496 + kept) % 4503599627370496 = kept - 4503599627370496 := by omega
    have a2 : (d * 4503599627370496 + kept) / 4503599627370496 = d + 1 := by omega
    rw [a1, a2, show 4503599627370496 + (kept - 4503599627370496) = kept by omega, show d + 1 - 1 = d by omega]
    congr 1
    all_goals omega
  · subst g
    refine ⟨4503599627370496, d + 1, by omega, ?_, by rw [Nat.pow_succ]; omega⟩
    rw [read_word s _ (by omega), if_neg (by omega)]
    have a1 : (d * 4503599627370496 + 9007199254740992) % 4503599627370496 = 0 := by omega
    have a2 : (d * 4503599627370496 + 9007199254740992) / 4503599627370496 = d + 2 := by omega
    rw [a1, a2]
    congr 1
    all_goals omega

/-- The unit's exponent; and where the whole numbers must stay below (behind plain names: 'omega' shall not reckon the powers). -/
def U : Nat := 1074
def T : Nat := 2097
theorem U_eq : U = 1074 := rfl
theorem T_eq : T = 2097 := rfl

/-- WHAT 'nearest' WRITES: the number's scaled magnitude, rounded. -/
theorem nearest_ok (s : Bool) (mag a b Z : Nat) (place : Int) (hp : place + 1074 = (a : Int) - (b : Int)) (h : Z * 2 ^ b = mag * 2 ^ a) (hZ : Z < 2 ^ T) : Is (double.nearest s mag place) s (rn Z) := by
  by_cases h0 : mag = 0
  · subst h0
    have hz : Z = 0 := by
      have := Nat.two_pow_pos b
      rcases Nat.eq_zero_or_pos Z with h' | h'
      · exact h'
      · have := Nat.mul_pos h' this; omega
    subst hz
    rw [rn_zero]
    unfold Format.nearest
    rw [if_pos rfl]
    exact is_word_small s 0 (by omega)
  have hZ0 : Z ≠ 0 := by
    rintro rfl
    have := Nat.mul_pos (Nat.pos_of_ne_zero h0) (Nat.two_pow_pos a)
    omega
  have hl : Z.log2 + b = mag.log2 + a := by rw [← log2_mul_pow Z b hZ0, ← log2_mul_pow mag a h0, h]
  have hlz : Z.log2 < T := (Nat.log2_lt hZ0).2 hZ
  rw [T_eq] at hlz
  have hlast : max (place + (mag.log2 : Int) - 52) (-1074) = ((Z.log2 - 52 : Nat) : Int) - 1074 := by omega
  unfold Format.nearest
  rw [if_neg h0]
  simp only [d_frac, d_least, d_binade, d_inf, cut_eq]
  rw [show ((52 : Nat) : Int) = 52 from rfl, hlast]
  generalize hd : Z.log2 - 52 = d at *
  have hd' : d ≤ 2044 := by omega
  have hkept : rhe (mag <<< (place - ((d : Int) - 1074)).toNat) (2 ^ ((d : Int) - 1074 - place).toNat) = rhe Z (2 ^ d) := by
    rw [Nat.shiftLeft_eq]
    have hb : 0 < 2 ^ b := Nat.two_pow_pos b
    rw [← rhe_mul Z (2 ^ d) (2 ^ b) hb, h]
    rcases Nat.le_total (d + b) a with hc | hc
    · have e1 : (place - ((d : Int) - 1074)).toNat = a - (d + b) := by omega
      have e2 : ((d : Int) - 1074 - place).toNat = 0 := by omega
      rw [e1, e2, Nat.pow_zero, rhe_one, ← Nat.pow_add]
      have e3 : mag * 2 ^ a = mag * 2 ^ (a - (d + b)) * 2 ^ (d + b) := by rw [Nat.mul_assoc, ← Nat.pow_add]; congr 2; omega
      rw [e3, rhe_exact _ _ (Nat.two_pow_pos _)]
    · have e1 : (place - ((d : Int) - 1074)).toNat = 0 := by omega
      have e2 : ((d : Int) - 1074 - place).toNat = d + b - a := by omega
      rw [e1, e2, Nat.pow_zero, Nat.mul_one, ← Nat.pow_add]
      have e3 : 2 ^ (d + b) = 2 ^ (d + b - a) * 2 ^ a := by rw [← Nat.pow_add]; congr 1; omega
      rw [e3, rhe_mul _ _ _ (Nat.two_pow_pos a)]
  rw [hkept, show ((d : Int) - 1074 - -1074).toNat = d by omega]
  have hrn : rn Z = rhe Z (2 ^ d) * 2 ^ d := by unfold rn; rw [hd]
  rw [hrn]
  rcases Nat.lt_or_ge Z (2 ^ 52) with hs | hs
  · have hld : Z.log2 < 52 := (Nat.log2_lt hZ0).2 hs
    have d0 : d = 0 := by omega
    subst d0
    simp only [Nat.pow_zero, rhe_one, Nat.zero_mul, Nat.zero_add, Nat.mul_one]
    have hs' : Z < 4503599627370496 := hs
    rw [Nat.min_eq_left (by omega)]
    exact is_word_small s Z hs
  · have hld : 52 ≤ Z.log2 := by
      rcases Nat.lt_or_ge Z.log2 52 with h' | h'
      · exact absurd ((Nat.log2_lt hZ0).1 h') (by omega)
      · exact h'
    have hlo : 2 ^ 52 * 2 ^ d ≤ Z := by rw [← Nat.pow_add, show 52 + d = Z.log2 by omega]; exact Nat.log2_self_le hZ0
    have hhi : Z < 2 ^ 53 * 2 ^ d := by rw [← Nat.pow_add, show 53 + d = Z.log2 + 1 by omega]; exact Nat.lt_log2_self
    have hb := rhe_bounds Z (2 ^ d) (Nat.two_pow_pos d)
    have k1 : 2 ^ 52 ≤ rhe Z (2 ^ d) := by
      unfold rhe
      have := (Nat.le_div_iff_mul_le (Nat.two_pow_pos d)).2 hlo
      omega
    have k2 : rhe Z (2 ^ d) ≤ 2 ^ 53 := by
      unfold rhe
      have := (Nat.div_lt_iff_lt_mul (Nat.two_pow_pos d)).2 hhi
      split <;> omega
    have g2 : rhe Z (2 ^ d) ≤ 9007199254740992 := k2
    rw [Nat.min_eq_left (by omega)]
    exact is_word_normal s d _ k1 k2 hd'

end Go.Proofs.Qxb6604785a.Fl
