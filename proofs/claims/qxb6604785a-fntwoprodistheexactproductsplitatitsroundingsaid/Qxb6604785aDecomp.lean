/-
  tpDecomp: |x| = m * 2^e with 2^52 <= m < 2^53.
-/
import Derived.Test.Qxb6604785aRange
namespace Go.Proofs.Qxb6604785a
set_option linter.unusedVariables false
open Go.RowKit
open Ieee (double Datum)

namespace Fl
/-- A positive word: its digits. -/
theorem val_parts {w n : Nat} (h : Val w (n : Int)) (h0 : 0 < n) : ∃ m j : Nat, m < 2 ^ 53 ∧ double.read w = .number false m ((j : Int) - 1074) ∧ n = m * 2 ^ j := by
  obtain ⟨s, k, ⟨m, e, hm, hr, rfl⟩, hX⟩ := h
  have hs : s = false := by
    cases s with
    | false => rfl
    | true => unfold sval at hX; simp only [if_true] at hX; omega
  subst hs
  unfold sval at hX
  simp only [Bool.false_eq_true, if_false] at hX
  exact ⟨m, e, hm, hr, by exact Int.ofNat_inj.1 hX⟩

theorem pow_le_of {m j p q : Nat} (hm : m < 2 ^ p) (h : 2 ^ q ≤ m * 2 ^ j) : q ≤ p + j := by
  rcases Nat.lt_or_ge (p + j) q with h' | h'
  · have h1 : m * 2 ^ j ≤ 2 ^ p * 2 ^ j := Nat.mul_le_mul_right _ (Nat.le_of_lt hm)
    rw [← Nat.pow_add] at h1
    have h2 : 2 ^ (p + j) < 2 ^ q := Nat.pow_lt_pow_right (by omega) h'
    omega
  · exact h'

theorem half_val {w n : Nat} (h : Val w (n : Int)) (h0 : 2 ^ (53 + U) ≤ n) (hT : n < 2 ^ T) : ∃ r n' : Nat, double.mul w 4602678819172646912 = some r ∧ Val r (n' : Int) ∧ n = n' * 2 ∧ 0 < n' := by
  obtain ⟨m, j, hm, hr, hn⟩ := val_parts h (Nat.lt_of_lt_of_le (Nat.two_pow_pos _) h0)
  have hj : 53 + U ≤ 53 + j := pow_le_of hm (hn ▸ h0)
  have hU := U_eq
  obtain ⟨i, rfl⟩ : ∃ i, j = i + 1 := ⟨j - 1, by omega⟩
  have hn' : n = m * 2 ^ i * 2 := by rw [hn, Nat.pow_succ, Nat.mul_assoc]
  have hlt : m * 2 ^ i < 2 ^ T := by omega
  obtain ⟨r, w1, v1⟩ := mul_val (Z := ((m * 2 ^ i : Nat) : Int)) h val_half (by
    rw [hn', Int.natCast_mul, Int.mul_assoc, show U = 1 + (52 + 1021) from rfl, Int.pow_add 2 1]; rfl) (by rw [Int.natAbs_natCast]; exact hlt)
  refine ⟨r, m * 2 ^ i, w1, ?_, hn', ?_⟩
  · have e : rnI ((m * 2 ^ i : Nat) : Int) = ((m * 2 ^ i : Nat) : Int) := by
      rw [Int.natCast_mul, cast_pow]; exact rnI_rep m i (by rw [Int.natAbs_natCast]; exact Nat.le_of_lt hm)
    rwa [e] at v1
  · have := Nat.two_pow_pos (53 + U)
    generalize 2 ^ (53 + U) = q at *
    omega

theorem twice_val {w n : Nat} (h : Val w (n : Int)) (h0 : 0 < n) (hT : n * 2 < 2 ^ T) : ∃ r : Nat, double.mul w 4611686018427387904 = some r ∧ Val r ((n * 2 : Nat) : Int) := by
  obtain ⟨m, j, hm, hr, hn⟩ := val_parts h h0
  have hn' : n * 2 = m * 2 ^ (j + 1) := by rw [hn, Nat.pow_succ, Nat.mul_assoc]
  obtain ⟨r, w1, v1⟩ := mul_val (Z := ((n * 2 : Nat) : Int)) h val_two (by
    rw [Int.natCast_mul, Int.mul_assoc, show 52 + 1023 = 1 + U from rfl, Int.pow_add 2 1]; rfl) (by rw [Int.natAbs_natCast]; exact hT)
  refine ⟨r, w1, ?_⟩
  have e : rnI ((n * 2 : Nat) : Int) = ((n * 2 : Nat) : Int) := by
    rw [hn', Int.natCast_mul, cast_pow]; exact rnI_rep m (j + 1) (by rw [Int.natAbs_natCast]; exact Nat.le_of_lt hm)
  rwa [e] at v1

theorem pow_lt_of {m j p q : Nat} (hm : m < 2 ^ p) (h : 2 ^ q ≤ m * 2 ^ j) : q < p + j := by
  have h1 : m * 2 ^ j < 2 ^ p * 2 ^ j := Nat.mul_lt_mul_of_pos_right hm (Nat.two_pow_pos j)
  rw [← Nat.pow_add] at h1
  rcases Nat.lt_or_ge q (p + j) with h' | h'
  · exact h'
  · have h2 : 2 ^ (p + j) ≤ 2 ^ q := Nat.pow_le_pow_right (by omega) h'
    omega

theorem toInt_whole (m i : Nat) : (Datum.number false m ((i : Int))).toInt .zero = some ((m * 2 ^ i : Nat) : Int) := by
  unfold Datum.toInt Datum.integral
  have e : (-(i : Int)).toNat = 0 := by omega
  have e2 : ((i : Int)).toNat = i := by omega
  simp only [e, e2, signed_eq, Nat.pow_zero, Nat.mul_one]
  unfold sval Ieee.Toward.cut
  simp [Nat.shiftLeft_eq]

theorem toInt_val {w n : Nat} (h : Val w (n : Int)) (h0 : 2 ^ (52 + U) ≤ n) (h1 : n < 2 ^ (53 + U)) : ∃ m : Nat, floatToIntVal .f64 w .u64 = some (m : Int) ∧ n = m * 2 ^ U ∧ 4503599627370496 ≤ m ∧ m < 9007199254740992 := by
  obtain ⟨m, j, hm, hr, hn⟩ := val_parts h (Nat.lt_of_lt_of_le (Nat.two_pow_pos _) h0)
  have hj : 52 + U < 53 + j := pow_lt_of hm (hn ▸ h0)
  obtain ⟨i, rfl⟩ : ∃ i, j = i + U := ⟨j - U, by omega⟩
  have hn' : n = m * 2 ^ i * 2 ^ U := by rw [hn, Nat.mul_assoc, ← Nat.pow_add]
  have hlo : 4503599627370496 ≤ m * 2 ^ i := by
    have h2 : 2 ^ 52 * 2 ^ U ≤ m * 2 ^ i * 2 ^ U := by rw [← hn', ← Nat.pow_add]; exact h0
    have h3 : 2 ^ 52 ≤ m * 2 ^ i := Nat.le_of_mul_le_mul_right h2 (Nat.two_pow_pos U)
    omega
  have hhi : m * 2 ^ i < 9007199254740992 := by
    have h2 : m * 2 ^ i * 2 ^ U < 2 ^ 53 * 2 ^ U := by rw [← hn', ← Nat.pow_add]; exact h1
    have h3 : m * 2 ^ i < 2 ^ 53 := Nat.lt_of_mul_lt_mul_right h2
    omega
  refine ⟨m * 2 ^ i, ?_, hn', hlo, hhi⟩
  have e : (FloatKind.f64.decode w).toInt .zero = some ((m * 2 ^ i : Nat) : Int) := by
    show (double.read w).toInt .zero = _
    rw [hr, show (((i + U : Nat) : Int) - 1074) = (i : Int) by rw [U_eq]; omega, toInt_whole]
  unfold floatToIntVal
  rw [e]
  generalize m * 2 ^ i = q at *
  have e1 : IntKind.u64.min = 0 := by decide
  have e2 : IntKind.u64.max = 18446744073709551615 := by decide
  simp only [e1, e2]
  rw [if_pos (by omega)]
end Fl

namespace Fl
theorem v53 : Val 4845873199050653696 ((2 ^ (53 + U) : Nat) : Int) := by
  have h := val_p2 4845873199050653696 (1 + U) (by decide)
  rw [show 52 + (1 + U) = 53 + U by omega] at h
  rw [cast_pow]; exact h
theorem v52 : Val 4841369599423283200 ((2 ^ (52 + U) : Nat) : Int) := by
  rw [cast_pow]; exact val_p2 4841369599423283200 U (by decide)
end Fl

/-- What tpDecomp finds of |x|. -/
structure Dec (n m : Nat) (e : Int) (a b : Nat) : Prop where
  he : e = (a : Int) - (b : Int)
  hn : n * 2 ^ b = m * 2 ^ (a + Fl.U)
  m1 : 4503599627370496 ≤ m
  m2 : m < 9007199254740992
  ha : a ≤ 2097
  hb : b ≤ 1127

def DecPost (n : Nat) (e : Ending) : Prop := ∃ (m : Nat) (k : Int) (a b : Nat), e = .returned (.tuple #[.int .u64 m, .int .i64 k]) ∧ Dec n m k a b
theorem DecPost.mk {n m : Nat} {k : Int} {a b : Nat} (h : Dec n m k a b) : DecPost n (.returned (.tuple #[.int .u64 m, .int .i64 k])) := ⟨m, k, a, b, rfl, h⟩

open Fl in
set_option maxHeartbeats 2000000 in
/-- The loops, from a positive number on. -/
theorem decomp_pos (x n : Nat) (w : World) (hx : Val x (n : Int)) (h0 : 0 < n) (hT : n < 2 ^ T) :
    Calls Try.prog 9 #[.float .f64 x] w fun e w' => DecPost n e ∧ w' = w := by
  have o1 : FloatKind.f64.format.order x 0 = some .gt := order_gt hx val_zero (by omega)
  have HX := hide hx
  have H0 := hide h0
  have HT := hide hT
  clear hx h0 hT
  go_enter Try.func9, Try.ntmps9
  go_wp2
  go_loop [0, 4] (fun sx se => ∃ y p k : Nat, sx = .float .f64 y ∧ se = .int .i64 k ∧ k ≤ 2097 ∧ Hid (Val y (p : Int) ∧ 0 < p ∧ n = p * 2 ^ k)) (fun _ se => 2098 - (intOf se).toNat)
  case atStart => exact ⟨x, n, 0, rfl, rfl, by omega, unhide HX, unhide H0, by simp⟩
  case round =>
    obtain ⟨y, p, k, rfl, rfl, hk, R⟩ := hrel
    by_cases hge : Hid (2 ^ (53 + U) ≤ p)
    · obtain ⟨hy, hp, hn⟩ := unhide R
      have hkT : k + 1 < T := by
        have h1 := unhide hge
        have h2 := unhide HT
        rw [hn] at h2
        have h3 : 2 ^ (53 + U) * 2 ^ k ≤ p * 2 ^ k := Nat.mul_le_mul_right _ h1
        rw [← Nat.pow_add] at h3
        have h4 : 53 + U + k < T := by
          rcases Nat.lt_or_ge (53 + U + k) T with h' | h'
          · exact h'
          · have := Nat.pow_le_pow_right (show 0 < 2 by omega) h'
            generalize 2 ^ (53 + U + k) = q1 at *
            generalize 2 ^ T = q2 at *
            omega
        omega
      obtain ⟨r, p', hm, hr, hp', h0'⟩ := half_val hy (unhide hge) (Nat.lt_of_le_of_lt (by rw [hn]; exact Nat.le_mul_of_pos_right _ (Nat.two_pow_pos k)) (unhide HT))
      have og := order_ge hy v53 (Int.ofNat_le.2 (unhide hge))
      have rm := run_mul hm
      have R' : Hid (Val r (p' : Int) ∧ 0 < p' ∧ n = p' * 2 ^ (k + 1)) := ⟨hr, h0', by rw [hn, hp', Nat.pow_succ, Nat.mul_assoc, Nat.mul_comm 2]⟩
      have hk' : k + 1 ≤ 2097 := by have := T_eq; omega
      clear hy hp hn hr hp' h0' R hge hm hkT
      go_wp2
      go_round
      case rel => exact ⟨r, p', k + 1, rfl, by go_num, hk', R'⟩
      case measure => simp [intOf]; omega
    · obtain ⟨hy, hp, hn⟩ := unhide R
      have hlt : p < 2 ^ (53 + U) := Nat.lt_of_not_le hge
      have ol := order_lt hy v53 (Int.ofNat_lt.2 hlt)
      have R0 : Hid (Val y (p : Int) ∧ 2 ^ 0 ≤ p ∧ p < 2 ^ (53 + U) ∧ n * 2 ^ 0 = p * 2 ^ k) := ⟨hy, hp, hlt, by rw [Nat.pow_zero, Nat.mul_one]; exact hn⟩
      clear hy hp hn hlt R hge
      go_wp2
      go_loop [0, 4] (fun sx se => ∃ y p b : Nat, sx = .float .f64 y ∧ se = .int .i64 ((k : Int) - (b : Int)) ∧ b ≤ 1127 ∧ Hid (Val y (p : Int) ∧ 2 ^ b ≤ p ∧ p < 2 ^ (53 + U) ∧ n * 2 ^ b = p * 2 ^ k)) (fun _ se => (1128 + intOf se - (k : Int)).toNat)
      case atStart => exact ⟨y, p, 0, rfl, by go_num, by omega, R0⟩
      case round =>
        clear R0 ol
        obtain ⟨y', p', b, rfl, rfl, hb, R⟩ := hrel
        obtain ⟨hy, hp, hlt, hn⟩ := unhide R
        by_cases hge : Hid (2 ^ (52 + U) ≤ p')
        · obtain ⟨m, hm, hpm, m1, m2⟩ := toInt_val hy (unhide hge) hlt
          have rc : ∀ w, (convert 22 26 (.float .f64 y')).run Try.prog w = .ok (.int .u64 m) w := fun w => run_convert_float_int w 22 26 .f64 .u64 y' m (by rw [Try.underlying22]; rfl) Try.underlying26 hm
          have D : Hid (Dec n m ((k : Int) - (b : Int)) k b) := ⟨rfl, by rw [hn, hpm, Nat.pow_add, Nat.mul_assoc, Nat.mul_comm (2 ^ U)], m1, m2, hk, hb⟩
          rcases order_tri hy v52 with ⟨o, c⟩ | ⟨o, c⟩ | ⟨o, c⟩
          · exact absurd (Int.ofNat_lt.1 c) (Nat.not_lt.2 (unhide hge))
          all_goals
            clear hy hp hlt hn R hge hm hpm m1 m2 c
            go_wp2
            go_ret2
            exact ⟨DecPost.mk (unhide D), rfl⟩
        · have hlt2 : p' < 2 ^ (52 + U) := Nat.lt_of_not_le hge
          have ol := order_lt hy v52 (Int.ofNat_lt.2 hlt2)
          have h53 : 2 ^ (53 + U) = 2 ^ (52 + U) * 2 := by rw [show 53 + U = (52 + U) + 1 by omega, Nat.pow_succ]
          have hlt3 : p' * 2 < 2 ^ (53 + U) := by
            rw [h53]
            generalize 2 ^ (52 + U) = q at *
            omega
          have hpb : 2 ^ (b + 1) ≤ p' * 2 := by rw [Nat.pow_succ]; exact Nat.mul_le_mul_right 2 hp
          have hb' : b + 1 ≤ 1127 := by
            have h1 : b + 1 < 53 + U := by
              rcases Nat.lt_or_ge (b + 1) (53 + U) with h' | h'
              · exact h'
              · have := Nat.pow_le_pow_right (show 0 < 2 by omega) h'
                generalize 2 ^ (b + 1) = q1 at *
                generalize 2 ^ (53 + U) = q2 at *
                omega
            have := U_eq
            omega
          obtain ⟨r, hm, hr⟩ := twice_val hy (Nat.lt_of_lt_of_le (Nat.two_pow_pos b) hp) (Nat.lt_of_lt_of_le hlt3 (Nat.pow_le_pow_right (by omega) (by rw [U_eq, T_eq]; omega)))
          have rm := run_mul hm
          have R' : Hid (Val r ((p' * 2 : Nat) : Int) ∧ 2 ^ (b + 1) ≤ p' * 2 ∧ p' * 2 < 2 ^ (53 + U) ∧ n * 2 ^ (b + 1) = p' * 2 * 2 ^ k) := ⟨hr, hpb, hlt3, by rw [Nat.pow_succ, ← Nat.mul_assoc, hn, Nat.mul_assoc, Nat.mul_assoc, Nat.mul_comm 2]⟩
          clear hy hp hlt hn R hge hlt2 h53 hlt3 hpb hm hr
          go_wp2
          go_round
          case rel => exact ⟨r, p' * 2, b + 1, rfl, by go_num, hb', R'⟩
          case measure => simp [intOf]; omega

open Fl in
set_option maxHeartbeats 2000000 in
/-- The same from a negative number on. -/
theorem decomp_neg (x n : Nat) (w : World) (o1 : FloatKind.f64.format.order x 0 = some .lt) (hx : Val (Op.negFloat .f64 x) (n : Int)) (h0 : 0 < n) (hT : n < 2 ^ T) :
    Calls Try.prog 9 #[.float .f64 x] w fun e w' => DecPost n e ∧ w' = w := by
  have rn := run_neg_float
  have HX := hide hx
  have H0 := hide h0
  have HT := hide hT
  clear hx h0 hT
  go_enter Try.func9, Try.ntmps9
  go_wp2
  go_loop [0, 4] (fun sx se => ∃ y p k : Nat, sx = .float .f64 y ∧ se = .int .i64 k ∧ k ≤ 2097 ∧ Hid (Val y (p : Int) ∧ 0 < p ∧ n = p * 2 ^ k)) (fun _ se => 2098 - (intOf se).toNat)
  case atStart => exact ⟨Op.negFloat .f64 x, n, 0, rfl, rfl, by omega, unhide HX, unhide H0, by simp⟩
  case round =>
    obtain ⟨y, p, k, rfl, rfl, hk, R⟩ := hrel
    by_cases hge : Hid (2 ^ (53 + U) ≤ p)
    · obtain ⟨hy, hp, hn⟩ := unhide R
      have hkT : k + 1 < T := by
        have h1 := unhide hge
        have h2 := unhide HT
        rw [hn] at h2
        have h3 : 2 ^ (53 + U) * 2 ^ k ≤ p * 2 ^ k := Nat.mul_le_mul_right _ h1
        rw [← Nat.pow_add] at h3
        have h4 : 53 + U + k < T := by
          rcases Nat.lt_or_ge (53 + U + k) T with h' | h'
          · exact h'
          · have := Nat.pow_le_pow_right (show 0 < 2 by omega) h'
            generalize 2 ^ (53 + U + k) = q1 at *
            generalize 2 ^ T = q2 at *
            omega
        omega
      obtain ⟨r, p', hm, hr, hp', h0'⟩ := half_val hy (unhide hge) (Nat.lt_of_le_of_lt (by rw [hn]; exact Nat.le_mul_of_pos_right _ (Nat.two_pow_pos k)) (unhide HT))
      have og := order_ge hy v53 (Int.ofNat_le.2 (unhide hge))
      have rm := run_mul hm
      have R' : Hid (Val r (p' : Int) ∧ 0 < p' ∧ n = p' * 2 ^ (k + 1)) := ⟨hr, h0', by rw [hn, hp', Nat.pow_succ, Nat.mul_assoc, Nat.mul_comm 2]⟩
      have hk' : k + 1 ≤ 2097 := by have := T_eq; omega
      clear hy hp hn hr hp' h0' R hge hm hkT
      go_wp2
      go_round
      case rel => exact ⟨r, p', k + 1, rfl, by go_num, hk', R'⟩
      case measure => simp [intOf]; omega
    · obtain ⟨hy, hp, hn⟩ := unhide R
      have hlt : p < 2 ^ (53 + U) := Nat.lt_of_not_le hge
      have ol := order_lt hy v53 (Int.ofNat_lt.2 hlt)
      have R0 : Hid (Val y (p : Int) ∧ 2 ^ 0 ≤ p ∧ p < 2 ^ (53 + U) ∧ n * 2 ^ 0 = p * 2 ^ k) := ⟨hy, hp, hlt, by rw [Nat.pow_zero, Nat.mul_one]; exact hn⟩
      clear hy hp hn hlt R hge
      go_wp2
      go_loop [0, 4] (fun sx se => ∃ y p b : Nat, sx = .float .f64 y ∧ se = .int .i64 ((k : Int) - (b : Int)) ∧ b ≤ 1127 ∧ Hid (Val y (p : Int) ∧ 2 ^ b ≤ p ∧ p < 2 ^ (53 + U) ∧ n * 2 ^ b = p * 2 ^ k)) (fun _ se => (1128 + intOf se - (k : Int)).toNat)
      case atStart => exact ⟨y, p, 0, rfl, by go_num, by omega, R0⟩
      case round =>
        clear R0 ol
        obtain ⟨y', p', b, rfl, rfl, hb, R⟩ := hrel
        obtain ⟨hy, hp, hlt, hn⟩ := unhide R
        by_cases hge : Hid (2 ^ (52 + U) ≤ p')
        · obtain ⟨m, hm, hpm, m1, m2⟩ := toInt_val hy (unhide hge) hlt
          have rc : ∀ w, (convert 22 26 (.float .f64 y')).run Try.prog w = .ok (.int .u64 m) w := fun w => run_convert_float_int w 22 26 .f64 .u64 y' m (by rw [Try.underlying22]; rfl) Try.underlying26 hm
          have D : Hid (Dec n m ((k : Int) - (b : Int)) k b) := ⟨rfl, by rw [hn, hpm, Nat.pow_add, Nat.mul_assoc, Nat.mul_comm (2 ^ U)], m1, m2, hk, hb⟩
          rcases order_tri hy v52 with ⟨o, c⟩ | ⟨o, c⟩ | ⟨o, c⟩
          · exact absurd (Int.ofNat_lt.1 c) (Nat.not_lt.2 (unhide hge))
          all_goals
            clear hy hp hlt hn R hge hm hpm m1 m2 c
            go_wp2
            go_ret2
            exact ⟨DecPost.mk (unhide D), rfl⟩
        · have hlt2 : p' < 2 ^ (52 + U) := Nat.lt_of_not_le hge
          have ol := order_lt hy v52 (Int.ofNat_lt.2 hlt2)
          have h53 : 2 ^ (53 + U) = 2 ^ (52 + U) * 2 := by rw [show 53 + U = (52 + U) + 1 by omega, Nat.pow_succ]
          have hlt3 : p' * 2 < 2 ^ (53 + U) := by
            rw [h53]
            generalize 2 ^ (52 + U) = q at *
            omega
          have hpb : 2 ^ (b + 1) ≤ p' * 2 := by rw [Nat.pow_succ]; exact Nat.mul_le_mul_right 2 hp
          have hb' : b + 1 ≤ 1127 := by
            have h1 : b + 1 < 53 + U := by
              rcases Nat.lt_or_ge (b + 1) (53 + U) with h' | h'
              · exact h'
              · have := Nat.pow_le_pow_right (show 0 < 2 by omega) h'
                generalize 2 ^ (b + 1) = q1 at *
                generalize 2 ^ (53 + U) = q2 at *
                omega
            have := U_eq
            omega
          obtain ⟨r, hm, hr⟩ := twice_val hy (Nat.lt_of_lt_of_le (Nat.two_pow_pos b) hp) (Nat.lt_of_lt_of_le hlt3 (Nat.pow_le_pow_right (by omega) (by rw [U_eq, T_eq]; omega)))
          have rm := run_mul hm
          have R' : Hid (Val r ((p' * 2 : Nat) : Int) ∧ 2 ^ (b + 1) ≤ p' * 2 ∧ p' * 2 < 2 ^ (53 + U) ∧ n * 2 ^ (b + 1) = p' * 2 * 2 ^ k) := ⟨hr, hpb, hlt3, by rw [Nat.pow_succ, ← Nat.mul_assoc, hn, Nat.mul_assoc, Nat.mul_assoc, Nat.mul_comm 2]⟩
          clear hy hp hlt hn R hge hlt2 h53 hlt3 hpb hm hr
          go_wp2
          go_round
          case rel => exact ⟨r, p' * 2, b + 1, rfl, by go_num, hb', R'⟩
          case measure => simp [intOf]; omega

open Fl in
theorem decomp_any (x : Nat) (X : Int) (w : World) (hX : Val x X) (hne : X ≠ 0) (hT : X.natAbs < 2 ^ T) : Calls Try.prog 9 #[.float .f64 x] w fun e w' => DecPost X.natAbs e ∧ w' = w := by
  by_cases h : 0 < X
  · exact decomp_pos x X.natAbs w (by rw [show ((X.natAbs : Nat) : Int) = X by omega]; exact hX) (by omega) hT
  · exact decomp_neg x X.natAbs w (order_lt hX val_zero (by omega)) (by rw [show ((X.natAbs : Nat) : Int) = -X by omega]; exact val_neg hX) (by omega) hT

end Go.Proofs.Qxb6604785a
