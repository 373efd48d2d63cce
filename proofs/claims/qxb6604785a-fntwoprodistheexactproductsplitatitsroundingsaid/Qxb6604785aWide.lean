/-
  THE 128-BIT INTEGERS OF THE LAWS' PACKAGE: tpAdd, tpNeg, tpMul, tpShl reckon modulo 2 ^ 128.
-/
import Derived.Test.Qxb6604785aWalksA
import Derived.Laws.BitsAllLaws
namespace Go.Proofs.Qxb6604785a
set_option linter.unusedVariables false
open Go.RowKit

def hi64 (Y : Int) : Int := (Y / 18446744073709551616) % 18446744073709551616
def lo64 (Y : Int) : Int := Y % 18446744073709551616
theorem hi64_bd (Y : Int) : 0 ≤ hi64 Y ∧ hi64 Y < 18446744073709551616 := by unfold hi64; omega
theorem lo64_bd (Y : Int) : 0 ≤ lo64 Y ∧ lo64 Y < 18446744073709551616 := by unfold lo64; omega
/-- The value of such a struct. -/
def u128 (Y : Int) : Value := .agg #[.int .u64 (hi64 Y), .int .u64 (lo64 Y)]

/-! ### tpAdd -/
theorem add_lo (X Y : Int) : IntKind.u64.wrap (lo64 X + lo64 Y) = lo64 (X + Y) := by rw [IntKind.wrap_u64]; unfold lo64; omega
theorem add_hi1 (X Y : Int) (h : IntKind.u64.wrap (lo64 X + lo64 Y) < lo64 X) : IntKind.u64.wrap (IntKind.u64.wrap (hi64 X + hi64 Y) + 1) = hi64 (X + Y) := by
  rw [IntKind.wrap_u64] at h ⊢; rw [IntKind.wrap_u64]; unfold lo64 at h; unfold hi64; omega
theorem add_hi0 (X Y : Int) (h : ¬ IntKind.u64.wrap (lo64 X + lo64 Y) < lo64 X) : IntKind.u64.wrap (IntKind.u64.wrap (hi64 X + hi64 Y)) = hi64 (X + Y) := by
  rw [IntKind.wrap_u64] at h ⊢; rw [IntKind.wrap_u64]; unfold lo64 at h; unfold hi64; omega

theorem agg_eq {a b c d : Int} (h1 : a = c) (h2 : b = d) : Value.agg #[.int .u64 a, .int .u64 b] = .agg #[.int .u64 c, .int .u64 d] := by rw [h1, h2]

set_option maxHeartbeats 400000 in
theorem add_c1 (a b c d : Int) (w : World) (h : IntKind.u64.wrap (b + d) < b) :
    Calls Try.prog 13 #[.agg #[.int .u64 a, .int .u64 b], .agg #[.int .u64 c, .int .u64 d]] w fun x w' =>
      x = .returned (.agg #[.int .u64 (IntKind.u64.wrap (IntKind.u64.wrap (a + c) + 1)), .int .u64 (IntKind.u64.wrap (b + d))]) ∧ Below w.heap.size w w' := by
  go_enter Try.func13, Try.ntmps13
  go_wp2
  refine bodyPost_ret (v := .agg #[.int .u64 (IntKind.u64.wrap (IntKind.u64.wrap (a + c) + 1)), .int .u64 (IntKind.u64.wrap (b + d))]) (by simp [results, Try.results13, go_sem]) rfl ⟨rfl, ?_⟩
  exact (((Below.refl _ _).alloc (Nat.le_refl _) _).alloc (by simp) _).alloc (by simp; omega) _
set_option maxHeartbeats 400000 in
theorem add_c0 (a b c d : Int) (w : World) (h : ¬ IntKind.u64.wrap (b + d) < b) :
    Calls Try.prog 13 #[.agg #[.int .u64 a, .int .u64 b], .agg #[.int .u64 c, .int .u64 d]] w fun x w' =>
      x = .returned (.agg #[.int .u64 (IntKind.u64.wrap (IntKind.u64.wrap (a + c))), .int .u64 (IntKind.u64.wrap (b + d))]) ∧ Below w.heap.size w w' := by
  go_enter Try.func13, Try.ntmps13
  go_wp2
  refine bodyPost_ret (v := .agg #[.int .u64 (IntKind.u64.wrap (IntKind.u64.wrap (a + c))), .int .u64 (IntKind.u64.wrap (b + d))]) (by simp [results, Try.results13, go_sem]) rfl ⟨rfl, ?_⟩
  exact (((Below.refl _ _).alloc (Nat.le_refl _) _).alloc (by simp) _).alloc (by simp; omega) _

theorem add_any (a b c d X Y : Int) (w : World) (ha : a = hi64 X) (hb : b = lo64 X) (hc : c = hi64 Y) (hd : d = lo64 Y) :
    Calls Try.prog 13 #[.agg #[.int .u64 a, .int .u64 b], .agg #[.int .u64 c, .int .u64 d]] w fun x w' => x = .returned (.agg #[.int .u64 (hi64 (X + Y)), .int .u64 (lo64 (X + Y))]) ∧ Below w.heap.size w w' := by
  subst ha hb hc hd
  by_cases h : IntKind.u64.wrap (lo64 X + lo64 Y) < lo64 X
  · refine (add_c1 _ _ _ _ w h).mono ?_
    rintro x w' ⟨rfl, hb⟩
    rw [add_hi1 X Y h, add_lo]
    exact ⟨rfl, hb⟩
  · refine (add_c0 _ _ _ _ w h).mono ?_
    rintro x w' ⟨rfl, hb⟩
    rw [add_hi0 X Y h, add_lo]
    exact ⟨rfl, hb⟩

/-! ### tpNeg -/
theorem not_nat (a : Nat) (ha : a < 18446744073709551616) : 18446744073709551615 ^^^ a = 18446744073709551615 - a := by
  apply Nat.eq_of_testBit_eq
  intro i
  have e1 : (18446744073709551615 : Nat) = 2 ^ 64 - 1 := rfl
  have e2 : 18446744073709551615 - a = 2 ^ 64 - (a + 1) := by omega
  rw [Nat.testBit_xor, e2, e1, Nat.testBit_two_pow_sub_one, Nat.testBit_two_pow_sub_succ ha]
  by_cases hi : i < 64
  · simp [hi]
  · have : a.testBit i = false := Nat.testBit_lt_two_pow (Nat.lt_of_lt_of_le ha (by
      have := Nat.pow_le_pow_right (show 0 < 2 by omega) (show 64 ≤ i by omega)
      exact this))
    simp [hi, this]
theorem not_u64 (a : Int) (h0 : 0 ≤ a) (h1 : a < 18446744073709551616) : bits .xor .u64 IntKind.u64.max a = 18446744073709551615 - a := by
  have hm : IntKind.u64.max = 18446744073709551615 := by decide
  rw [hm, u64_xor _ _ (by omega) (by omega) h0 h1]
  obtain ⟨A, rfl⟩ := Int.eq_ofNat_of_zero_le h0
  show (((18446744073709551615 : Nat) ^^^ A : Nat) : Int) = _
  rw [not_nat A (by omega)]
  omega

set_option maxHeartbeats 400000 in
theorem neg_any (a b X : Int) (w : World) (ha : a = hi64 X) (hb : b = lo64 X) :
    Calls Try.prog 11 #[.agg #[.int .u64 a, .int .u64 b]] w fun x w' => x = .returned (.agg #[.int .u64 (hi64 (-X)), .int .u64 (lo64 (-X))]) ∧ Below w.heap.size w w' := by
  have ha1 := hi64_bd X
  have hb1 := lo64_bd X
  have HA : Hid (a = hi64 X) := ha
  have HB : Hid (b = lo64 X) := hb
  have a0 : 0 ≤ a := by omega
  have a1 : a < 18446744073709551616 := by omega
  have b0 : 0 ≤ b := by omega
  have b1 : b < 18446744073709551616 := by omega
  clear ha hb ha1 hb1
  go_enter Try.func11, Try.ntmps11
  go_wp2_with fail
  refine (add_any _ _ _ _ (-1 - X) 1 _ ?_ ?_ ?_ ?_).mono ?_
  · rw [not_u64 a a0 a1, HA.out]; unfold hi64; omega
  · rw [not_u64 b b0 b1, HB.out]; unfold lo64; omega
  · rfl
  · rfl
  rintro x w1 ⟨rfl, d⟩
  rw [show -1 - X + 1 = -X by omega]
  have hbel : Below w.heap.size w w1 := (((Below.refl _ _).alloc (Nat.le_refl _) _).alloc (by simp) _).trans (d.mono (by simp; omega))
  have c0 : w1.cell? ⟨w.heap.size + 1, 0, none⟩ = some (.int .u64 0) := (d.cell (p := ⟨w.heap.size + 1, 0, none⟩) (by simp)).trans (by simp [go_sem])
  have c1 : w1.cell? ⟨w.heap.size + 1, 1, none⟩ = some (.int .u64 0) := (d.cell (p := ⟨w.heap.size + 1, 1, none⟩) (by simp)).trans (by simp [go_sem])
  have f0 : w1.frozen? ⟨w.heap.size + 1, 0, none⟩ = false := (d.frozen (p := ⟨w.heap.size + 1, 0, none⟩) (by simp)).trans (by simp [go_sem])
  have f1 : w1.frozen? ⟨w.heap.size + 1, 1, none⟩ = false := (d.frozen (p := ⟨w.heap.size + 1, 1, none⟩) (by simp)).trans (by simp [go_sem])
  clear d
  go_wp2
  refine bodyPost_ret (v := .agg #[.int .u64 (hi64 (-X)), .int .u64 (lo64 (-X))]) (by simp [results, Try.results11, go_sem, c0, c1]) rfl ⟨rfl, ?_⟩
  exact (hbel.setCell (by simp) _).setCell (by simp) _

/-! ### tpMul -/
theorem and32 (a : Int) (h0 : 0 ≤ a) (h1 : a < 18446744073709551616) : bits .and .u64 a 4294967295 = a % 4294967296 := by
  rw [u64_and a _ h0 h1 (by omega) (by omega)]
  obtain ⟨A, rfl⟩ := Int.eq_ofNat_of_zero_le h0
  show ((A &&& (2 ^ 32 - 1) : Nat) : Int) = _
  rw [Nat.and_two_pow_sub_one_eq_mod]; omega

/-- What the Go text reckons. -/
def mulHi (x y : Int) : Int :=
  IntKind.u64.wrap (IntKind.u64.wrap (IntKind.u64.wrap (x / 4294967296 * (y / 4294967296)) + IntKind.u64.wrap (IntKind.u64.wrap (x / 4294967296 * bits .and .u64 y 4294967295) + IntKind.u64.wrap (bits .and .u64 x 4294967295 * bits .and .u64 y 4294967295) / 4294967296) / 4294967296) +
    IntKind.u64.wrap (bits .and .u64 (IntKind.u64.wrap (IntKind.u64.wrap (x / 4294967296 * bits .and .u64 y 4294967295) + IntKind.u64.wrap (bits .and .u64 x 4294967295 * bits .and .u64 y 4294967295) / 4294967296)) 4294967295 + IntKind.u64.wrap (bits .and .u64 x 4294967295 * (y / 4294967296))) / 4294967296)

theorem mul_bd {a b m n : Int} (a0 : 0 ≤ a) (a1 : a ≤ m) (b0 : 0 ≤ b) (b1 : b ≤ n) : 0 ≤ a * b ∧ a * b ≤ m * n :=
  ⟨Int.mul_nonneg a0 b0, Int.mul_le_mul a1 b1 b0 (by omega)⟩

theorem mulHi_eq (x y : Int) (hx : 0 ≤ x) (hx' : x ≤ 9007199254740991) (hy : 0 ≤ y) (hy' : y ≤ 9007199254740991) : mulHi x y = hi64 (x * y) := by
  have ex : x = x / 4294967296 * 4294967296 + x % 4294967296 := by omega
  have ey : y = y / 4294967296 * 4294967296 + y % 4294967296 := by omega
  have hP : x * y = x / 4294967296 * (y / 4294967296) * 18446744073709551616 + (x / 4294967296 * (y % 4294967296) + x % 4294967296 * (y / 4294967296)) * 4294967296 + x % 4294967296 * (y % 4294967296) := by
    generalize hx1 : x / 4294967296 = x1 at *
    generalize hx0 : x % 4294967296 = x0 at *
    generalize hy1 : y / 4294967296 = y1 at *
    generalize hy0 : y % 4294967296 = y0 at *
    rw [ex, ey, Int.add_mul, Int.mul_add, Int.mul_add, Int.add_mul]
    have e1 : x1 * 4294967296 * (y1 * 4294967296) = x1 * y1 * 18446744073709551616 := by
      rw [show (18446744073709551616 : Int) = 4294967296 * 4294967296 from rfl]; simp only [Int.mul_assoc, Int.mul_left_comm]
    have e2 : x1 * 4294967296 * y0 = x1 * y0 * 4294967296 := by rw [Int.mul_assoc, Int.mul_comm 4294967296 y0, ← Int.mul_assoc]
    have e3 : x0 * (y1 * 4294967296) = x0 * y1 * 4294967296 := by rw [Int.mul_assoc]
    rw [e1, e2, e3]; omega
  have b1 : 0 ≤ x / 4294967296 ∧ x / 4294967296 ≤ 2097151 := by omega
  have b2 : 0 ≤ x % 4294967296 ∧ x % 4294967296 ≤ 4294967295 := by omega
  have b3 : 0 ≤ y / 4294967296 ∧ y / 4294967296 ≤ 2097151 := by omega
  have b4 : 0 ≤ y % 4294967296 ∧ y % 4294967296 ≤ 4294967295 := by omega
  unfold mulHi
  rw [and32 x hx (by omega), and32 y hy (by omega)]
  have c1 := mul_bd b1.1 b1.2 b3.1 b3.2
  have c2 := mul_bd b1.1 b1.2 b4.1 b4.2
  have c3 := mul_bd b2.1 b2.2 b3.1 b3.2
  have c4 := mul_bd b2.1 b2.2 b4.1 b4.2
  rw [hP]
  clear hP ex ey
  generalize x / 4294967296 * (y / 4294967296) = p11 at *
  generalize x / 4294967296 * (y % 4294967296) = p10 at *
  generalize x % 4294967296 * (y / 4294967296) = p01 at *
  generalize x % 4294967296 * (y % 4294967296) = p00 at *
  have w1 : IntKind.u64.wrap p00 = p00 := by rw [IntKind.wrap_u64]; omega
  have w2 : IntKind.u64.wrap p10 = p10 := by rw [IntKind.wrap_u64]; omega
  have w3 : IntKind.u64.wrap p01 = p01 := by rw [IntKind.wrap_u64]; omega
  have w4 : IntKind.u64.wrap p11 = p11 := by rw [IntKind.wrap_u64]; omega
  have w5 : IntKind.u64.wrap (p10 + p00 / 4294967296) = p10 + p00 / 4294967296 := by rw [IntKind.wrap_u64]; omega
  rw [w1, w2, w3, w4, w5, and32 _ (by omega) (by omega)]
  rw [IntKind.wrap_u64, IntKind.wrap_u64, IntKind.wrap_u64]
  unfold hi64
  omega

set_option maxHeartbeats 400000 in
theorem mul_core (x y : Int) (w : World) (hx : 0 ≤ x) (hx' : x ≤ 9007199254740991) (hy : 0 ≤ y) (hy' : y ≤ 9007199254740991) :
    Calls Try.prog 10 #[.int .u64 x, .int .u64 y] w fun e w' => e = .returned (.agg #[.int .u64 (mulHi x y), .int .u64 (IntKind.u64.wrap (x * y))]) ∧ Below w.heap.size w w' := by
  go_enter Try.func10, Try.ntmps10
  go_wp2
  refine bodyPost_ret (v := .agg #[.int .u64 (mulHi x y), .int .u64 (IntKind.u64.wrap (x * y))]) (by simp [results, Try.results10, go_sem, mulHi]) rfl ⟨rfl, ?_⟩
  exact (Below.refl _ _).alloc (Nat.le_refl _) _

theorem mul_any (x y : Int) (w : World) (hx : 0 ≤ x) (hx' : x ≤ 9007199254740991) (hy : 0 ≤ y) (hy' : y ≤ 9007199254740991) :
    Calls Try.prog 10 #[.int .u64 x, .int .u64 y] w fun e w' => e = .returned (.agg #[.int .u64 (hi64 (x * y)), .int .u64 (lo64 (x * y))]) ∧ Below w.heap.size w w' := by
  refine (mul_core x y w hx hx' hy hy').mono ?_
  rintro e w' ⟨rfl, hb⟩
  rw [mulHi_eq x y hx hx' hy hy', IntKind.wrap_u64]
  exact ⟨rfl, hb⟩

/-! ### tpShl -/
theorem shl_hi (m : Int) (k : Nat) (h0 : 0 ≤ m) (h1 : m ≤ 9007199254740991) (hk : k < 64) : m / 2 ^ (64 - k) = hi64 (m * 2 ^ k) := by
  have e : m * 2 ^ k / 18446744073709551616 = m / 2 ^ (64 - k) := by
    rw [show (18446744073709551616 : Int) = 2 ^ (64 - k) * 2 ^ k by rw [← Int.pow_add, show 64 - k + k = 64 by omega]; rfl]
    exact Int.mul_ediv_mul_of_pos_left _ _ (Int.pow_pos (by omega))
  have hp : (0 : Int) < 2 ^ (64 - k) := Int.pow_pos (by omega)
  have b0 : 0 ≤ m / 2 ^ (64 - k) := Int.ediv_nonneg h0 (Int.le_of_lt hp)
  have b1 : m / 2 ^ (64 - k) ≤ m := Int.ediv_le_self _ h0
  unfold hi64
  rw [e]
  generalize m / 2 ^ (64 - k) = q at *
  omega
theorem shl_hi2 (m : Int) (k : Nat) (hk : 64 ≤ k) : IntKind.u64.wrap (m * 2 ^ (k - 64)) = hi64 (m * 2 ^ k) := by
  have e : m * 2 ^ k = m * 2 ^ (k - 64) * 18446744073709551616 := by
    rw [show (18446744073709551616 : Int) = 2 ^ 64 from rfl, Int.mul_assoc, ← Int.pow_add, show k - 64 + 64 = k by omega]
  rw [IntKind.wrap_u64, e]
  generalize m * 2 ^ (k - 64) = q
  unfold hi64; omega
theorem shl_lo2 (m : Int) (k : Nat) (hk : 64 ≤ k) : 0 = lo64 (m * 2 ^ k) := by
  have e : m * 2 ^ k = m * 2 ^ (k - 64) * 18446744073709551616 := by
    rw [show (18446744073709551616 : Int) = 2 ^ 64 from rfl, Int.mul_assoc, ← Int.pow_add, show k - 64 + 64 = k by omega]
  rw [e]
  generalize m * 2 ^ (k - 64) = q
  unfold lo64; omega

set_option maxHeartbeats 1000000 in
theorem shl_any (m : Int) (k : Nat) (w : World) (h0 : 0 ≤ m) (h1 : m ≤ 9007199254740991) (hk : k ≤ 74) :
    Calls Try.prog 20 #[.int .u64 m, .int .i64 k] w fun e w' => e = .returned (.agg #[.int .u64 (hi64 (m * 2 ^ k)), .int .u64 (lo64 (m * 2 ^ k))]) ∧ Below w.heap.size w w' := by
  by_cases k0 : k = 0
  · subst k0
    have e1 : Hid (hi64 (m * 2 ^ 0) = 0) := by show hi64 (m * 1) = 0; unfold hi64; omega
    have e2 : Hid (lo64 (m * 2 ^ 0) = m) := by show lo64 (m * 1) = m; unfold lo64; omega
    go_enter Try.func20, Try.ntmps20
    go_wp2
    refine bodyPost_ret (v := .agg #[.int .u64 0, .int .u64 m]) (by simp [results, Try.results20, go_sem]) rfl ⟨?_, ?_⟩
    · rw [e1.out, e2.out]
    · exact (Below.refl _ _).alloc (Nat.le_refl _) _
  · have hne : ((k : Int) == 0) = false := by simp; omega
    by_cases k1 : k < 64
    · go_enter Try.func20, Try.ntmps20
      go_wp2
      refine bodyPost_ret (v := .agg #[.int .u64 (m / 2 ^ (64 - k)), .int .u64 (IntKind.u64.wrap (m * 2 ^ k))]) (by simp [results, Try.results20, go_sem]) rfl ⟨?_, ?_⟩
      · rw [shl_hi m k h0 h1 k1, IntKind.wrap_u64]; rfl
      · exact (Below.refl _ _).alloc (Nat.le_refl _) _
    · go_enter Try.func20, Try.ntmps20
      go_wp2
      refine bodyPost_ret (v := .agg #[.int .u64 (IntKind.u64.wrap (m * 2 ^ (k - 64))), .int .u64 0]) (by simp [results, Try.results20, go_sem]) rfl ⟨?_, ?_⟩
      · rw [shl_hi2 m k (by omega), ← shl_lo2 m k (by omega)]
      · exact (Below.refl _ _).alloc (Nat.le_refl _) _

end Go.Proofs.Qxb6604785a
