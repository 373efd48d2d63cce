/-
  THE OPERATIONS ON DOUBLES, READ AS WHOLE NUMBERS OF UNITS OF 2 ^ -1074. No Go in sight.
-/
import Derived.Test.Qxb6604785aRound
namespace Go.Proofs.Qxb6604785a.Fl
open Ieee

theorem natAbs_mul_pow (z : Int) (k : Nat) : (z * 2 ^ k).natAbs = z.natAbs * 2 ^ k := by rw [Int.natAbs_mul, Int.natAbs_pow]; rfl
theorem cast_pow (k : Nat) : ((2 ^ k : Nat) : Int) = 2 ^ k := by rw [Int.natCast_pow]; rfl

def sval (s : Bool) (n : Nat) : Int := if s then -(n : Int) else n
theorem sval_natAbs (s : Bool) (n : Nat) : (sval s n).natAbs = n := by unfold sval; split <;> omega
theorem sval_mul (s : Bool) (n k : Nat) : sval s (n * k) = sval s n * k := by
  unfold sval; split
  · rw [Int.natCast_mul, Int.neg_mul]
  · rw [Int.natCast_mul]
theorem sval_sval (s t : Bool) (a b : Nat) : sval s a * sval t b = sval (s ^^ t) (a * b) := by
  cases s <;> cases t <;> simp [sval, Int.neg_mul, Int.mul_neg]
theorem signed_eq (s : Bool) (m k : Nat) : signed s m k = sval s (m * 2 ^ k) := by
  unfold signed sval; rw [Nat.shiftLeft_eq]

/-- The word x stands for the finite number 'X * 2 ^ -1074'. -/
def Val (x : Nat) (X : Int) : Prop := ∃ s n, Is x s n ∧ X = sval s n

def rnI (z : Int) : Int := if z < 0 then -(rn z.natAbs : Int) else rn z.natAbs

theorem rnI_neg (z : Int) : rnI (-z) = -rnI z := by
  unfold rnI
  rw [Int.natAbs_neg]
  by_cases h : z = 0
  · subst h; rfl
  · by_cases h1 : z < 0
    · rw [if_neg (by omega), if_pos h1]; omega
    · rw [if_pos (by omega), if_neg h1]

theorem rnI_sval (s : Bool) (n : Nat) : rnI (sval s n) = sval s (rn n) := by
  unfold rnI
  rw [sval_natAbs]
  unfold sval
  cases s
  · simp; omega
  · simp
    intro h
    subst h
    rw [rn_zero]; rfl

theorem rnI_mul (z : Int) (k : Nat) : rnI (z * 2 ^ k) = rnI z * 2 ^ k := by
  unfold rnI
  have hp : (0 : Int) < 2 ^ k := Int.pow_pos (by omega)
  have e : (z * 2 ^ k).natAbs = z.natAbs * 2 ^ k := by rw [Int.natAbs_mul, Int.natAbs_pow]; rfl
  rw [e, rn_mul]
  by_cases h : z < 0
  · rw [if_pos h, if_pos (Int.mul_neg_of_neg_of_pos h hp)]
    rw [Int.natCast_mul, Int.natCast_pow, Int.neg_mul]; rfl
  · rw [if_neg h, if_neg (by have := Int.mul_nonneg (show 0 ≤ z by omega) (Int.le_of_lt hp); omega)]
    rw [Int.natCast_mul, Int.natCast_pow]; rfl

/-- A sum. -/
theorem sum_val {s t : Bool} {m n e f : Nat} (X Y : Int) (hX : X = sval s (m * 2 ^ e)) (hY : Y = sval t (n * 2 ^ f)) (hb : (X + Y).natAbs < 2 ^ T) :
    ∃ r, ((Datum.number s m ((e : Int) - 1074)).sum (Datum.number t n ((f : Int) - 1074))).map double.write = some r ∧ Val r (rnI (X + Y)) := by
  refine ⟨_, rfl, ?_⟩
  have e1 : ((e : Int) - 1074 - min ((e : Int) - 1074) ((f : Int) - 1074)).toNat = e - min e f := by omega
  have e2 : ((f : Int) - 1074 - min ((e : Int) - 1074) ((f : Int) - 1074)).toNat = f - min e f := by omega
  have e3 : min ((e : Int) - 1074) ((f : Int) - 1074) + 1074 = ((min e f : Nat) : Int) - (0 : Nat) := by omega
  rw [e1, e2, signed_eq, signed_eq]
  generalize htot : sval s (m * 2 ^ (e - min e f)) + sval t (n * 2 ^ (f - min e f)) = tot
  have hpos : (0 : Int) < 2 ^ (min e f) := Int.pow_pos (by omega)
  have hsum : X + Y = tot * 2 ^ (min e f) := by
    have a1 : m * 2 ^ e = m * 2 ^ (e - min e f) * 2 ^ (min e f) := by rw [Nat.mul_assoc, ← Nat.pow_add]; congr 2; omega
    have a2 : n * 2 ^ f = n * 2 ^ (f - min e f) * 2 ^ (min e f) := by rw [Nat.mul_assoc, ← Nat.pow_add]; congr 2; omega
    rw [hX, hY, a1, a2, sval_mul s (m * 2 ^ (e - min e f)), sval_mul t (n * 2 ^ (f - min e f)), ← htot, Int.add_mul, Int.natCast_pow]; rfl
  have hnat : (X + Y).natAbs = tot.natAbs * 2 ^ (min e f) := by rw [hsum, Int.natAbs_mul, Int.natAbs_pow]; rfl
  have key := nearest_ok (if tot = 0 then s && t else decide (tot < 0)) tot.natAbs (min e f) 0 (X + Y).natAbs _ e3 (by rw [Nat.pow_zero, Nat.mul_one, hnat]) hb
  refine ⟨_, _, key, ?_⟩
  unfold rnI sval
  by_cases h0 : tot = 0
  · have hz : X + Y = 0 := by rw [hsum, h0, Int.zero_mul]
    rw [hz]
    have : (rn (0 : Int).natAbs) = 0 := rn_zero
    rw [this]
    simp
  · rw [if_neg h0]
    by_cases h1 : tot < 0
    · have : X + Y < 0 := by rw [hsum]; exact Int.mul_neg_of_neg_of_pos h1 hpos
      rw [if_pos this, if_pos (by simpa using h1)]
    · have : ¬ X + Y < 0 := by
        rw [hsum]; have := Int.mul_nonneg (show 0 ≤ tot by omega) (Int.le_of_lt hpos); omega
      rw [if_neg this, if_neg (by simpa using h1)]

theorem add_val {x y : Nat} {X Y : Int} (hx : Val x X) (hy : Val y Y) (hb : (X + Y).natAbs < 2 ^ T) : ∃ r, double.add x y = some r ∧ Val r (rnI (X + Y)) := by
  obtain ⟨s, _, ⟨m, e, _, hr, rfl⟩, hX⟩ := hx
  obtain ⟨t, _, ⟨n, f, _, hr', rfl⟩, hY⟩ := hy
  unfold Format.add
  rw [hr, hr']
  exact sum_val X Y hX hY hb

theorem sub_val {x y : Nat} {X Y : Int} (hx : Val x X) (hy : Val y Y) (hb : (X - Y).natAbs < 2 ^ T) : ∃ r, double.sub x y = some r ∧ Val r (rnI (X - Y)) := by
  obtain ⟨s, _, ⟨m, e, _, hr, rfl⟩, hX⟩ := hx
  obtain ⟨t, _, ⟨n, f, _, hr', rfl⟩, hY⟩ := hy
  unfold Format.sub
  rw [hr, hr']
  have hY' : -Y = sval (!t) (n * 2 ^ f) := by rw [hY]; unfold sval; cases t <;> simp
  exact sum_val X (-Y) hX hY' hb

theorem mul_val {x y : Nat} {X Y Z : Int} (hx : Val x X) (hy : Val y Y) (h : X * Y = Z * 2 ^ U) (hb : Z.natAbs < 2 ^ T) : ∃ r, double.mul x y = some r ∧ Val r (rnI Z) := by
  obtain ⟨s, _, ⟨m, e, _, hr, rfl⟩, hX⟩ := hx
  obtain ⟨t, _, ⟨n, f, _, hr', rfl⟩, hY⟩ := hy
  unfold Format.mul
  rw [hr, hr']
  refine ⟨_, rfl, ?_⟩
  have hp : (0 : Int) < 2 ^ U := Int.pow_pos (by omega)
  have hn : Z.natAbs * 2 ^ U = m * n * 2 ^ (e + f) := by
    have h1 : (X * Y).natAbs = Z.natAbs * 2 ^ U := by rw [h, natAbs_mul_pow]
    have h2 : (X * Y).natAbs = m * 2 ^ e * (n * 2 ^ f) := by rw [Int.natAbs_mul, hX, hY, sval_natAbs, sval_natAbs]
    rw [← h1, h2, Nat.pow_add]
    simp only [Nat.mul_assoc, Nat.mul_left_comm]
  have key := nearest_ok (s ^^ t) (m * n) (e + f) U Z.natAbs ((e : Int) - 1074 + ((f : Int) - 1074)) (by rw [U_eq]; omega) hn hb
  refine ⟨_, _, key, ?_⟩
  have hZ : Z = sval (s ^^ t) Z.natAbs := by
    have h3 : X * Y = sval (s ^^ t) (Z.natAbs * 2 ^ U) := by
      have h2 : (X * Y).natAbs = Z.natAbs * 2 ^ U := by rw [h, natAbs_mul_pow]
      rw [← h2, hX, hY, sval_sval, sval_natAbs]
    rw [h, sval_mul] at h3
    exact Int.eq_of_mul_eq_mul_right (Int.ne_of_gt hp) (by rw [h3, cast_pow])
  conv => lhs; rw [hZ]
  exact rnI_sval _ _

theorem order_val {x y : Nat} {X Y : Int} (hx : Val x X) (hy : Val y Y) : double.order x y = some (compare X Y) := by
  obtain ⟨s, _, ⟨m, e, _, hr, rfl⟩, hX⟩ := hx
  obtain ⟨t, _, ⟨n, f, _, hr', rfl⟩, hY⟩ := hy
  unfold Format.order
  rw [hr, hr']
  show some (compare _ _) = _
  congr 1
  have e1 : ((e : Int) - 1074 - min ((e : Int) - 1074) ((f : Int) - 1074)).toNat = e - min e f := by omega
  have e2 : ((f : Int) - 1074 - min ((e : Int) - 1074) ((f : Int) - 1074)).toNat = f - min e f := by omega
  rw [e1, e2, signed_eq, signed_eq]
  have hpos : (0 : Int) < 2 ^ (min e f) := Int.pow_pos (by omega)
  have a1 : X = sval s (m * 2 ^ (e - min e f)) * 2 ^ (min e f) := by
    rw [hX, show m * 2 ^ e = m * 2 ^ (e - min e f) * 2 ^ (min e f) by rw [Nat.mul_assoc, ← Nat.pow_add]; congr 2; omega, sval_mul s (m * 2 ^ (e - min e f)), Int.natCast_pow]; rfl
  have a2 : Y = sval t (n * 2 ^ (f - min e f)) * 2 ^ (min e f) := by
    rw [hY, show n * 2 ^ f = n * 2 ^ (f - min e f) * 2 ^ (min e f) by rw [Nat.mul_assoc, ← Nat.pow_add]; congr 2; omega, sval_mul t (n * 2 ^ (f - min e f)), Int.natCast_pow]; rfl
  rw [a1, a2]
  generalize sval s (m * 2 ^ (e - min e f)) = u
  generalize sval t (n * 2 ^ (f - min e f)) = v
  generalize (2 : Int) ^ (min e f) = c at hpos
  rcases Int.lt_trichotomy u v with h | h | h
  · have h' := Int.mul_lt_mul_of_pos_right h hpos
    rw [Int.compare_eq_ite_lt, Int.compare_eq_ite_lt, if_pos h, if_pos h']
  · subst h; simp
  · have h' := Int.mul_lt_mul_of_pos_right h hpos
    rw [Int.compare_eq_ite_lt, Int.compare_eq_ite_lt, if_neg (show ¬ u < v by omega), if_neg (show ¬ u * c < v * c by omega), if_pos h, if_pos h']

end Go.Proofs.Qxb6604785a.Fl
