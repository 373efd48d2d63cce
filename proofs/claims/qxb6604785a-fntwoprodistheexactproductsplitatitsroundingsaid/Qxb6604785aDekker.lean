/-
  VELTKAMP's SPLITTING AND DEKKER's PRODUCT, ON WHOLE NUMBERS; AND THE SAME ON DOUBLES AT A COMMON SCALE. No Go in sight.
-/
import Derived.Test.Qxb6604785aFloat
namespace Go.Proofs.Qxb6604785a.Fl
open Ieee

theorem rnI_rep (q : Int) (k : Nat) (h : q.natAbs ≤ 9007199254740992) : rnI (q * 2 ^ k) = q * 2 ^ k := by
  rw [rnI_mul]
  congr 1
  unfold rnI
  have e : rn q.natAbs = q.natAbs := by
    have := rn_exact q.natAbs 0 h
    simpa using this
  rw [e]
  split <;> omega

theorem rnI_rep0 (q : Int) (h : q.natAbs ≤ 9007199254740992) : rnI q = q := by
  have := rnI_rep q 0 h
  simpa using this

theorem rnI_near (z : Int) (d : Nat) (h1 : 2 ^ (52 + d) ≤ z.natAbs) (h2 : z.natAbs < 2 ^ (53 + d)) : (∃ q, rnI z = q * 2 ^ d) ∧ 2 * (rnI z - z) ≤ 2 ^ d ∧ -(2 ^ d) ≤ 2 * (rnI z - z) := by
  obtain ⟨⟨q, hq⟩, a, b⟩ := rn_near z.natAbs d h1 h2
  have hc := cast_pow d
  unfold rnI
  by_cases h : z < 0
  · rw [if_pos h]
    refine ⟨⟨-(q : Int), by rw [hq, Int.natCast_mul, hc, Int.neg_mul]⟩, ?_, ?_⟩ <;> omega
  · rw [if_neg h]
    refine ⟨⟨q, by rw [hq, Int.natCast_mul, hc]⟩, ?_, ?_⟩ <;> omega

/-! ### The splitting -/
theorem split_pos (A c t : Int) (h1 : 4503599627370496 ≤ A) (h2 : A < 9007199254740992) (hc : c = rnI (134217729 * A)) (ht : t = rnI (c - A)) :
    (∃ h', c - t = h' * 134217728 ∧ h'.natAbs ≤ 67108864) ∧ (A - (c - t)).natAbs ≤ 67108864 ∧ c.natAbs ≤ 2417851639229258349412352 ∧ (c - A).natAbs ≤ 1208925819614629174706176 := by
  have C : (∃ q, c = q * 134217728) ∧ c - 134217729 * A ≤ 134217728 ∧ -134217728 ≤ c - 134217729 * A ∧ (134217729 * A < 1208925819614629174706176 → c - 134217729 * A ≤ 67108864 ∧ -67108864 ≤ c - 134217729 * A) := by
    by_cases hlt : 134217729 * A < 1208925819614629174706176
    · obtain ⟨⟨q, hq⟩, a, b⟩ := rnI_near (134217729 * A) 27 (by show 604462909807314587353088 ≤ _; omega) (by show _ < 1208925819614629174706176; omega)
      rw [← hc] at hq a b
      have e : (2 : Int) ^ 27 = 134217728 := rfl
      rw [e] at hq a b
      exact ⟨⟨q, hq⟩, by omega, by omega, fun _ => ⟨by omega, by omega⟩⟩
    · obtain ⟨⟨q, hq⟩, a, b⟩ := rnI_near (134217729 * A) 28 (by show 1208925819614629174706176 ≤ _; omega) (by show _ < 2417851639229258349412352; omega)
      rw [← hc] at hq a b
      have e : (2 : Int) ^ 28 = 268435456 := rfl
      rw [e] at hq a b
      exact ⟨⟨q * 2, by omega⟩, by omega, by omega, fun h => absurd h hlt⟩
  obtain ⟨⟨q, hq⟩, a, b, ab⟩ := C
  have lo : 604462909807314587353088 ≤ c - A := by
    by_cases hA : A = 4503599627370496
    · have := ab (by omega); omega
    · by_cases hlt : 134217729 * A < 1208925819614629174706176
      · have := ab hlt; omega
      · omega
  have hi : c - A ≤ 1208925819614629174706176 := by omega
  have Tt : (∃ q, t = q * 134217728) ∧ 2 * (t - (c - A)) ≤ 134217728 ∧ -134217728 ≤ 2 * (t - (c - A)) := by
    by_cases hlt : c - A < 1208925819614629174706176
    · obtain ⟨⟨q, hq⟩, a, b⟩ := rnI_near (c - A) 27 (by show 604462909807314587353088 ≤ _; omega) (by show _ < 1208925819614629174706176; omega)
      rw [← ht] at hq a b
      have e : (2 : Int) ^ 27 = 134217728 := rfl
      rw [e] at hq a b
      exact ⟨⟨q, hq⟩, a, b⟩
    · have e : c - A = 9007199254740992 * 2 ^ 27 := by
        have e : (2 : Int) ^ 27 = 134217728 := rfl
        omega
      have e2 : t = c - A := by rw [ht, e, rnI_rep _ _ (by omega)]
      exact ⟨⟨9007199254740992, by rw [e2, e]; rfl⟩, by omega, by omega⟩
  obtain ⟨⟨r, hr⟩, a', b'⟩ := Tt
  refine ⟨⟨q - r, by rw [hq, hr]; omega, by omega⟩, by omega, by omega, by omega⟩

theorem split_int (A c t : Int) (h1 : 4503599627370496 ≤ A.natAbs) (h2 : A.natAbs < 9007199254740992) (hc : c = rnI (134217729 * A)) (ht : t = rnI (c - A)) :
    (∃ h', c - t = h' * 134217728 ∧ h'.natAbs ≤ 67108864) ∧ (A - (c - t)).natAbs ≤ 67108864 ∧ c.natAbs ≤ 2417851639229258349412352 ∧ (c - A).natAbs ≤ 1208925819614629174706176 := by
  by_cases hA : 0 ≤ A
  · exact split_pos A c t (by omega) (by omega) hc ht
  · have := split_pos (-A) (-c) (-t) (by omega) (by omega) (by rw [hc, ← rnI_neg]; congr 1; omega) (by rw [ht, ← rnI_neg]; congr 1; omega)
    obtain ⟨⟨h', e, k⟩, b, d, f⟩ := this
    exact ⟨⟨-h', by omega, by omega⟩, by omega, by omega, by omega⟩

/-! ### The product -/
theorem mul_bound {a b : Int} {m n : Nat} (ha : a.natAbs ≤ m) (hb : b.natAbs ≤ n) : (a * b).natAbs ≤ m * n := by
  rw [Int.natAbs_mul]; exact Nat.mul_le_mul ha hb

/-- What the ten roundings of the product come to: all but the first are exact. -/
structure Exact (PP m1 m2 m3 m4 p : Int) : Prop where
  x1 : rnI (m1) = m1
  x2 : rnI (m1 - p) = m1 - p
  x3 : rnI (m2) = m2
  x4 : rnI (m1 - p + m2) = m1 - p + m2
  x5 : rnI (m3) = m3
  x6 : rnI (m1 - p + m2 + m3) = m1 - p + m2 + m3
  x7 : rnI (m4) = m4
  x8 : rnI (m1 - p + m2 + m3 + m4) = PP - p
  b0 : (PP).natAbs ≤ 81129638414606681695789005144064
  b1 : (m1).natAbs ≤ 81129638414606681695789005144064
  b2 : (m1 - p).natAbs ≤ 2417851639229258349412352
  b3 : (m2).natAbs ≤ 604462909807314587353088
  b4 : (m1 - p + m2).natAbs ≤ 1208925819614629174706176
  b5 : (m3).natAbs ≤ 604462909807314587353088
  b6 : (m1 - p + m2 + m3).natAbs ≤ 9007199254740992
  b7 : (m4).natAbs ≤ 4503599627370496
  b8 : m1 - p + m2 + m3 + m4 = PP - p
  b9 : (PP - p).natAbs ≤ 4503599627370496
  b10 : p.natAbs ≤ 81129638414606681695789005144064
  b11 : p ≠ 0

theorem dekker (A B ha hb la lb ha' hb' p : Int) (hA1 : 4503599627370496 ≤ A.natAbs) (hA2 : A.natAbs < 9007199254740992) (hB1 : 4503599627370496 ≤ B.natAbs) (hB2 : B.natAbs < 9007199254740992)
    (ea : ha = ha' * 134217728) (ka : ha'.natAbs ≤ 67108864) (eb : hb = hb' * 134217728) (kb : hb'.natAbs ≤ 67108864) (el : la = A - ha) (kl : la.natAbs ≤ 67108864) (em : lb = B - hb) (km : lb.natAbs ≤ 67108864) (hp : p = rnI (A * B)) :
    Exact (A * B) (ha * hb) (ha * lb) (la * hb) (la * lb) p := by
  have c1 := mul_bound ka kb
  have c2 := mul_bound ka km
  have c3 := mul_bound kl kb
  have c4 := mul_bound kl km
  have cP1 : 20282409603651670423947251286016 ≤ (A * B).natAbs := by rw [Int.natAbs_mul]; exact Nat.mul_le_mul hA1 hB1
  have cP2 : (A * B).natAbs ≤ 81129638414606663681390495662081 := mul_bound (show A.natAbs ≤ 9007199254740991 by omega) (show B.natAbs ≤ 9007199254740991 by omega)
  have d1 : ha * hb = ha' * hb' * 18014398509481984 := by
    rw [ea, eb, show (18014398509481984 : Int) = 134217728 * 134217728 from rfl]
    simp only [Int.mul_assoc, Int.mul_left_comm, Int.mul_comm]
  have d2 : ha * lb = ha' * lb * 134217728 := by rw [ea, Int.mul_assoc, Int.mul_comm 134217728 lb, ← Int.mul_assoc]
  have d3 : la * hb = la * hb' * 134217728 := by rw [eb, Int.mul_assoc]
  have dP : A * B = ha * hb + ha * lb + la * hb + la * lb := by
    rw [show A = ha + la by omega, show B = hb + lb by omega, Int.add_mul, Int.mul_add, Int.mul_add]; omega
  have N : (∃ q, p = q * 4503599627370496) ∧ p - A * B ≤ 4503599627370496 ∧ -4503599627370496 ≤ p - A * B := by
    by_cases hlt : (A * B).natAbs < 40564819207303340847894502572032
    · obtain ⟨⟨q, hq⟩, a, b⟩ := rnI_near (A * B) 52 (by show 20282409603651670423947251286016 ≤ _; omega) (by show _ < 40564819207303340847894502572032; omega)
      rw [← hp] at hq a b
      have e : (2 : Int) ^ 52 = 4503599627370496 := rfl
      rw [e] at hq a b
      exact ⟨⟨q, hq⟩, by omega, by omega⟩
    · obtain ⟨⟨q, hq⟩, a, b⟩ := rnI_near (A * B) 53 (by show 40564819207303340847894502572032 ≤ _; omega) (by show _ < 81129638414606681695789005144064; omega)
      rw [← hp] at hq a b
      have e : (2 : Int) ^ 53 = 9007199254740992 := rfl
      rw [e] at hq a b
      exact ⟨⟨q * 2, by omega⟩, by omega, by omega⟩
  obtain ⟨⟨q, hq⟩, n1, n2⟩ := N
  have hpP : p.natAbs ≤ 81129638414606681695789005144064 := by omega
  generalize A * B = PP at *
  generalize ha * hb = m1 at *
  generalize ha * lb = m2 at *
  generalize la * hb = m3 at *
  generalize la * lb = m4 at *
  generalize ha' * hb' = k1 at *
  generalize ha' * lb = k2 at *
  generalize la * hb' = k3 at *
  have rep : ∀ (z q k : Int) (n : Nat), (2 : Int) ^ n = k → z = q * k → q.natAbs ≤ 9007199254740992 → rnI z = z := by
    intro z q k n hk hz h
    rw [hz, ← hk]; exact rnI_rep q n h
  refine ⟨rep _ k1 18014398509481984 54 rfl d1 (by omega), rep _ (4 * k1 - q) 4503599627370496 52 rfl (by omega) (by omega), rep _ k2 134217728 27 rfl d2 (by omega), rep _ ((4 * k1 - q) * 33554432 + k2) 134217728 27 rfl (by omega) (by omega),
    rep _ k3 134217728 27 rfl d3 (by omega), rnI_rep0 _ (by omega), rnI_rep0 _ (by omega), ?_, by omega, by omega, by omega, by omega, by omega, by omega, by omega, by omega, by omega, by omega, hpP, by omega⟩
  rw [show m1 - p + m2 + m3 + m4 = PP - p by omega]
  exact rnI_rep0 _ (by omega)

end Go.Proofs.Qxb6604785a.Fl
