/-
  SPLIT AND PRODUCT ON WORDS: each operation of the Go text, as an equation on words, and what the words stand for. No Go in sight.
-/
import Derived.Test.Qxb6604785aDekker
namespace Go.Proofs.Qxb6604785a.Fl
open Ieee

/-- The word x stands for the finite number 'X * 2 ^ (k - 1074)'. -/
def Sc (x : Nat) (X : Int) (k : Nat) : Prop := Val x (X * 2 ^ k)

theorem Sc.add {x y : Nat} {X Y : Int} {k : Nat} (hx : Sc x X k) (hy : Sc y Y k) (hb : (X + Y).natAbs * 2 ^ k < 2 ^ T) : ∃ r, double.add x y = some r ∧ Sc r (rnI (X + Y)) k := by
  obtain ⟨r, h1, h2⟩ := add_val hx hy (by rw [← Int.add_mul, natAbs_mul_pow]; exact hb)
  refine ⟨r, h1, ?_⟩
  rw [← Int.add_mul, rnI_mul] at h2
  exact h2
theorem Sc.sub {x y : Nat} {X Y : Int} {k : Nat} (hx : Sc x X k) (hy : Sc y Y k) (hb : (X - Y).natAbs * 2 ^ k < 2 ^ T) : ∃ r, double.sub x y = some r ∧ Sc r (rnI (X - Y)) k := by
  obtain ⟨r, h1, h2⟩ := sub_val hx hy (by rw [← Int.sub_mul, natAbs_mul_pow]; exact hb)
  refine ⟨r, h1, ?_⟩
  rw [← Int.sub_mul, rnI_mul] at h2
  exact h2
theorem Sc.mul {x y : Nat} {X Y : Int} {j k l : Nat} (hx : Sc x X j) (hy : Sc y Y k) (hl : j + k = l + U) (hb : (X * Y).natAbs * 2 ^ l < 2 ^ T) : ∃ r, double.mul x y = some r ∧ Sc r (rnI (X * Y)) l := by
  obtain ⟨r, h1, h2⟩ := mul_val (Z := X * Y * 2 ^ l) hx hy (by
    rw [Int.mul_assoc (X * Y), ← Int.pow_add, ← hl, Int.pow_add]
    simp only [Int.mul_assoc, Int.mul_left_comm]) (by rw [natAbs_mul_pow]; exact hb)
  refine ⟨r, h1, ?_⟩
  rw [rnI_mul] at h2
  exact h2

/-- A bound by powers. -/
theorem lt_T {n l m : Nat} (h : n ≤ 2 ^ m) (hl : m + l < T) : n * 2 ^ l < 2 ^ T :=
  Nat.lt_of_le_of_lt (Nat.mul_le_mul_right _ h) (by rw [← Nat.pow_add]; exact Nat.pow_lt_pow_right (by omega) hl)
theorem lt_T' {n l m : Nat} (h : n < 2 ^ m) (hl : m + l ≤ T) : n * 2 ^ l < 2 ^ T :=
  Nat.lt_of_lt_of_le (Nat.mul_lt_mul_of_pos_right h (Nat.two_pow_pos l)) (by rw [← Nat.pow_add]; exact Nat.pow_le_pow_right (by omega) hl)

/-! ### Closed words -/
theorem val_of {w : Nat} {s : Bool} {m e : Nat} (hm : m < 2 ^ 53) (h : double.read w = .number s m ((e : Int) - 1074)) : Val w (sval s (m * 2 ^ e)) := ⟨s, _, ⟨m, e, hm, h, rfl⟩, rfl⟩
theorem val_zero : Val 0 0 := val_of (w := 0) (s := false) (m := 0) (e := 0) (by decide) (by decide)
theorem val_p2 (w e : Nat) (h : double.read w = .number false 4503599627370496 ((e : Int) - 1074)) : Val w (2 ^ (52 + e)) := by
  have := val_of (by decide) h
  have e2 : sval false (4503599627370496 * 2 ^ e) = 2 ^ (52 + e) := by
    show ((4503599627370496 * 2 ^ e : Nat) : Int) = _
    rw [Int.natCast_mul, cast_pow, Int.pow_add]; rfl
  rwa [e2] at this
/-- 2^27 + 1 -/
def Cw : Nat := 4728779608772575232
theorem sc_of {w m e : Nat} (h : Val w (sval false (m * 2 ^ e))) : Sc w m e := by
  have e2 : sval false (m * 2 ^ e) = (m : Int) * 2 ^ e := by
    show ((m * 2 ^ e : Nat) : Int) = _
    rw [Int.natCast_mul, cast_pow]
  rwa [e2] at h
theorem Sc.shift {w : Nat} {X : Int} {j k l : Nat} (h : Sc w (X * 2 ^ j) k) (hl : l = j + k) : Sc w X l := by
  show Val _ _
  rw [hl, Int.pow_add, ← Int.mul_assoc]; exact h
theorem sc_C : Sc Cw 134217729 U := by
  have h := sc_of (val_of (w := Cw) (s := false) (m := 4503599660924928) (e := 1049) (by decide) (by decide))
  have e2 : ((4503599660924928 : Nat) : Int) = 134217729 * 2 ^ 25 := rfl
  rw [e2] at h
  exact h.shift rfl

/-! ### The splitting -/
structure SplitW (a c t h l : Nat) : Prop where
  e1 : double.mul Cw a = some c
  e2 : double.sub c a = some t
  e3 : double.sub c t = some h
  e4 : double.sub a h = some l

theorem split_words {a : Nat} {A : Int} {k : Nat} (hA : Sc a A k) (h1 : 4503599627370496 ≤ A.natAbs) (h2 : A.natAbs < 9007199254740992) (hk : k ≤ 2016) :
    ∃ c t h l H H', SplitW a c t h l ∧ Sc h H k ∧ Sc l (A - H) k ∧ H = H' * 134217728 ∧ H'.natAbs ≤ 67108864 ∧ (A - H).natAbs ≤ 67108864 := by
  have hT := T_eq
  obtain ⟨c, w1, v1⟩ := Sc.mul (l := k) sc_C hA (by omega) (lt_T' (m := 81) (by show _ < 2417851639229258349412352; omega) (by omega))
  obtain ⟨⟨H', hH, kH⟩, kl, kc, kt⟩ := split_int A (rnI (134217729 * A)) (rnI (rnI (134217729 * A) - A)) h1 h2 rfl rfl
  generalize hc : rnI (134217729 * A) = C at *
  obtain ⟨t, w2, v2⟩ := Sc.sub v1 hA (lt_T (m := 80) (by show _ ≤ 1208925819614629174706176; omega) (by omega))
  generalize ht : rnI (C - A) = Tt at *
  have ex1 : rnI (C - Tt) = C - Tt := by
    rw [hH, show (134217728 : Int) = 2 ^ 27 from rfl]; exact rnI_rep H' 27 (by omega)
  obtain ⟨h, w3, v3⟩ := Sc.sub v1 v2 (lt_T (m := 54) (by show _ ≤ 18014398509481984; omega) (by omega))
  rw [ex1] at v3
  obtain ⟨l, w4, v4⟩ := Sc.sub hA v3 (lt_T (m := 54) (by show _ ≤ 18014398509481984; omega) (by omega))
  rw [rnI_rep0 _ (by omega)] at v4
  exact ⟨c, t, h, l, C - Tt, H', ⟨w1, w2, w3, w4⟩, v3, v4, hH, kH, kl⟩

/-- The same at a zero. -/
theorem split_zero {a : Nat} (hA : Val a 0) : ∃ c t h l, SplitW a c t h l ∧ Val h 0 ∧ Val l 0 := by
  have r0 : rnI 0 = 0 := rnI_rep0 0 (by decide)
  have b0 : ((0 : Int) - 0).natAbs < 2 ^ T := Nat.two_pow_pos T
  obtain ⟨c, w1, v1⟩ := mul_val (Z := 0) sc_C hA (by rw [Int.mul_zero, Int.zero_mul]) (Nat.two_pow_pos T)
  rw [r0] at v1
  obtain ⟨t, w2, v2⟩ := sub_val v1 hA b0
  rw [Int.sub_zero, r0] at v2
  obtain ⟨h, w3, v3⟩ := sub_val v1 v2 b0
  rw [Int.sub_zero, r0] at v3
  obtain ⟨l, w4, v4⟩ := sub_val hA v3 b0
  rw [Int.sub_zero, r0] at v4
  exact ⟨c, t, h, l, ⟨w1, w2, w3, w4⟩, v3, v4⟩

/-! ### The product -/
structure ProdW (a b ha la hb lb p m1 s1 m2 s2 m3 s3 m4 e : Nat) : Prop where
  f0 : double.mul a b = some p
  f1 : double.mul ha hb = some m1
  f2 : double.sub m1 p = some s1
  f3 : double.mul ha lb = some m2
  f4 : double.add s1 m2 = some s2
  f5 : double.mul la hb = some m3
  f6 : double.add s2 m3 = some s3
  f7 : double.mul la lb = some m4
  f8 : double.add s3 m4 = some e

theorem prod_words {a b ha la hb lb : Nat} {A B H G H' G' : Int} {j k l : Nat} (hA : Sc a A j) (hB : Sc b B k) (vha : Sc ha H j) (vla : Sc la (A - H) j) (vhb : Sc hb G k) (vlb : Sc lb (B - G) k)
    (hA1 : 4503599627370496 ≤ A.natAbs) (hA2 : A.natAbs < 9007199254740992) (hB1 : 4503599627370496 ≤ B.natAbs) (hB2 : B.natAbs < 9007199254740992)
    (ea : H = H' * 134217728) (ka : H'.natAbs ≤ 67108864) (kl : (A - H).natAbs ≤ 67108864) (eb : G = G' * 134217728) (kb : G'.natAbs ≤ 67108864) (km : (B - G).natAbs ≤ 67108864) (hl : j + k = l + U) (hT : l + 106 < T) :
    ∃ p m1 s1 m2 s2 m3 s3 m4 e P, ProdW a b ha la hb lb p m1 s1 m2 s2 m3 s3 m4 e ∧ P = rnI (A * B) ∧ Sc p P l ∧ Sc e (A * B - P) l ∧ (A * B).natAbs ≤ 81129638414606681695789005144064 ∧ (A * B - P).natAbs ≤ 4503599627370496 ∧ P.natAbs ≤ 81129638414606681695789005144064 ∧ P ≠ 0 := by
  have E := dekker A B H G (A - H) (B - G) H' G' (rnI (A * B)) hA1 hA2 hB1 hB2 ea ka eb kb rfl kl rfl km rfl
  obtain ⟨p, f0, v0⟩ := Sc.mul hA hB hl (lt_T (m := 106) E.b0 (by omega))
  generalize hP : rnI (A * B) = P at *
  obtain ⟨m1, f1, v1⟩ := Sc.mul vha vhb hl (lt_T (m := 106) E.b1 (by omega))
  rw [E.x1] at v1
  obtain ⟨s1, f2, v2⟩ := Sc.sub v1 v0 (lt_T (m := 81) E.b2 (by omega))
  rw [E.x2] at v2
  obtain ⟨m2, f3, v3⟩ := Sc.mul vha vlb hl (lt_T (m := 79) E.b3 (by omega))
  rw [E.x3] at v3
  obtain ⟨s2, f4, v4⟩ := Sc.add v2 v3 (lt_T (m := 80) E.b4 (by omega))
  rw [E.x4] at v4
  obtain ⟨m3, f5, v5⟩ := Sc.mul vla vhb hl (lt_T (m := 79) E.b5 (by omega))
  rw [E.x5] at v5
  obtain ⟨s3, f6, v6⟩ := Sc.add v4 v5 (lt_T (m := 53) E.b6 (by omega))
  rw [E.x6] at v6
  obtain ⟨m4, f7, v7⟩ := Sc.mul vla vlb hl (lt_T (m := 52) E.b7 (by omega))
  rw [E.x7] at v7
  obtain ⟨e, f8, v8⟩ := Sc.add v6 v7 (by rw [E.b8]; exact lt_T (m := 52) E.b9 (by omega))
  rw [E.x8] at v8
  exact ⟨p, m1, s1, m2, s2, m3, s3, m4, e, P, ⟨f0, f1, f2, f3, f4, f5, f6, f7, f8⟩, rfl, v0, v8, E.b0, E.b9, E.b10, E.b11⟩

/-- The same at a zero factor. -/
theorem prod_zero {a b ha la hb lb : Nat} {A B H L G M : Int} (hA : Val a A) (hB : Val b B) (vha : Val ha H) (vla : Val la L) (vhb : Val hb G) (vlb : Val lb M) (h : (A = 0 ∧ H = 0 ∧ L = 0) ∨ (B = 0 ∧ G = 0 ∧ M = 0)) :
    ∃ p m1 s1 m2 s2 m3 s3 m4 e, ProdW a b ha la hb lb p m1 s1 m2 s2 m3 s3 m4 e ∧ Val p 0 ∧ Val e 0 := by
  have r0 : rnI 0 = 0 := rnI_rep0 0 (by decide)
  have b0 : ((0 : Int) - 0).natAbs < 2 ^ T := Nat.two_pow_pos T
  have mz : ∀ {x y : Nat} {X Y : Int}, Val x X → Val y Y → (X = 0 ∨ Y = 0) → ∃ r, double.mul x y = some r ∧ Val r 0 := by
    intro x y X Y hx hy h
    obtain ⟨r, w, v⟩ := mul_val (Z := 0) hx hy (by rcases h with h | h <;> rw [h] <;> simp) (Nat.two_pow_pos T)
    rw [r0] at v
    exact ⟨r, w, v⟩
  have sz : ∀ {x y : Nat}, Val x 0 → Val y 0 → ∃ r, double.sub x y = some r ∧ Val r 0 := by
    intro x y hx hy
    obtain ⟨r, w, v⟩ := sub_val hx hy b0
    rw [Int.sub_zero, r0] at v
    exact ⟨r, w, v⟩
  have az : ∀ {x y : Nat}, Val x 0 → Val y 0 → ∃ r, double.add x y = some r ∧ Val r 0 := by
    intro x y hx hy
    obtain ⟨r, w, v⟩ := add_val hx hy b0
    rw [Int.add_zero, r0] at v
    exact ⟨r, w, v⟩
  obtain ⟨p, f0, v0⟩ := mz hA hB (h.elim (fun h => Or.inl h.1) (fun h => Or.inr h.1))
  obtain ⟨m1, f1, v1⟩ := mz vha vhb (h.elim (fun h => Or.inl h.2.1) (fun h => Or.inr h.2.1))
  obtain ⟨s1, f2, v2⟩ := sz v1 v0
  obtain ⟨m2, f3, v3⟩ := mz vha vlb (h.elim (fun h => Or.inl h.2.1) (fun h => Or.inr h.2.2))
  obtain ⟨s2, f4, v4⟩ := az v2 v3
  obtain ⟨m3, f5, v5⟩ := mz vla vhb (h.elim (fun h => Or.inl h.2.2) (fun h => Or.inr h.2.1))
  obtain ⟨s3, f6, v6⟩ := az v4 v5
  obtain ⟨m4, f7, v7⟩ := mz vla vlb (h.elim (fun h => Or.inl h.2.2) (fun h => Or.inr h.2.2))
  obtain ⟨e, f8, v8⟩ := az v6 v7
  exact ⟨p, m1, s1, m2, s2, m3, s3, m4, e, ⟨f0, f1, f2, f3, f4, f5, f6, f7, f8⟩, v0, v8⟩

end Go.Proofs.Qxb6604785a.Fl
