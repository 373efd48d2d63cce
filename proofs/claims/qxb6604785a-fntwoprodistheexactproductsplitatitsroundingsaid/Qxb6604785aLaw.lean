/-
  FnTwoProdIsTheExactProductSplitAtItsRounding: what the law's words are, and her walk.
-/
import Derived.Test.Qxb6604785aUnits
import Derived.Deep.RegionHeld3
namespace Go.Proofs.Qxb6604785a
set_option linter.unusedVariables false
set_option linter.unusedSimpArgs false
open Go.RowKit
open Ieee (double Datum)

namespace Fl
def sgn (s : Bool) (m : Nat) : Int := if s then -(m : Int) else m

/-- A normal number, by its digits as tpDecomp finds them. -/
theorem norm_of {x : Nat} {X : Int} (hX : Val x X) (h1 : 2 ^ 52 ≤ X.natAbs) (h2 : X.natAbs < 2 ^ (52 + 2017)) {m a b : Nat} {e : Int} (D : Dec X.natAbs m e a b) :
    ∃ j : Nat, (j : Int) = e + 1074 ∧ j ≤ 2016 ∧ Sc x (sgn (decide (X < 0)) m) j := by
  have hn := D.hn
  have m1 := D.m1
  have m2 := D.m2
  have hU := U_eq
  have hle : b ≤ a + U := by
    rcases Nat.lt_or_ge (a + U) b with h | h
    · exfalso
      obtain ⟨t, ht⟩ : ∃ t, b = (t + 1) + (a + U) := ⟨b - (a + U) - 1, by omega⟩
      rw [ht, Nat.pow_add 2 (t + 1), ← Nat.mul_assoc] at hn
      have e1 := Nat.eq_of_mul_eq_mul_right (Nat.two_pow_pos _) hn
      have e2 : X.natAbs * 2 ≤ X.natAbs * 2 ^ (t + 1) := Nat.mul_le_mul_left _ (by rw [Nat.pow_succ]; have := Nat.two_pow_pos t; omega)
      rw [e1] at e2
      omega
    · exact h
  obtain ⟨j, hj⟩ : ∃ j, a + U = j + b := ⟨a + U - b, by omega⟩
  rw [hj, Nat.pow_add, ← Nat.mul_assoc] at hn
  have hX' : X.natAbs = m * 2 ^ j := Nat.eq_of_mul_eq_mul_right (Nat.two_pow_pos b) hn
  have hjb : j < 2017 := by
    rw [hX'] at h2
    have h3 : 2 ^ 52 * 2 ^ j < 2 ^ (52 + 2017) := Nat.lt_of_le_of_lt (Nat.mul_le_mul_right _ m1) h2
    rw [← Nat.pow_add] at h3
    have := (Nat.pow_lt_pow_iff_right (show 1 < 2 by omega)).1 h3
    omega
  refine ⟨j, by have := D.he; omega, by omega, ?_⟩
  show Val _ _
  have e3 : sgn (decide (X < 0)) m * 2 ^ j = X := by
    have hc : ((m * 2 ^ j : Nat) : Int) = (m : Int) * 2 ^ j := by rw [Int.natCast_mul, cast_pow]
    unfold sgn
    by_cases h : X < 0
    · simp only [h, decide_true, if_true]
      rw [Int.neg_mul, ← hc, ← hX']; omega
    · simp only [h, decide_false, Bool.false_eq_true, if_false]
      rw [← hc, ← hX']; omega
  rw [e3]; exact hX

theorem sgn_abs (s : Bool) (m : Nat) : (sgn s m).natAbs = m := by unfold sgn; split <;> omega
theorem sgn_mul (s t : Bool) (m n : Nat) : sgn s m * sgn t n = if s = t then (m : Int) * n else -((m : Int) * n) := by
  cases s <;> cases t <;> simp [sgn, Int.neg_mul, Int.mul_neg]

/-- All words of the law's normal case. -/
structure LawW (a b : Nat) (AB P : Int) (l p e z1 z2 r : Nat) : Prop where
  vp : Sc p P l
  ve : Sc e (AB - P) l
  e1 : double.sub p p = some z1
  v1 : Val z1 0
  e2 : double.sub e e = some z2
  v2 : Val z2 0
  e3 : double.add p e = some r
  v3 : Val r (P * 2 ^ l)
  bP : P.natAbs ≤ 2 ^ 106
  bE : (AB - P).natAbs ≤ 2 ^ 106

theorem law_words {a b : Nat} {A B : Int} {j k l : Nat} (hA : Sc a A j) (hB : Sc b B k) (hA1 : 4503599627370496 ≤ A.natAbs) (hA2 : A.natAbs < 9007199254740992) (hB1 : 4503599627370496 ≤ B.natAbs) (hB2 : B.natAbs < 9007199254740992)
    (hj : j ≤ 2016) (hk : k ≤ 2016) (hl : j + k = l + U) (hT : l + 106 < T) :
    ∃ ca ta ha la cb tb hb lb p m1 s1 m2 s2 m3 s3 m4 e P z1 z2 r, SplitW a ca ta ha la ∧ SplitW b cb tb hb lb ∧ ProdW a b ha la hb lb p m1 s1 m2 s2 m3 s3 m4 e ∧ LawW a b (A * B) P l p e z1 z2 r := by
  obtain ⟨ca, ta, ha, la, H, H', SA, vha, vla, ea, ka, kl⟩ := split_words hA hA1 hA2 hj
  obtain ⟨cb, tb, hb, lb, G, G', SB, vhb, vlb, eb, kb, km⟩ := split_words hB hB1 hB2 hk
  obtain ⟨p, m1, s1, m2, s2, m3, s3, m4, e, P, R, hP, vp, ve, q1, q2, q3, q4⟩ := prod_words hA hB vha vla vhb vlb hA1 hA2 hB1 hB2 ea ka kl eb kb km hl hT
  have r0 : rnI 0 = 0 := rnI_rep0 0 (by decide)
  obtain ⟨z1, w1, v1⟩ := sub_val vp vp (by rw [Int.sub_self]; exact Nat.two_pow_pos T)
  rw [Int.sub_self, r0] at v1
  obtain ⟨z2, w2, v2⟩ := sub_val ve ve (by rw [Int.sub_self]; exact Nat.two_pow_pos T)
  rw [Int.sub_self, r0] at v2
  obtain ⟨r, w3, v3⟩ := Sc.add vp ve (by rw [show P + (A * B - P) = A * B by omega]; exact lt_T (m := 106) q1 (by omega))
  rw [show P + (A * B - P) = A * B by omega, ← hP] at v3
  exact ⟨ca, ta, ha, la, cb, tb, hb, lb, p, m1, s1, m2, s2, m3, s3, m4, e, P, z1, z2, r, SA, SB, R, vp, ve, w1, v1, w2, v2, w3, v3, q3, Nat.le_trans q2 (by show _ ≤ 81129638414606681695789005144064; omega)⟩

/-- A normal number, its digits brought to 53. -/
theorem norm_word {x : Nat} {X : Int} (hX : Val x X) (h1 : 2 ^ 52 ≤ X.natAbs) (h2 : X.natAbs < 2 ^ (52 + 2017)) : ∃ A k, Sc x A k ∧ 4503599627370496 ≤ A.natAbs ∧ A.natAbs < 9007199254740992 ∧ k ≤ 2016 := by
  obtain ⟨s, _, ⟨m, e, hm, hr, rfl⟩, rfl⟩ := hX
  rw [sval_natAbs] at h1 h2
  have hn0 : m * 2 ^ e ≠ 0 := by have := Nat.two_pow_pos 52; omega
  have hm0 : m ≠ 0 := by rintro rfl; simp at hn0
  have hl := log2_mul_pow m e hm0
  have hL : m.log2 < 53 := (Nat.log2_lt hm0).2 hm
  have h52 : 52 ≤ m.log2 + e := by
    rw [← hl]
    rcases Nat.lt_or_ge (m * 2 ^ e).log2 52 with h | h
    · exact absurd ((Nat.log2_lt hn0).1 h) (by omega)
    · exact h
  have hup : m.log2 + e < 52 + 2017 := by rw [← hl]; exact (Nat.log2_lt hn0).2 h2
  obtain ⟨t, ht⟩ : ∃ t, m.log2 + t = 52 := ⟨52 - m.log2, by omega⟩
  obtain ⟨k, hk⟩ : ∃ k, e = t + k := ⟨e - t, by omega⟩
  have hM0 : m * 2 ^ t ≠ 0 := by
    have := Nat.mul_pos (Nat.pos_of_ne_zero hm0) (Nat.two_pow_pos t)
    omega
  have hM := log2_mul_pow m t hm0
  rw [ht] at hM
  have b := (Nat.log2_eq_iff hM0).1 hM
  refine ⟨sval s (m * 2 ^ t), k, ?_, by rw [sval_natAbs]; exact b.1, by rw [sval_natAbs]; exact b.2, by omega⟩
  show Val _ _
  rw [← cast_pow, ← sval_mul, Nat.mul_assoc, ← Nat.pow_add, ← hk]
  exact ⟨s, _, ⟨m, e, hm, hr, rfl⟩, rfl⟩

theorem split_any {x : Nat} (h : InR x) : ∃ c t hi lo H L X, SplitW x c t hi lo ∧ Val x X ∧ Val hi H ∧ Val lo L := by
  obtain ⟨X, hX, h0 | ⟨h1, h2⟩⟩ := h
  · subst h0
    obtain ⟨c, t, hi, lo, S, v1, v2⟩ := split_zero hX
    exact ⟨c, t, hi, lo, 0, 0, 0, S, hX, v1, v2⟩
  · obtain ⟨A, k, hA, a1, a2, hk⟩ := norm_word hX h1 h2
    obtain ⟨c, t, hi, lo, H, H', S, v1, v2, _⟩ := split_words hA a1 a2 hk
    exact ⟨c, t, hi, lo, _, _, X, S, hX, v1, v2⟩

/-- The zero case. -/
theorem zero_words {a b : Nat} (ha : InR a) (hb : InR b) (h : Val a 0 ∨ Val b 0) :
    ∃ ca ta ha la cb tb hb lb p m1 s1 m2 s2 m3 s3 m4 e, SplitW a ca ta ha la ∧ SplitW b cb tb hb lb ∧ ProdW a b ha la hb lb p m1 s1 m2 s2 m3 s3 m4 e ∧ Val p 0 ∧ Val e 0 := by
  rcases h with h | h
  · obtain ⟨ca, ta, ha, la, SA, v1, v2⟩ := split_zero h
    obtain ⟨cb, tb, hb, lb, G, M, B, SB, vB, v3, v4⟩ := split_any hb
    obtain ⟨p, m1, s1, m2, s2, m3, s3, m4, e, R, u1, u2⟩ := prod_zero h vB v1 v2 v3 v4 (Or.inl ⟨rfl, rfl, rfl⟩)
    exact ⟨ca, ta, ha, la, cb, tb, hb, lb, p, m1, s1, m2, s2, m3, s3, m4, e, SA, SB, R, u1, u2⟩
  · obtain ⟨ca, ta, ha, la, G, M, B, SA, vA, v1, v2⟩ := split_any ha
    obtain ⟨cb, tb, hb, lb, SB, v3, v4⟩ := split_zero h
    obtain ⟨p, m1, s1, m2, s2, m3, s3, m4, e, R, u1, u2⟩ := prod_zero vA h v1 v2 v3 v4 (Or.inr ⟨rfl, rfl, rfl⟩)
    exact ⟨ca, ta, ha, la, cb, tb, hb, lb, p, m1, s1, m2, s2, m3, s3, m4, e, SA, SB, R, u1, u2⟩

theorem lt_pow_of {n p q : Nat} (h : n < 2 ^ p) (hq : p ≤ q) : n < 2 ^ q := Nat.lt_of_lt_of_le h (Nat.pow_le_pow_right (by omega) hq)
/-- A normal number of the domain, behind a name. -/
def NormX (X : Int) : Prop := 2 ^ 52 ≤ X.natAbs ∧ X.natAbs < 2 ^ (52 + 2017)
theorem le_bT : 52 + 2017 ≤ T := by rw [T_eq]; omega
end Fl

set_option maxHeartbeats 400000 in
theorem add_x1 (a b c d : Int) (w : World) (h : IntKind.u64.wrap (b + d) < b) :
    Calls Try.prog 13 #[.agg #[.int .u64 a, .int .u64 b], .agg #[.int .u64 c, .int .u64 d]] w fun x w' =>
      x = .returned (.agg #[.int .u64 (IntKind.u64.wrap (IntKind.u64.wrap (a + c) + 1)), .int .u64 (IntKind.u64.wrap (b + d))]) ∧ ∃ c1 c2 c3 : Array Value, w' = ((w.alloc (.cells c1 30)).alloc (.cells c2 30)).alloc (.cells c3 30) := by
  go_enter Try.func13, Try.ntmps13
  go_wp2
  exact bodyPost_ret (v := .agg #[.int .u64 (IntKind.u64.wrap (IntKind.u64.wrap (a + c) + 1)), .int .u64 (IntKind.u64.wrap (b + d))]) (by simp [results, Try.results13, go_sem]) rfl ⟨rfl, _, _, _, rfl⟩
set_option maxHeartbeats 400000 in
theorem add_x0 (a b c d : Int) (w : World) (h : ¬ IntKind.u64.wrap (b + d) < b) :
    Calls Try.prog 13 #[.agg #[.int .u64 a, .int .u64 b], .agg #[.int .u64 c, .int .u64 d]] w fun x w' =>
      x = .returned (.agg #[.int .u64 (IntKind.u64.wrap (IntKind.u64.wrap (a + c))), .int .u64 (IntKind.u64.wrap (b + d))]) ∧ ∃ c1 c2 c3 : Array Value, w' = ((w.alloc (.cells c1 30)).alloc (.cells c2 30)).alloc (.cells c3 30) := by
  go_enter Try.func13, Try.ntmps13
  go_wp2
  exact bodyPost_ret (v := .agg #[.int .u64 (IntKind.u64.wrap (IntKind.u64.wrap (a + c))), .int .u64 (IntKind.u64.wrap (b + d))]) (by simp [results, Try.results13, go_sem]) rfl ⟨rfl, _, _, _, rfl⟩
/-- An old cell behind one new block, and behind four. -/
theorem old1 {W : World} {b : Nat} (h : b < W.heap.size) (o1 : Obj) (p : Nat) : (W.alloc o1).cell? ⟨b, p, none⟩ = W.cell? ⟨b, p, none⟩ :=
  ((Below.refl _ _).alloc (Nat.le_refl _) o1).cell (p := ⟨b, p, none⟩) h
theorem old4 {W : World} {b : Nat} (h : b < W.heap.size) (o1 o2 o3 o4 : Obj) (p : Nat) : ((((W.alloc o1).alloc o2).alloc o3).alloc o4).cell? ⟨b, p, none⟩ = W.cell? ⟨b, p, none⟩ := by
  have hb : Below W.heap.size W ((((W.alloc o1).alloc o2).alloc o3).alloc o4) := ((((Below.refl _ _).alloc (Nat.le_refl _) _).alloc (by simp) _).alloc (by simp; omega) _).alloc (by simp; omega) _
  exact hb.cell (p := ⟨b, p, none⟩) h
/-- tpAdd, its new blocks told. -/
theorem add_x (X Y Z : Int) (hZ : X + Y = Z) (w : World) :
    Calls Try.prog 13 #[.agg #[.int .u64 (hi64 X), .int .u64 (lo64 X)], .agg #[.int .u64 (hi64 Y), .int .u64 (lo64 Y)]] w fun x w' => x = .returned (.agg #[.int .u64 (hi64 Z), .int .u64 (lo64 Z)]) ∧ ∃ c1 c2 c3 : Array Value, w' = ((w.alloc (.cells c1 30)).alloc (.cells c2 30)).alloc (.cells c3 30) := by
  subst hZ
  by_cases h : IntKind.u64.wrap (lo64 X + lo64 Y) < lo64 X
  · refine (add_x1 _ _ _ _ w h).mono ?_
    rintro x w' ⟨rfl, hb⟩
    rw [add_hi1 X Y h, add_lo]
    exact ⟨rfl, hb⟩
  · refine (add_x0 _ _ _ _ w h).mono ?_
    rintro x w' ⟨rfl, hb⟩
    rw [add_hi0 X Y h, add_lo]
    exact ⟨rfl, hb⟩

open Fl in
set_option maxHeartbeats 2000000 in
theorem law3 (a b : Nat) (w : World) :
    Calls Try.prog 3 #[.float .f64 a, .float .f64 b] w fun e w' => e = .returned (.bool true) ∧ Below w.heap.size w w' := by
  go_enter Try.func3, Try.ntmps3
  go_wp2_with fail
  refine (range_any a _).mono ?_
  rintro e w ⟨r1, rfl, RA, rfl⟩
  cases r1 with
  | false =>
    go_wp2
    go_ret
    exact ⟨rfl, Below.refl _ _⟩
  | true =>
  have IA := hide (unhide RA rfl)
  clear RA
  go_wp2_with fail
  refine (range_any b _).mono ?_
  rintro e w ⟨r2, rfl, RB, rfl⟩
  cases r2 with
  | false =>
    go_wp2
    go_ret
    exact ⟨rfl, Below.refl _ _⟩
  | true =>
  have IB := hide (unhide RB rfl)
  clear RB
  by_cases hz : Hid (Val a 0 ∨ Val b 0)
  · obtain ⟨ca, ta, ha, la, cb, tb, hb, lb, p, m1, s1, m2, s2, m3, s3, m4, e, SA, SB, R, u1, u2⟩ := zero_words (unhide IA) (unhide IB) (unhide hz)
    have hp : FloatKind.f64.format.order p 0 = some .eq := order_eq u1 val_zero rfl
    have he : FloatKind.f64.format.order e 0 = some .eq := order_eq u2 val_zero rfl
    have hab : (FloatKind.f64.format.order a 0 = some .eq) ∨ (FloatKind.f64.format.order a 0 ≠ some .eq ∧ FloatKind.f64.format.order b 0 = some .eq) := by
      by_cases ha : FloatKind.f64.format.order a 0 = some .eq
      · exact Or.inl ha
      · refine Or.inr ⟨ha, ?_⟩
        rcases unhide hz with h | h
        · exact absurd (order_eq h val_zero rfl) ha
        · exact order_eq h val_zero rfl
    clear u1 u2 IA IB hz
    rcases hab with ha | ⟨ha, hb'⟩
    · go_wp2_with fail
      refine (ZZtwoProd_walk SA SB R _).mono ?_
      rintro x w1 ⟨rfl, d⟩
      go_wp2
      go_ret
      exact ⟨rfl, d⟩
    · have ha' : (FloatKind.f64.format.order a 0 == some .eq) = false := by simpa using ha
      clear ha
      go_wp2_with fail
      refine (ZZtwoProd_walk SA SB R _).mono ?_
      rintro x w1 ⟨rfl, d⟩
      go_wp2
      go_ret
      exact ⟨rfl, d⟩
  · obtain ⟨X, hX, x0 | ⟨x1, x2⟩⟩ := unhide IA
    · subst x0; exact absurd (Or.inl hX) hz
    obtain ⟨Y, hY, y0 | ⟨y1, y2⟩⟩ := unhide IB
    · subst y0; exact absurd (Or.inr hY) hz
    have nX : X ≠ 0 := by intro h; subst h; exact hz (Or.inl hX)
    have nY : Y ≠ 0 := by intro h; subst h; exact hz (Or.inr hY)
    have da := hide (fun w => decomp_any a X w hX nX (lt_pow_of x2 le_bT))
    have db := hide (fun w => decomp_any b Y w hY nY (lt_pow_of y2 le_bT))
    have oa : (FloatKind.f64.format.order a 0 == some .eq) = false := by
      rcases order_tri hX val_zero with ⟨o, c⟩ | ⟨o, c⟩ | ⟨o, c⟩
      · rw [o]; rfl
      · exact absurd c nX
      · rw [o]; rfl
    have ob : (FloatKind.f64.format.order b 0 == some .eq) = false := by
      rcases order_tri hY val_zero with ⟨o, c⟩ | ⟨o, c⟩ | ⟨o, c⟩
      · rw [o]; rfl
      · exact absurd c nY
      · rw [o]; rfl
    have NX := hide nX
    have NY := hide nY
    have X12 : NormX X := ⟨x1, x2⟩
    have Y12 : NormX Y := ⟨y1, y2⟩
    have HX := hide hX
    have HY := hide hY
    clear nX nY IA IB hz x1 x2 y1 y2 hX hY
    go_wp2_with fail
    refine ((unhide da) _).mono ?_
    rintro e w ⟨⟨ma, ea, aa, ba, rfl, DA⟩, rfl⟩
    go_wp2_with fail
    refine ((unhide db) _).mono ?_
    rintro e w ⟨⟨mb, eb, ab, bb, rfl, DB⟩, rfl⟩
    have A1 : -1127 ≤ ea ∧ ea ≤ 2097 := by have := DA.he; have := DA.ha; have := DA.hb; omega
    have B1 : -1127 ≤ eb ∧ eb ≤ 2097 := by have := DB.he; have := DB.ha; have := DB.hb; omega
    by_cases hlo : ea + eb + 104 < -960
    · clear DA DB
      go_wp2
      go_ret
      exact ⟨rfl, Below.refl _ _⟩
    by_cases hhi : 1020 < ea + eb + 104
    · clear DA DB
      go_wp2
      go_ret
      exact ⟨rfl, Below.refl _ _⟩
    obtain ⟨j, hj, hj', sA⟩ := norm_of (unhide HX) X12.1 X12.2 DA
    obtain ⟨k, hk, hk', sB⟩ := norm_of (unhide HY) Y12.1 Y12.2 DB
    obtain ⟨l, hl⟩ : ∃ l, j + k = l + U := ⟨j + k - U, by have := U_eq; omega⟩
    have hlT : l + 106 < T := by have := U_eq; have := T_eq; omega
    have hel : ea + eb = (l : Int) - 1074 := by have := U_eq; omega
    obtain ⟨ca, ta, ha, la, cb, tb, hb, lb, p, m1, s1, m2, s2, m3, s3, m4, e, P, z1, z2, r, SA, SB, R, L⟩ := law_words sA sB (by rw [sgn_abs]; exact DA.m1) (by rw [sgn_abs]; exact DA.m2) (by rw [sgn_abs]; exact DB.m1) (by rw [sgn_abs]; exact DB.m2) hj' hk' hl hlT
    have r1 := run_sub L.e1
    have r2 := run_sub L.e2
    have r3 := run_add L.e3
    have o1 : FloatKind.f64.format.order z1 0 = some .eq := order_eq L.v1 val_zero rfl
    have o2 : FloatKind.f64.format.order z2 0 = some .eq := order_eq L.v2 val_zero rfl
    have o3 : FloatKind.f64.format.order r p = some .eq := order_eq L.v3 L.vp rfl
    have M1 : (ma : Int) ≤ 9007199254740991 := by have := DA.m2; omega
    have M2 : (mb : Int) ≤ 9007199254740991 := by have := DB.m2; omega
    have HEL := hide hel
    have HAB := hide (sgn_mul (decide (X < 0)) (decide (Y < 0)) ma mb)
    have LL := hide L
    clear DA DB sA sB hj hk hel hl L da db hj' hk' X12 Y12 oa ob A1 B1 HAB j k
    by_cases hx : X < 0
    · by_cases hy : Y < 0
      · have ox : FloatKind.f64.format.order a 0 = some .lt := order_lt (unhide HX) val_zero hx
        have oy : FloatKind.f64.format.order b 0 = some .lt := order_lt (unhide HY) val_zero hy
        have EAB : sgn (decide (X < 0)) ma * sgn (decide (Y < 0)) mb = ((ma : Int) * mb) := by rw [sgn_mul]; simp [hx, hy]
        rw [EAB] at LL
        clear NX NY HX HY EAB
        go_wp2_with fail
        refine (ZZtwoProd_walk SA SB R _).mono ?_
        rintro x w1 ⟨rfl, d1⟩
        go_wp2_with fail
        refine (mul_any (ma : Int) (mb : Int) _ (by omega) M1 (by omega) M2).mono ?_
        rintro x w2 ⟨rfl, d2⟩
        have b2 : Below w.heap.size w w2 := d1.trans (d2.mono d1.size)
        clear d1 d2
        go_wp2_with fail
        refine (units_any p l P (ea + eb) _ (unhide LL).vp (unhide HEL) (unhide LL).bP hlT).mono ?_
        rintro x w3 ⟨rfl, d3⟩
        have z3 : w2.heap.size < w3.heap.size := by have := d3.size; simp at this; omega
        have c30 : w3.cell? ⟨w2.heap.size, 0, none⟩ = some (.int .u64 (hi64 ((ma : Int) * mb))) := (d3.cell (p := ⟨w2.heap.size, 0, none⟩) (by simp)).trans (by simp [go_sem])
        have c31 : w3.cell? ⟨w2.heap.size, 1, none⟩ = some (.int .u64 (lo64 ((ma : Int) * mb))) := (d3.cell (p := ⟨w2.heap.size, 1, none⟩) (by simp)).trans (by simp [go_sem])
        have b3 : Below w.heap.size w w3 := (b2.alloc b2.size _).trans (d3.mono (by simp; have := b2.size; omega))
        clear d3
        go_wp2_with fail
        refine (units_any e l _ (ea + eb) _ (unhide LL).ve (unhide HEL) (unhide LL).bE hlT).mono ?_
        rintro x w4 ⟨rfl, d4⟩
        have z4 : w3.heap.size < w4.heap.size := by have := d4.size; simp at this; omega
        have c40 : w4.cell? ⟨w2.heap.size, 0, none⟩ = some (.int .u64 (hi64 ((ma : Int) * mb))) := (d4.cell (p := ⟨w2.heap.size, 0, none⟩) (by simp; omega)).trans (by simp [go_sem, z3, c30])
        have c41 : w4.cell? ⟨w2.heap.size, 1, none⟩ = some (.int .u64 (lo64 ((ma : Int) * mb))) := (d4.cell (p := ⟨w2.heap.size, 1, none⟩) (by simp; omega)).trans (by simp [go_sem, z3, c31])
        have c42 : w4.cell? ⟨w3.heap.size, 0, none⟩ = some (.int .u64 (hi64 P)) := (d4.cell (p := ⟨w3.heap.size, 0, none⟩) (by simp)).trans (by simp [go_sem])
        have c43 : w4.cell? ⟨w3.heap.size, 1, none⟩ = some (.int .u64 (lo64 P)) := (d4.cell (p := ⟨w3.heap.size, 1, none⟩) (by simp)).trans (by simp [go_sem])
        have b4 : Below w.heap.size w w4 := (b3.alloc b3.size _).trans (d4.mono (by simp; have := b3.size; omega))
        clear d4 c30 c31 b2 b3
        go_wp2_with fail
        have z24 : w2.heap.size < w4.heap.size := Nat.lt_trans z3 z4
        have k21 := fun o => old1 z24 o
        have k24 := fun o1 o2 o3 o4 => old4 z24 o1 o2 o3 o4
        have k31 := fun o => old1 z4 o
        have k34 := fun o1 o2 o3 o4 => old4 z4 o1 o2 o3 o4
        have hadd := hide (add_x P (((ma : Int) * mb) - P) ((ma : Int) * mb) (by omega))
        go_region_held3 (fun w' => w'.cell? ⟨w2.heap.size, 0, none⟩ = some (.int .u64 (hi64 ((ma : Int) * mb))) ∧ w'.cell? ⟨w2.heap.size, 1, none⟩ = some (.int .u64 (lo64 ((ma : Int) * mb))) ∧ w'.cell? ⟨w3.heap.size, 0, none⟩ = some (.int .u64 (hi64 P)) ∧ w'.cell? ⟨w3.heap.size, 1, none⟩ = some (.int .u64 (lo64 P)) ∧ w'.cell? ⟨w4.heap.size, 0, none⟩ = some (.int .u64 (hi64 (((ma : Int) * mb) - P))) ∧ w'.cell? ⟨w4.heap.size, 1, none⟩ = some (.int .u64 (lo64 (((ma : Int) * mb) - P)))) (first | (simp [go_sem, World.cell?_alloc_past, k21, k31, c40, c41, c42, c43]; done) | (simp [go_sem, World.cell?_alloc_past, k24, k34, c40, c41, c42, c43]; done))
          (first
            | (go_at_call 13; refine (unhide hadd _).mono ?_; rintro x w' ⟨rfl, o1, o2, o3, rfl⟩))
        go_wp2
        go_ret
        exact ⟨rfl, ((((b4.alloc b4.size _).alloc (by simp; have := b4.size; omega) _).alloc (by simp; have := b4.size; omega) _).alloc (by simp; have := b4.size; omega) _).drew⟩
      · have ox : FloatKind.f64.format.order a 0 = some .lt := order_lt (unhide HX) val_zero hx
        have oy : FloatKind.f64.format.order b 0 = some .gt := order_gt (unhide HY) val_zero (by have := unhide NY; omega)
        have EAB : sgn (decide (X < 0)) ma * sgn (decide (Y < 0)) mb = (-((ma : Int) * mb)) := by rw [sgn_mul]; simp [hx, hy]
        rw [EAB] at LL
        clear NX NY HX HY EAB
        go_wp2_with fail
        refine (ZZtwoProd_walk SA SB R _).mono ?_
        rintro x w1 ⟨rfl, d1⟩
        go_wp2_with fail
        refine (mul_any (ma : Int) (mb : Int) _ (by omega) M1 (by omega) M2).mono ?_
        rintro x w2 ⟨rfl, d2⟩
        have b2 : Below w.heap.size w w2 := d1.trans (d2.mono d1.size)
        clear d1 d2
        go_wp2_with fail
        refine (neg_any _ _ ((ma : Int) * mb) _ rfl rfl).mono ?_
        rintro x v2 ⟨rfl, dn⟩
        have zn : w2.heap.size < v2.heap.size := by have := dn.size; simp at this; omega
        have n0 : v2.cell? ⟨w2.heap.size, 0, none⟩ = some (.int .u64 (hi64 ((ma : Int) * mb))) := (dn.cell (p := ⟨w2.heap.size, 0, none⟩) (by simp)).trans (by simp [go_sem])
        have n1 : v2.cell? ⟨w2.heap.size, 1, none⟩ = some (.int .u64 (lo64 ((ma : Int) * mb))) := (dn.cell (p := ⟨w2.heap.size, 1, none⟩) (by simp)).trans (by simp [go_sem])
        have g0 : v2.frozen? ⟨w2.heap.size, 0, none⟩ = false := (dn.frozen (p := ⟨w2.heap.size, 0, none⟩) (by simp)).trans (by simp [go_sem])
        have g1 : v2.frozen? ⟨w2.heap.size, 1, none⟩ = false := (dn.frozen (p := ⟨w2.heap.size, 1, none⟩) (by simp)).trans (by simp [go_sem])
        have bn : Below w.heap.size w v2 := (b2.alloc b2.size _).trans (dn.mono (by simp; have := b2.size; omega))
        clear dn
        go_wp2_with fail
        refine (units_any p l P (ea + eb) _ (unhide LL).vp (unhide HEL) (unhide LL).bP hlT).mono ?_
        rintro x w3 ⟨rfl, d3⟩
        have z3 : w2.heap.size < w3.heap.size := by have := d3.size; simp at this; omega
        have c30 : w3.cell? ⟨w2.heap.size, 0, none⟩ = some (.int .u64 (hi64 (-((ma : Int) * mb)))) := (d3.cell (p := ⟨w2.heap.size, 0, none⟩) (by simp; omega)).trans (by simp [go_sem, n0, n1])
        have c31 : w3.cell? ⟨w2.heap.size, 1, none⟩ = some (.int .u64 (lo64 (-((ma : Int) * mb)))) := (d3.cell (p := ⟨w2.heap.size, 1, none⟩) (by simp; omega)).trans (by simp [go_sem, n0, n1])
        have b3 : Below w.heap.size w w3 := ((bn.setCell (p := ⟨w2.heap.size, 0, none⟩) b2.size _).setCell (p := ⟨w2.heap.size, 1, none⟩) b2.size _).trans (d3.mono (by simp; have := bn.size; omega))
        clear n0 n1 g0 g1 bn zn
        clear d3
        go_wp2_with fail
        refine (units_any e l _ (ea + eb) _ (unhide LL).ve (unhide HEL) (unhide LL).bE hlT).mono ?_
        rintro x w4 ⟨rfl, d4⟩
        have z4 : w3.heap.size < w4.heap.size := by have := d4.size; simp at this; omega
        have c40 : w4.cell? ⟨w2.heap.size, 0, none⟩ = some (.int .u64 (hi64 (-((ma : Int) * mb)))) := (d4.cell (p := ⟨w2.heap.size, 0, none⟩) (by simp; omega)).trans (by simp [go_sem, z3, c30])
        have c41 : w4.cell? ⟨w2.heap.size, 1, none⟩ = some (.int .u64 (lo64 (-((ma : Int) * mb)))) := (d4.cell (p := ⟨w2.heap.size, 1, none⟩) (by simp; omega)).trans (by simp [go_sem, z3, c31])
        have c42 : w4.cell? ⟨w3.heap.size, 0, none⟩ = some (.int .u64 (hi64 P)) := (d4.cell (p := ⟨w3.heap.size, 0, none⟩) (by simp)).trans (by simp [go_sem])
        have c43 : w4.cell? ⟨w3.heap.size, 1, none⟩ = some (.int .u64 (lo64 P)) := (d4.cell (p := ⟨w3.heap.size, 1, none⟩) (by simp)).trans (by simp [go_sem])
        have b4 : Below w.heap.size w w4 := (b3.alloc b3.size _).trans (d4.mono (by simp; have := b3.size; omega))
        clear d4 c30 c31 b2 b3
        go_wp2_with fail
        have z24 : w2.heap.size < w4.heap.size := Nat.lt_trans z3 z4
        have k21 := fun o => old1 z24 o
        have k24 := fun o1 o2 o3 o4 => old4 z24 o1 o2 o3 o4
        have k31 := fun o => old1 z4 o
        have k34 := fun o1 o2 o3 o4 => old4 z4 o1 o2 o3 o4
        have hadd := hide (add_x P ((-((ma : Int) * mb)) - P) (-((ma : Int) * mb)) (by omega))
        go_region_held3 (fun w' => w'.cell? ⟨w2.heap.size, 0, none⟩ = some (.int .u64 (hi64 (-((ma : Int) * mb)))) ∧ w'.cell? ⟨w2.heap.size, 1, none⟩ = some (.int .u64 (lo64 (-((ma : Int) * mb)))) ∧ w'.cell? ⟨w3.heap.size, 0, none⟩ = some (.int .u64 (hi64 P)) ∧ w'.cell? ⟨w3.heap.size, 1, none⟩ = some (.int .u64 (lo64 P)) ∧ w'.cell? ⟨w4.heap.size, 0, none⟩ = some (.int .u64 (hi64 ((-((ma : Int) * mb)) - P))) ∧ w'.cell? ⟨w4.heap.size, 1, none⟩ = some (.int .u64 (lo64 ((-((ma : Int) * mb)) - P)))) (first | (simp [go_sem, World.cell?_alloc_past, k21, k31, c40, c41, c42, c43]; done) | (simp [go_sem, World.cell?_alloc_past, k24, k34, c40, c41, c42, c43]; done))
          (first
            | (go_at_call 13; refine (unhide hadd _).mono ?_; rintro x w' ⟨rfl, o1, o2, o3, rfl⟩))
        go_wp2
        go_ret
        exact ⟨rfl, ((((b4.alloc b4.size _).alloc (by simp; have := b4.size; omega) _).alloc (by simp; have := b4.size; omega) _).alloc (by simp; have := b4.size; omega) _).drew⟩
    · by_cases hy : Y < 0
      · have ox : FloatKind.f64.format.order a 0 = some .gt := order_gt (unhide HX) val_zero (by have := unhide NX; omega)
        have oy : FloatKind.f64.format.order b 0 = some .lt := order_lt (unhide HY) val_zero hy
        have EAB : sgn (decide (X < 0)) ma * sgn (decide (Y < 0)) mb = (-((ma : Int) * mb)) := by rw [sgn_mul]; simp [hx, hy]
        rw [EAB] at LL
        clear NX NY HX HY EAB
        go_wp2_with fail
        refine (ZZtwoProd_walk SA SB R _).mono ?_
        rintro x w1 ⟨rfl, d1⟩
        go_wp2_with fail
        refine (mul_any (ma : Int) (mb : Int) _ (by omega) M1 (by omega) M2).mono ?_
        rintro x w2 ⟨rfl, d2⟩
        have b2 : Below w.heap.size w w2 := d1.trans (d2.mono d1.size)
        clear d1 d2
        go_wp2_with fail
        refine (neg_any _ _ ((ma : Int) * mb) _ rfl rfl).mono ?_
        rintro x v2 ⟨rfl, dn⟩
        have zn : w2.heap.size < v2.heap.size := by have := dn.size; simp at this; omega
        have n0 : v2.cell? ⟨w2.heap.size, 0, none⟩ = some (.int .u64 (hi64 ((ma : Int) * mb))) := (dn.cell (p := ⟨w2.heap.size, 0, none⟩) (by simp)).trans (by simp [go_sem])
        have n1 : v2.cell? ⟨w2.heap.size, 1, none⟩ = some (.int .u64 (lo64 ((ma : Int) * mb))) := (dn.cell (p := ⟨w2.heap.size, 1, none⟩) (by simp)).trans (by simp [go_sem])
        have g0 : v2.frozen? ⟨w2.heap.size, 0, none⟩ = false := (dn.frozen (p := ⟨w2.heap.size, 0, none⟩) (by simp)).trans (by simp [go_sem])
        have g1 : v2.frozen? ⟨w2.heap.size, 1, none⟩ = false := (dn.frozen (p := ⟨w2.heap.size, 1, none⟩) (by simp)).trans (by simp [go_sem])
        have bn : Below w.heap.size w v2 := (b2.alloc b2.size _).trans (dn.mono (by simp; have := b2.size; omega))
        clear dn
        go_wp2_with fail
        refine (units_any p l P (ea + eb) _ (unhide LL).vp (unhide HEL) (unhide LL).bP hlT).mono ?_
        rintro x w3 ⟨rfl, d3⟩
        have z3 : w2.heap.size < w3.heap.size := by have := d3.size; simp at this; omega
        have c30 : w3.cell? ⟨w2.heap.size, 0, none⟩ = some (.int .u64 (hi64 (-((ma : Int) * mb)))) := (d3.cell (p := ⟨w2.heap.size, 0, none⟩) (by simp; omega)).trans (by simp [go_sem, n0, n1])
        have c31 : w3.cell? ⟨w2.heap.size, 1, none⟩ = some (.int .u64 (lo64 (-((ma : Int) * mb)))) := (d3.cell (p := ⟨w2.heap.size, 1, none⟩) (by simp; omega)).trans (by simp [go_sem, n0, n1])
        have b3 : Below w.heap.size w w3 := ((bn.setCell (p := ⟨w2.heap.size, 0, none⟩) b2.size _).setCell (p := ⟨w2.heap.size, 1, none⟩) b2.size _).trans (d3.mono (by simp; have := bn.size; omega))
        clear n0 n1 g0 g1 bn zn
        clear d3
        go_wp2_with fail
        refine (units_any e l _ (ea + eb) _ (unhide LL).ve (unhide HEL) (unhide LL).bE hlT).mono ?_
        rintro x w4 ⟨rfl, d4⟩
        have z4 : w3.heap.size < w4.heap.size := by have := d4.size; simp at this; omega
        have c40 : w4.cell? ⟨w2.heap.size, 0, none⟩ = some (.int .u64 (hi64 (-((ma : Int) * mb)))) := (d4.cell (p := ⟨w2.heap.size, 0, none⟩) (by simp; omega)).trans (by simp [go_sem, z3, c30])
        have c41 : w4.cell? ⟨w2.heap.size, 1, none⟩ = some (.int .u64 (lo64 (-((ma : Int) * mb)))) := (d4.cell (p := ⟨w2.heap.size, 1, none⟩) (by simp; omega)).trans (by simp [go_sem, z3, c31])
        have c42 : w4.cell? ⟨w3.heap.size, 0, none⟩ = some (.int .u64 (hi64 P)) := (d4.cell (p := ⟨w3.heap.size, 0, none⟩) (by simp)).trans (by simp [go_sem])
        have c43 : w4.cell? ⟨w3.heap.size, 1, none⟩ = some (.int .u64 (lo64 P)) := (d4.cell (p := ⟨w3.heap.size, 1, none⟩) (by simp)).trans (by simp [go_sem])
        have b4 : Below w.heap.size w w4 := (b3.alloc b3.size _).trans (d4.mono (by simp; have := b3.size; omega))
        clear d4 c30 c31 b2 b3
        go_wp2_with fail
        have z24 : w2.heap.size < w4.heap.size := Nat.lt_trans z3 z4
        have k21 := fun o => old1 z24 o
        have k24 := fun o1 o2 o3 o4 => old4 z24 o1 o2 o3 o4
        have k31 := fun o => old1 z4 o
        have k34 := fun o1 o2 o3 o4 => old4 z4 o1 o2 o3 o4
        have hadd := hide (add_x P ((-((ma : Int) * mb)) - P) (-((ma : Int) * mb)) (by omega))
        go_region_held3 (fun w' => w'.cell? ⟨w2.heap.size, 0, none⟩ = some (.int .u64 (hi64 (-((ma : Int) * mb)))) ∧ w'.cell? ⟨w2.heap.size, 1, none⟩ = some (.int .u64 (lo64 (-((ma : Int) * mb)))) ∧ w'.cell? ⟨w3.heap.size, 0, none⟩ = some (.int .u64 (hi64 P)) ∧ w'.cell? ⟨w3.heap.size, 1, none⟩ = some (.int .u64 (lo64 P)) ∧ w'.cell? ⟨w4.heap.size, 0, none⟩ = some (.int .u64 (hi64 ((-((ma : Int) * mb)) - P))) ∧ w'.cell? ⟨w4.heap.size, 1, none⟩ = some (.int .u64 (lo64 ((-((ma : Int) * mb)) - P)))) (first | (simp [go_sem, World.cell?_alloc_past, k21, k31, c40, c41, c42, c43]; done) | (simp [go_sem, World.cell?_alloc_past, k24, k34, c40, c41, c42, c43]; done))
          (first
            | (go_at_call 13; refine (unhide hadd _).mono ?_; rintro x w' ⟨rfl, o1, o2, o3, rfl⟩))
        go_wp2
        go_ret
        exact ⟨rfl, ((((b4.alloc b4.size _).alloc (by simp; have := b4.size; omega) _).alloc (by simp; have := b4.size; omega) _).alloc (by simp; have := b4.size; omega) _).drew⟩
      · have ox : FloatKind.f64.format.order a 0 = some .gt := order_gt (unhide HX) val_zero (by have := unhide NX; omega)
        have oy : FloatKind.f64.format.order b 0 = some .gt := order_gt (unhide HY) val_zero (by have := unhide NY; omega)
        have EAB : sgn (decide (X < 0)) ma * sgn (decide (Y < 0)) mb = ((ma : Int) * mb) := by rw [sgn_mul]; simp [hx, hy]
        rw [EAB] at LL
        clear NX NY HX HY EAB
        go_wp2_with fail
        refine (ZZtwoProd_walk SA SB R _).mono ?_
        rintro x w1 ⟨rfl, d1⟩
        go_wp2_with fail
        refine (mul_any (ma : Int) (mb : Int) _ (by omega) M1 (by omega) M2).mono ?_
        rintro x w2 ⟨rfl, d2⟩
        have b2 : Below w.heap.size w w2 := d1.trans (d2.mono d1.size)
        clear d1 d2
        go_wp2_with fail
        refine (units_any p l P (ea + eb) _ (unhide LL).vp (unhide HEL) (unhide LL).bP hlT).mono ?_
        rintro x w3 ⟨rfl, d3⟩
        have z3 : w2.heap.size < w3.heap.size := by have := d3.size; simp at this; omega
        have c30 : w3.cell? ⟨w2.heap.size, 0, none⟩ = some (.int .u64 (hi64 ((ma : Int) * mb))) := (d3.cell (p := ⟨w2.heap.size, 0, none⟩) (by simp)).trans (by simp [go_sem])
        have c31 : w3.cell? ⟨w2.heap.size, 1, none⟩ = some (.int .u64 (lo64 ((ma : Int) * mb))) := (d3.cell (p := ⟨w2.heap.size, 1, none⟩) (by simp)).trans (by simp [go_sem])
        have b3 : Below w.heap.size w w3 := (b2.alloc b2.size _).trans (d3.mono (by simp; have := b2.size; omega))
        clear d3
        go_wp2_with fail
        refine (units_any e l _ (ea + eb) _ (unhide LL).ve (unhide HEL) (unhide LL).bE hlT).mono ?_
        rintro x w4 ⟨rfl, d4⟩
        have z4 : w3.heap.size < w4.heap.size := by have := d4.size; simp at this; omega
        have c40 : w4.cell? ⟨w2.heap.size, 0, none⟩ = some (.int .u64 (hi64 ((ma : Int) * mb))) := (d4.cell (p := ⟨w2.heap.size, 0, none⟩) (by simp; omega)).trans (by simp [go_sem, z3, c30])
        have c41 : w4.cell? ⟨w2.heap.size, 1, none⟩ = some (.int .u64 (lo64 ((ma : Int) * mb))) := (d4.cell (p := ⟨w2.heap.size, 1, none⟩) (by simp; omega)).trans (by simp [go_sem, z3, c31])
        have c42 : w4.cell? ⟨w3.heap.size, 0, none⟩ = some (.int .u64 (hi64 P)) := (d4.cell (p := ⟨w3.heap.size, 0, none⟩) (by simp)).trans (by simp [go_sem])
        have c43 : w4.cell? ⟨w3.heap.size, 1, none⟩ = some (.int .u64 (lo64 P)) := (d4.cell (p := ⟨w3.heap.size, 1, none⟩) (by simp)).trans (by simp [go_sem])
        have b4 : Below w.heap.size w w4 := (b3.alloc b3.size _).trans (d4.mono (by simp; have := b3.size; omega))
        clear d4 c30 c31 b2 b3
        go_wp2_with fail
        have z24 : w2.heap.size < w4.heap.size := Nat.lt_trans z3 z4
        have k21 := fun o => old1 z24 o
        have k24 := fun o1 o2 o3 o4 => old4 z24 o1 o2 o3 o4
        have k31 := fun o => old1 z4 o
        have k34 := fun o1 o2 o3 o4 => old4 z4 o1 o2 o3 o4
        have hadd := hide (add_x P (((ma : Int) * mb) - P) ((ma : Int) * mb) (by omega))
        go_region_held3 (fun w' => w'.cell? ⟨w2.heap.size, 0, none⟩ = some (.int .u64 (hi64 ((ma : Int) * mb))) ∧ w'.cell? ⟨w2.heap.size, 1, none⟩ = some (.int .u64 (lo64 ((ma : Int) * mb))) ∧ w'.cell? ⟨w3.heap.size, 0, none⟩ = some (.int .u64 (hi64 P)) ∧ w'.cell? ⟨w3.heap.size, 1, none⟩ = some (.int .u64 (lo64 P)) ∧ w'.cell? ⟨w4.heap.size, 0, none⟩ = some (.int .u64 (hi64 (((ma : Int) * mb) - P))) ∧ w'.cell? ⟨w4.heap.size, 1, none⟩ = some (.int .u64 (lo64 (((ma : Int) * mb) - P)))) (first | (simp [go_sem, World.cell?_alloc_past, k21, k31, c40, c41, c42, c43]; done) | (simp [go_sem, World.cell?_alloc_past, k24, k34, c40, c41, c42, c43]; done))
          (first
            | (go_at_call 13; refine (unhide hadd _).mono ?_; rintro x w' ⟨rfl, o1, o2, o3, rfl⟩))
        go_wp2
        go_ret
        exact ⟨rfl, ((((b4.alloc b4.size _).alloc (by simp; have := b4.size; omega) _).alloc (by simp; have := b4.size; omega) _).alloc (by simp; have := b4.size; omega) _).drew⟩

end Go.Proofs.Qxb6604785a
