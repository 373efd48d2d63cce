/-
  tpUnits: x / 2^e0 as a 128-bit integer.
-/
import Derived.Test.Qxb6604785aDecomp
namespace Go.Proofs.Qxb6604785a
set_option linter.unusedVariables false
set_option linter.unusedSimpArgs false
open Go.RowKit
open Ieee (double Datum)

/-- The two ways of the exponents. -/
theorem units_way {Y l m a b : Nat} {e e0 : Int} (D : Dec (Y * 2 ^ l) m e a b) (h0 : e0 = (l : Int) - 1074) (hY : 0 < Y) (hY' : Y ≤ 2 ^ 106) :
    (∃ K : Nat, e - e0 = K ∧ K ≤ 54 ∧ Y = m * 2 ^ K) ∨ (∃ S : Nat, e - e0 = -(S : Int) ∧ 1 ≤ S ∧ S ≤ 52 ∧ m = Y * 2 ^ S) := by
  have hn := D.hn
  rw [Nat.mul_assoc, ← Nat.pow_add] at hn
  have he := D.he
  have hU := Fl.U_eq
  rcases Nat.le_total (l + b) (a + Fl.U) with h | h
  · left
    obtain ⟨K, hK⟩ : ∃ K, a + Fl.U = K + (l + b) := ⟨a + Fl.U - (l + b), by omega⟩
    rw [hK, Nat.pow_add 2 K, ← Nat.mul_assoc] at hn
    have hYK : Y = m * 2 ^ K := Nat.eq_of_mul_eq_mul_right (Nat.two_pow_pos _) hn
    refine ⟨K, by omega, ?_, hYK⟩
    have h1 : 2 ^ 52 * 2 ^ K ≤ 2 ^ 106 := by
      refine Nat.le_trans ?_ hY'
      rw [hYK]; exact Nat.mul_le_mul_right _ D.m1
    rw [← Nat.pow_add] at h1
    have := (Nat.pow_le_pow_iff_right (show 1 < 2 by omega)).1 h1
    omega
  · by_cases hz : l + b = a + Fl.U
    · left
      rw [hz] at hn
      exact ⟨0, by omega, by omega, by rw [Nat.pow_zero, Nat.mul_one]; exact Nat.eq_of_mul_eq_mul_right (Nat.two_pow_pos _) hn⟩
    · right
      obtain ⟨S, hS⟩ : ∃ S, l + b = S + (a + Fl.U) := ⟨l + b - (a + Fl.U), by omega⟩
      rw [hS, Nat.pow_add 2 S, ← Nat.mul_assoc] at hn
      have hm : m = Y * 2 ^ S := (Nat.eq_of_mul_eq_mul_right (Nat.two_pow_pos _) hn).symm
      refine ⟨S, by omega, by omega, ?_, hm⟩
      have h1 : 2 ^ S < 2 ^ 53 := by
        have h2 : 1 * 2 ^ S ≤ Y * 2 ^ S := Nat.mul_le_mul_right _ hY
        have := D.m2
        rw [← hm] at h2
        omega
      have := (Nat.pow_lt_pow_iff_right (show 1 < 2 by omega)).1 h1
      omega

theorem and_mask (m S : Nat) (hm : m < 18446744073709551616) (hS : S ≤ 52) (h : m % 2 ^ S = 0) : bits .and .u64 (m : Int) (2 ^ S - 1) = 0 := by
  have hp : 2 ^ S ≤ 2 ^ 52 := Nat.pow_le_pow_right (by omega) hS
  have h1 := Nat.two_pow_pos S
  have e : ((2 : Int) ^ S - 1) = ((2 ^ S - 1 : Nat) : Int) := by rw [← Fl.cast_pow]; omega
  rw [e, u64_and_nat m (2 ^ S - 1) hm (by omega), Nat.and_two_pow_sub_one_eq_mod, h]; rfl

theorem wrap_mask (S : Nat) (hS : S ≤ 52) : IntKind.u64.wrap (IntKind.u64.wrap (2 ^ S) - 1) = 2 ^ S - 1 := by
  have hp : 2 ^ S ≤ 2 ^ 52 := Nat.pow_le_pow_right (by omega) hS
  have h1 := Nat.two_pow_pos S
  rw [IntKind.wrap_u64, IntKind.wrap_u64, ← Fl.cast_pow]
  generalize 2 ^ S = q at *
  omega

open Fl in
set_option maxHeartbeats 1000000 in
theorem units_zero (x : Nat) (e0 : Int) (w : World) (hX : Val x 0) :
    Calls Try.prog 12 #[.float .f64 x, .int .i64 e0] w fun e w' => e = .returned (.tuple #[.agg #[.int .u64 (hi64 0), .int .u64 (lo64 0)], .bool true]) ∧ Below w.heap.size w w' := by
  have o : FloatKind.f64.format.order x 0 = some .eq := order_eq hX val_zero rfl
  clear hX
  go_enter Try.func12, Try.ntmps12
  go_wp2
  refine bodyPost_ret (v := .tuple #[.agg #[.int .u64 0, .int .u64 0], .bool true]) (by simp [results, Try.results12, go_sem]) rfl ⟨rfl, ?_⟩
  exact (Below.refl _ _).alloc (Nat.le_refl _) _

/-- The call's two boxes: the result's and v's. -/
structure Two (w W : World) (a b c d : Int) : Prop where
  bel : Below w.heap.size w W
  a0 : W.cell? ⟨w.heap.size, 0, none⟩ = some (.int .u64 a)
  a1 : W.cell? ⟨w.heap.size, 1, none⟩ = some (.int .u64 b)
  c0 : W.cell? ⟨w.heap.size + 1, 0, none⟩ = some (.int .u64 c)
  c1 : W.cell? ⟨w.heap.size + 1, 1, none⟩ = some (.int .u64 d)
  f0 : W.frozen? ⟨w.heap.size, 0, none⟩ = false
  f1 : W.frozen? ⟨w.heap.size, 1, none⟩ = false
  g0 : W.frozen? ⟨w.heap.size + 1, 0, none⟩ = false
  g1 : W.frozen? ⟨w.heap.size + 1, 1, none⟩ = false
  size : w.heap.size + 2 ≤ W.heap.size

theorem Two.on {w W W' : World} {a b c d : Int} (h : Two w W a b c d) (hb : Below W.heap.size W W') : Two w W' a b c d := by
  have hs := h.size
  exact ⟨h.bel.trans (hb.mono (by omega)), (hb.cell (p := ⟨w.heap.size, 0, none⟩) (show w.heap.size < W.heap.size by omega)).trans h.a0, (hb.cell (p := ⟨w.heap.size, 1, none⟩) (show w.heap.size < W.heap.size by omega)).trans h.a1,
    (hb.cell (p := ⟨w.heap.size + 1, 0, none⟩) (show w.heap.size + 1 < W.heap.size by omega)).trans h.c0, (hb.cell (p := ⟨w.heap.size + 1, 1, none⟩) (show w.heap.size + 1 < W.heap.size by omega)).trans h.c1,
    (hb.frozen (p := ⟨w.heap.size, 0, none⟩) (show w.heap.size < W.heap.size by omega)).trans h.f0, (hb.frozen (p := ⟨w.heap.size, 1, none⟩) (show w.heap.size < W.heap.size by omega)).trans h.f1,
    (hb.frozen (p := ⟨w.heap.size + 1, 0, none⟩) (show w.heap.size + 1 < W.heap.size by omega)).trans h.g0, (hb.frozen (p := ⟨w.heap.size + 1, 1, none⟩) (show w.heap.size + 1 < W.heap.size by omega)).trans h.g1, Nat.le_trans hs hb.size⟩

theorem Two.start (w : World) (c d : Int) : Two w ((w.alloc (.cells #[.int .u64 0, .int .u64 0] 30)).alloc (.cells #[.int .u64 c, .int .u64 d] 30)) 0 0 c d := by
  refine ⟨((Below.refl _ _).alloc (Nat.le_refl _) _).alloc (by simp) _, ?_, ?_, ?_, ?_, ?_, ?_, ?_, ?_, by simp⟩
  all_goals simp [go_sem]

theorem Two.set {w W : World} {a b c d : Int} (h : Two w W a b c d) (x y : Int) : Two w ((W.setCell ⟨w.heap.size + 1, 0, none⟩ (.int .u64 x)).setCell ⟨w.heap.size + 1, 1, none⟩ (.int .u64 y)) a b x y := by
  have q0 := h.a0
  have q1 := h.a1
  have q2 := h.c0
  have q3 := h.c1
  have q4 := h.f0
  have q5 := h.f1
  have q6 := h.g0
  have q7 := h.g1
  have q8 := h.size
  refine ⟨(h.bel.setCell (show w.heap.size ≤ w.heap.size + 1 by omega) _).setCell (show w.heap.size ≤ w.heap.size + 1 by omega) _, ?_, ?_, ?_, ?_, ?_, ?_, ?_, ?_, by simp; omega⟩
  all_goals simp [go_sem, q0, q1, q2, q3, q4, q5, q6, q7]

open Fl in
set_option maxHeartbeats 2000000 in
theorem units_pos (x l : Nat) (Y : Nat) (e0 : Int) (w : World) (hX : Val x ((Y : Int) * 2 ^ l)) (h0 : e0 = (l : Int) - 1074) (hY : 0 < Y) (hY' : Y ≤ 2 ^ 106) (hl : l + 106 < T) :
    Calls Try.prog 12 #[.float .f64 x, .int .i64 e0] w fun e w' => e = .returned (.tuple #[.agg #[.int .u64 (hi64 ((Y : Int))), .int .u64 (lo64 ((Y : Int)))], .bool true]) ∧ Below w.heap.size w w' := by
  have hpos : (0 : Int) < (Y : Int) * 2 ^ l := Int.mul_pos (by omega) (Int.pow_pos (by omega))
  have o1 : FloatKind.f64.format.order x 0 = some .gt := order_gt hX val_zero hpos
  have hnat : ((Y : Int) * 2 ^ l).natAbs = Y * 2 ^ l := by rw [natAbs_mul_pow, Int.natAbs_natCast]
  have hT : ((Y : Int) * 2 ^ l).natAbs < 2 ^ T := by rw [hnat]; exact lt_T hY' (by omega)
  have hdec := fun w => decomp_any x _ w hX (by omega) hT
  rw [hnat] at hdec
  have HDEC := hide hdec
  have H0 := hide h0
  have b1 : -1074 ≤ e0 := by omega
  have b2 : e0 ≤ 2000 := by have := T_eq; omega
  clear hdec hpos hnat hT h0
  go_enter Try.func12, Try.ntmps12
  go_wp2_with fail
  refine ((unhide HDEC) _).mono ?_
  rintro e w1 ⟨⟨m, k, a, b, rfl, D⟩, rfl⟩
  have kb1 : -1127 ≤ k := by have := D.he; have := D.hb; omega
  have kb2 : k ≤ 2097 := by have := D.he; have := D.ha; omega
  have m1 := D.m1
  have m2 := D.m2
  rcases units_way D (unhide H0) hY hY' with ⟨K, hK, hK', hYK⟩ | ⟨S, hS, hS1, hS2, hm⟩
  · have HYK : Hid ((m : Int) * 2 ^ K = (Y : Int)) := by show _ = _; rw [hYK, Int.natCast_mul, cast_pow]
    clear hYK D HDEC H0 hX hY hY' hl
    go_wp2_with fail
    refine (shl_any m K _ (by omega) (by omega) (by omega)).mono ?_
    rintro e w2 ⟨rfl, d⟩
    rw [unhide HYK]
    have B := (Two.start w 0 0).on d
    clear d
    have q0 := B.c0
    have q1 := B.c1
    have q2 := B.g0
    have q3 := B.g1
    have q4 := B.a0
    have q5 := B.a1
    have q6 := B.f0
    have q7 := B.f1
    go_wp2
    exact bodyPost_ret (v := .tuple #[.agg #[.int .u64 (hi64 (Y : Int)), .int .u64 (lo64 (Y : Int))], .bool true]) (by simp [results, Try.results12, go_sem, q0, q1, q4, q5]) rfl ⟨rfl, (((B.bel.setCell (show w.heap.size ≤ w.heap.size + 1 by omega) _).setCell (show w.heap.size ≤ w.heap.size + 1 by omega) _).setCell (Nat.le_refl _) _).setCell (Nat.le_refl _) _⟩
  · have hmask : (bits .and .u64 (m : Int) (IntKind.u64.wrap (IntKind.u64.wrap (2 ^ S) - 1)) != 0) = false := by
      rw [wrap_mask S hS2, and_mask m S (by omega) hS2 (by rw [hm]; exact Nat.mul_mod_left _ _)]; rfl
    have hYm : (m : Int) / 2 ^ S = (Y : Int) := by
      rw [← cast_pow, ← Int.natCast_ediv, hm, Nat.mul_div_cancel _ (Nat.two_pow_pos S)]
    have hYb : Y < 9007199254740992 := by
      have : Y * 1 ≤ Y * 2 ^ S := Nat.mul_le_mul_left _ (Nat.two_pow_pos S)
      rw [← hm] at this
      omega
    have EH : Hid (hi64 (Y : Int) = 0) := by show _ = _; unfold hi64; omega
    have EL : Hid (lo64 (Y : Int) = (Y : Int)) := by show _ = _; unfold lo64; omega
    clear hm D HDEC H0 hX hY hY' hl
    go_wp2
    refine bodyPost_ret (v := .tuple #[.agg #[.int .u64 0, .int .u64 (Y : Int)], .bool true]) (by simp [results, Try.results12, go_sem]) rfl ⟨?_, ?_⟩
    · rw [unhide EH, unhide EL]
    · exact ((Below.refl _ _).alloc (Nat.le_refl _) _).alloc (by simp) _

open Fl in
set_option maxHeartbeats 2000000 in
theorem units_neg (x l : Nat) (Y : Nat) (e0 : Int) (w : World) (hX : Val x (-(Y : Int) * 2 ^ l)) (h0 : e0 = (l : Int) - 1074) (hY : 0 < Y) (hY' : Y ≤ 2 ^ 106) (hl : l + 106 < T) :
    Calls Try.prog 12 #[.float .f64 x, .int .i64 e0] w fun e w' => e = .returned (.tuple #[.agg #[.int .u64 (hi64 (-(Y : Int))), .int .u64 (lo64 (-(Y : Int)))], .bool true]) ∧ Below w.heap.size w w' := by
  have hpos : (0 : Int) < (Y : Int) * 2 ^ l := Int.mul_pos (by omega) (Int.pow_pos (by omega))
  have hneg : -(Y : Int) * 2 ^ l < 0 := by rw [Int.neg_mul]; omega
  have o1 : FloatKind.f64.format.order x 0 = some .lt := order_lt hX val_zero hneg
  have hnat : (-(Y : Int) * 2 ^ l).natAbs = Y * 2 ^ l := by rw [natAbs_mul_pow, Int.natAbs_neg, Int.natAbs_natCast]
  have hT : (-(Y : Int) * 2 ^ l).natAbs < 2 ^ T := by rw [hnat]; exact lt_T hY' (by omega)
  have hdec := fun w => decomp_any x _ w hX (by omega) hT
  rw [hnat] at hdec
  have HDEC := hide hdec
  have H0 := hide h0
  have b1 : -1074 ≤ e0 := by omega
  have b2 : e0 ≤ 2000 := by have := T_eq; omega
  clear hdec hpos hnat hT h0 hneg
  go_enter Try.func12, Try.ntmps12
  go_wp2_with fail
  refine ((unhide HDEC) _).mono ?_
  rintro e w1 ⟨⟨m, k, a, b, rfl, D⟩, rfl⟩
  have kb1 : -1127 ≤ k := by have := D.he; have := D.hb; omega
  have kb2 : k ≤ 2097 := by have := D.he; have := D.ha; omega
  have m1 := D.m1
  have m2 := D.m2
  rcases units_way D (unhide H0) hY hY' with ⟨K, hK, hK', hYK⟩ | ⟨S, hS, hS1, hS2, hm⟩
  · have HYK : Hid ((m : Int) * 2 ^ K = (Y : Int)) := by show _ = _; rw [hYK, Int.natCast_mul, cast_pow]
    clear hYK D HDEC H0 hX hY hY' hl
    go_wp2_with fail
    refine (shl_any m K _ (by omega) (by omega) (by omega)).mono ?_
    rintro e w2 ⟨rfl, d⟩
    rw [unhide HYK]
    have B := (Two.start w 0 0).on d
    clear d
    have q0 := B.c0
    have q1 := B.c1
    have q2 := B.g0
    have q3 := B.g1
    have q4 := B.a0
    have q5 := B.a1
    have q6 := B.f0
    have q7 := B.f1
    go_wp2_with fail
    refine (neg_any _ _ (Y : Int) _ rfl rfl).mono ?_
    rintro e w3 ⟨rfl, d⟩
    have B2 := (B.set (hi64 Y) (lo64 Y)).on d
    clear d B q0 q1 q2 q3 q4 q5 q6 q7
    have q0 := B2.c0
    have q1 := B2.c1
    have q2 := B2.g0
    have q3 := B2.g1
    have q4 := B2.a0
    have q5 := B2.a1
    have q6 := B2.f0
    have q7 := B2.f1
    go_wp2
    exact bodyPost_ret (v := .tuple #[.agg #[.int .u64 (hi64 (-(Y : Int))), .int .u64 (lo64 (-(Y : Int)))], .bool true]) (by simp [results, Try.results12, go_sem, q0, q1, q4, q5]) rfl ⟨rfl, (((B2.bel.setCell (show w.heap.size ≤ w.heap.size + 1 by omega) _).setCell (show w.heap.size ≤ w.heap.size + 1 by omega) _).setCell (Nat.le_refl _) _).setCell (Nat.le_refl _) _⟩
  · have hmask : (bits .and .u64 (m : Int) (IntKind.u64.wrap (IntKind.u64.wrap (2 ^ S) - 1)) != 0) = false := by
      rw [wrap_mask S hS2, and_mask m S (by omega) hS2 (by rw [hm]; exact Nat.mul_mod_left _ _)]; rfl
    have hYm : (m : Int) / 2 ^ S = (Y : Int) := by
      rw [← cast_pow, ← Int.natCast_ediv, hm, Nat.mul_div_cancel _ (Nat.two_pow_pos S)]
    have hYb : Y < 9007199254740992 := by
      have : Y * 1 ≤ Y * 2 ^ S := Nat.mul_le_mul_left _ (Nat.two_pow_pos S)
      rw [← hm] at this
      omega
    have EH : Hid (hi64 (Y : Int) = 0) := by show _ = _; unfold hi64; omega
    have EL : Hid (lo64 (Y : Int) = (Y : Int)) := by show _ = _; unfold lo64; omega
    clear hm D HDEC H0 hX hY hY' hl
    go_wp2_with fail
    refine (neg_any _ _ (Y : Int) _ (unhide EH).symm (unhide EL).symm).mono ?_
    rintro e w3 ⟨rfl, d⟩
    have B2 := (Two.start w 0 (Y : Int)).on d
    clear d
    have q0 := B2.c0
    have q1 := B2.c1
    have q2 := B2.g0
    have q3 := B2.g1
    have q4 := B2.a0
    have q5 := B2.a1
    have q6 := B2.f0
    have q7 := B2.f1
    go_wp2
    exact bodyPost_ret (v := .tuple #[.agg #[.int .u64 (hi64 (-(Y : Int))), .int .u64 (lo64 (-(Y : Int)))], .bool true]) (by simp [results, Try.results12, go_sem, q0, q1, q4, q5]) rfl ⟨rfl, (((B2.bel.setCell (show w.heap.size ≤ w.heap.size + 1 by omega) _).setCell (show w.heap.size ≤ w.heap.size + 1 by omega) _).setCell (Nat.le_refl _) _).setCell (Nat.le_refl _) _⟩

open Fl in
theorem units_any (x l : Nat) (Y : Int) (e0 : Int) (w : World) (hX : Sc x Y l) (h0 : e0 = (l : Int) - 1074) (hY : Y.natAbs ≤ 2 ^ 106) (hl : l + 106 < T) :
    Calls Try.prog 12 #[.float .f64 x, .int .i64 e0] w fun e w' => e = .returned (.tuple #[.agg #[.int .u64 (hi64 Y), .int .u64 (lo64 Y)], .bool true]) ∧ Below w.heap.size w w' := by
  rcases Int.lt_trichotomy Y 0 with h | h | h
  · have := units_neg x l Y.natAbs e0 w (by rw [show -((Y.natAbs : Nat) : Int) = Y by omega]; exact hX) h0 (by omega) hY hl
    rwa [show -((Y.natAbs : Nat) : Int) = Y by omega] at this
  · subst h
    exact units_zero x e0 w (by have := hX; unfold Sc at this; rwa [Int.zero_mul] at this)
  · have := units_pos x l Y.natAbs e0 w (by rw [show ((Y.natAbs : Nat) : Int) = Y by omega]; exact hX) h0 (by omega) hY hl
    rwa [show ((Y.natAbs : Nat) : Int) = Y by omega] at this

end Go.Proofs.Qxb6604785a
