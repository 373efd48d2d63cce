/-
  NEGATION ON WORDS; WHAT A WORD CAN BE; THE WALK OF tpInRange.
-/
import Derived.Test.Qxb6604785aWide
namespace Go.Proofs.Qxb6604785a
open Go.RowKit
open Ieee (double Datum)

namespace Fl
/-- The word with the other sign. -/
def neg (x : Nat) : Nat := Op.negFloat .f64 x
theorem neg_eq (x : Nat) : neg x = x ^^^ 2 ^ 63 := rfl

theorem read_neg (x : Nat) : double.read (neg x) = (double.read x).opposite := by
  have hs : double.signWeight = 2 ^ 63 := by decide
  have e1 : neg x % 2 ^ 63 = x % 2 ^ 63 := by
    rw [neg_eq, Nat.xor_mod_two_pow, Nat.mod_self, Nat.xor_zero]
  have e2 : neg x / 2 ^ 63 % 2 = (x / 2 ^ 63 + 1) % 2 := by
    rw [neg_eq, Nat.xor_div_two_pow, Nat.div_self (Nat.two_pow_pos _)]
    generalize x / 2 ^ 63 = q
    have h := Nat.xor_mod_two_pow (a := q) (b := 1) (n := 1)
    rw [show (2 : Nat) ^ 1 = 2 from rfl] at h
    rw [h]
    rcases (show q % 2 = 0 ∨ q % 2 = 1 by omega) with h' | h'
    · rw [h', show 0 ^^^ 1 % 2 = 1 from rfl]; omega
    · rw [h', show 1 ^^^ 1 % 2 = 0 from rfl]; omega
  have e3 : (neg x / 2 ^ 63 % 2 == 1) = !(x / 2 ^ 63 % 2 == 1) := by
    rw [e2, Bool.eq_iff_iff]; simp; omega
  unfold Ieee.Format.read
  simp only [hs, e1, e3]
  split
  · rfl
  · split
    · rfl
    · split <;> rfl

theorem val_neg {x : Nat} {X : Int} (h : Val x X) : Val (neg x) (-X) := by
  obtain ⟨s, _, ⟨m, e, hm, hr, rfl⟩, rfl⟩ := h
  refine ⟨!s, _, ⟨m, e, hm, by rw [read_neg, hr]; rfl, rfl⟩, ?_⟩
  unfold sval; cases s <;> simp

theorem read_number {x : Nat} {s : Bool} {m : Nat} {e : Int} (h : double.read x = .number s m e) : m < 2 ^ 53 ∧ ∃ k : Nat, e = (k : Int) - 1074 := by
  unfold Ieee.Format.read at h
  simp only [d_sign, d_binade, d_inf, d_least] at h
  generalize (x / 9223372036854775808 % 2 == 1) = t at h
  generalize x % 9223372036854775808 = r at h
  split at h
  · injection h with h1 h2 h3
    subst h2 h3
    exact ⟨by omega, 0, by omega⟩
  · split at h
    · injection h with h1 h2 h3
      subst h2 h3
      exact ⟨by omega, r / 4503599627370496 - 1, by omega⟩
    · split at h <;> cases h

/-- A word is a finite number, an infinity or no number. -/
theorem what (x : Nat) : (∃ X, Val x X) ∨ (∃ s, double.read x = .infinity s) ∨ (∃ s t, double.read x = .nan s t) := by
  cases h : double.read x with
  | number s m e =>
    obtain ⟨hm, k, rfl⟩ := read_number h
    exact Or.inl ⟨_, s, _, ⟨m, k, hm, h, rfl⟩, rfl⟩
  | infinity s => exact Or.inr (Or.inl ⟨s, rfl⟩)
  | nan s t => exact Or.inr (Or.inr ⟨s, t, rfl⟩)

theorem order_nan {x : Nat} {s : Bool} {t : Nat} (h : double.read x = .nan s t) (y : Nat) : double.order x y = none := by
  unfold Ieee.Format.order; rw [h]; rfl
theorem order_inf {x : Nat} {s : Bool} (h : double.read x = .infinity s) {y : Nat} {Y : Int} (hy : Val y Y) : double.order x y = some (if s then .lt else .gt) := by
  obtain ⟨t, _, ⟨m, e, _, hr, rfl⟩, _⟩ := hy
  unfold Ieee.Format.order; rw [h, hr]; rfl

/-- The four bounds of the Go text. -/
theorem val_min : Val 4503599627370496 (2 ^ 52) := val_p2 4503599627370496 0 (by decide)
theorem val_max : Val 9088264048033660928 (2 ^ (52 + 2017)) := val_p2 9088264048033660928 2017 (by decide)
theorem val_2p53 : Val 4845873199050653696 (2 ^ (52 + 1075)) := val_p2 4845873199050653696 1075 (by decide)
theorem val_2p52 : Val 4841369599423283200 (2 ^ (52 + 1074)) := val_p2 4841369599423283200 1074 (by decide)
theorem val_half : Val 4602678819172646912 (2 ^ (52 + 1021)) := val_p2 4602678819172646912 1021 (by decide)
theorem val_two : Val 4611686018427387904 (2 ^ (52 + 1023)) := val_p2 4611686018427387904 1023 (by decide)

theorem order_lt {x y : Nat} {X Y : Int} (hx : Val x X) (hy : Val y Y) (h : X < Y) : FloatKind.f64.format.order x y = some .lt := by
  show double.order x y = _
  rw [order_val hx hy, Int.compare_eq_lt.2 h]
theorem order_gt {x y : Nat} {X Y : Int} (hx : Val x X) (hy : Val y Y) (h : Y < X) : FloatKind.f64.format.order x y = some .gt := by
  show double.order x y = _
  rw [order_val hx hy, Int.compare_eq_gt.2 h]
theorem order_eq {x y : Nat} {X Y : Int} (hx : Val x X) (hy : Val y Y) (h : X = Y) : FloatKind.f64.format.order x y = some .eq := by
  show double.order x y = _
  rw [order_val hx hy, Int.compare_eq_eq.2 h]
theorem order_ge {x y : Nat} {X Y : Int} (hx : Val x X) (hy : Val y Y) (h : Y ≤ X) : (FloatKind.f64.format.order x y == some .gt || FloatKind.f64.format.order x y == some .eq) = true := by
  rcases Int.lt_or_eq_of_le h with h | h
  · rw [order_gt hx hy h]; rfl
  · rw [order_eq hx hy h.symm]; rfl

/-- What twoProd's documented domain holds. -/
def InR (x : Nat) : Prop := ∃ X, Val x X ∧ (X = 0 ∨ (2 ^ 52 ≤ X.natAbs ∧ X.natAbs < 2 ^ (52 + 2017)))
theorem inR_of {x : Nat} {X Y : Int} (hX : Val x X) (hY : Y = X ∨ Y = -X) (h1 : (2 : Int) ^ 52 ≤ Y) (h2 : Y < 2 ^ (52 + 2017)) : InR x := by
  refine ⟨X, hX, Or.inr ?_⟩
  have e1 := cast_pow 52
  have e2 := cast_pow (52 + 2017)
  generalize (52 + 2017 : Nat) = k at *
  generalize (2 ^ k : Nat) = M at *
  generalize (2 ^ 52 : Nat) = m at *
  rw [← e1] at h1
  rw [← e2] at h2
  omega
theorem inR_zero {x : Nat} (hX : Val x 0) : InR x := ⟨0, hX, Or.inl rfl⟩
/-- The three outcomes of a comparison. -/
theorem order_tri {x y : Nat} {X Y : Int} (hx : Val x X) (hy : Val y Y) : (FloatKind.f64.format.order x y = some .lt ∧ X < Y) ∨ (FloatKind.f64.format.order x y = some .eq ∧ X = Y) ∨ (FloatKind.f64.format.order x y = some .gt ∧ Y < X) := by
  rcases Int.lt_trichotomy X Y with h | h | h
  · exact Or.inl ⟨order_lt hx hy h, h⟩
  · exact Or.inr (Or.inl ⟨order_eq hx hy h, h⟩)
  · exact Or.inr (Or.inr ⟨order_gt hx hy h, h⟩)
end Fl

theorem hide {p : Prop} (h : p) : Hid p := h
theorem unhide {p : Prop} (h : Hid p) : p := h
theorem run_neg_float (k : FloatKind) (x : Nat) (w : World) : (Op.unary .neg (.float k x)).run Try.prog w = .ok (.float k (Op.negFloat k x)) w := rfl

open Fl in
set_option maxHeartbeats 1000000 in
theorem range_any (x : Nat) (w : World) : Calls Try.prog 7 #[.float .f64 x] w fun e w' => ∃ b, e = .returned (.bool b) ∧ Hid (b = true → InR x) ∧ w' = w := by
  have rn := run_neg_float
  rcases what x with ⟨X, hX⟩ | ⟨s, hs⟩ | ⟨s, t, hn⟩
  · rcases order_tri hX val_zero with ⟨o1, c1⟩ | ⟨o1, c1⟩ | ⟨o1, c1⟩
    · have hN : Val (Op.negFloat .f64 x) (-X) := val_neg hX
      rcases order_tri hN val_min with ⟨o2, c2⟩ | ⟨o2, c2⟩ | ⟨o2, c2⟩ <;> rcases order_tri hN val_max with ⟨o3, c3⟩ | ⟨o3, c3⟩ | ⟨o3, c3⟩
      all_goals
        have C2 := hide c2
        have C3 := hide c3
        clear c1 c2 c3
        go_enter Try.func7, Try.ntmps7
        go_wp2
        go_ret
        exact ⟨_, rfl, (fun h => by first | (cases h; done) | exact inR_of hX (Or.inr rfl) (Int.le_of_lt (unhide C2)) (unhide C3) | exact inR_of hX (Or.inr rfl) (Int.le_of_eq (unhide C2).symm) (unhide C3)), rfl⟩
    · subst c1
      go_enter Try.func7, Try.ntmps7
      go_wp2
      go_ret
      exact ⟨_, rfl, (fun _ => inR_zero hX), rfl⟩
    · rcases order_tri hX val_min with ⟨o2, c2⟩ | ⟨o2, c2⟩ | ⟨o2, c2⟩ <;> rcases order_tri hX val_max with ⟨o3, c3⟩ | ⟨o3, c3⟩ | ⟨o3, c3⟩
      all_goals
        have C2 := hide c2
        have C3 := hide c3
        clear c1 c2 c3
        go_enter Try.func7, Try.ntmps7
        go_wp2
        go_ret
        exact ⟨_, rfl, (fun h => by first | (cases h; done) | exact inR_of hX (Or.inl rfl) (Int.le_of_lt (unhide C2)) (unhide C3) | exact inR_of hX (Or.inl rfl) (Int.le_of_eq (unhide C2).symm) (unhide C3)), rfl⟩
  · have hN : double.read (Op.negFloat .f64 x) = .infinity (!s) := by
      have := read_neg x
      rw [hs] at this
      exact this
    cases s with
    | true =>
      have o1 : FloatKind.f64.format.order x 0 = some .lt := order_inf hs val_zero
      have o2 : FloatKind.f64.format.order (Op.negFloat .f64 x) 4503599627370496 = some .gt := order_inf hN val_min
      have o3 : FloatKind.f64.format.order (Op.negFloat .f64 x) 9088264048033660928 = some .gt := order_inf hN val_max
      clear hs hN
      go_enter Try.func7, Try.ntmps7
      go_wp2
      go_ret
      exact ⟨_, rfl, (fun h => by cases h), rfl⟩
    | false =>
      have o1 : FloatKind.f64.format.order x 0 = some .gt := order_inf hs val_zero
      have o2 : FloatKind.f64.format.order x 4503599627370496 = some .gt := order_inf hs val_min
      have o3 : FloatKind.f64.format.order x 9088264048033660928 = some .gt := order_inf hs val_max
      clear hs hN
      go_enter Try.func7, Try.ntmps7
      go_wp2
      go_ret
      exact ⟨_, rfl, (fun h => by cases h), rfl⟩
  · have o1 : ∀ y, FloatKind.f64.format.order x y = none := order_nan hn
    go_enter Try.func7, Try.ntmps7
    go_wp2
    go_ret
    exact ⟨_, rfl, (fun h => by cases h), rfl⟩

end Go.Proofs.Qxb6604785a
