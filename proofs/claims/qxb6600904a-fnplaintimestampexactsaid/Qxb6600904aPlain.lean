/-
  plainTimestamp AND ZZPlainTimestamp: what they answer.
-/
import Derived.Test.Qxb6600904aItoa
namespace Go.Proofs.Qxb6600904a
set_option linter.unusedVariables false
set_option linter.unusedSimpArgs false
open Go.RowKit

/-- Its answer. -/
def PlainOut (L : List Int) (e : Ending) : Prop := (∃ A B N, Shape L A B N ∧ e = .returned (.tuple #[.agg #[.int .i64 (val A), .int .u64 (val B), .int .i64 (val N)], .bool true])) ∨ (¬ Shaped L ∧ e = .returned (.tuple #[.agg #[.int .i64 0, .int .u64 0, .int .i64 0], .bool false]))

theorem read_at (a : Option Addr) (len cap : Nat) (L : List Int) (f most : Nat) (fi mi : Int) (w : World) (h : Bys w a len cap L) (hf : f ≤ len) (hm : len ≤ 1048576) (h19 : most ≤ 19) (e1 : fi = f) (e2 : mi = most) :
    Calls Try.prog 31 #[.slice a len cap, .int .i64 fi, .int .i64 mi] w fun e w' => Read L f most e ∧ w' = w := by
  subst e1 e2; exact read_any a len cap L f most w h hf hm h19

set_option maxHeartbeats 4000000 in
theorem plain_any (a : Option Addr) (len cap : Nat) (L : List Int) (w : World) (h : Bys w a len cap L) (hm : len ≤ 1048576) :
    Calls Try.prog 28 #[.slice a len cap] w fun e w' => PlainOut L e ∧ Below w.heap.size w w' := by
  have HL := hide h.hlen
  have HB := hide h
  clear h
  go_enter Try.func28, Try.ntmps28
  go_wp2_with fail
  refine (read_at a len cap L 0 18 _ _ _ ((unhide HB).below ((Below.refl _ _).alloc (Nat.le_refl _) _)) (by omega) hm (by omega) (by omega) (by omega)).mono ?_
  rintro e w1 ⟨⟨n, i, rfl, r⟩, rfl⟩
  have R := hide r
  have hil := (r.le (Nat.zero_le _)).2
  rw [unhide HL] at hil
  have hn := r.lt
  rw [show (10 : Nat) ^ 18 = 1000000000000000000 by decide] at hn
  clear r
  by_cases h1 : i = 0
  · have H1 := hide h1
    have e1 : ((i : Int) == 0) = true := by rw [beq_iff_eq]; omega
    clear h1
    go_wp2
    exact bodyPost_ret (v := .tuple #[.agg #[.int .i64 0, .int .u64 0, .int .i64 0], .bool false]) (by simp [results, Try.results28, go_sem]) rfl ⟨Or.inr ⟨no1 (unhide R) (unhide H1), rfl⟩, (Below.refl _ _).alloc (Nat.le_refl _) _⟩
  have H1 := hide h1
  have e1 : ((i : Int) == 0) = false := by rw [beq_eq_false_iff_ne]; omega
  by_cases h2 : i = len
  · have H2 := hide h2
    have e2 : ((i : Int) == (len : Int)) = true := by rw [beq_iff_eq]; omega
    clear h1 h2
    go_wp2
    exact bodyPost_ret (v := .tuple #[.agg #[.int .i64 0, .int .u64 0, .int .i64 0], .bool false]) (by simp [results, Try.results28, go_sem]) rfl ⟨Or.inr ⟨no2 (unhide R) ((unhide H2).trans (unhide HL).symm), rfl⟩, (Below.refl _ _).alloc (Nat.le_refl _) _⟩
  have e2 : ((i : Int) == (len : Int)) = false := by rw [beq_eq_false_iff_ne]; omega
  have hlt : i < len := by omega
  clear h1 h2
  obtain ⟨b, off, rfl, hb, hc⟩ := ((unhide HB).below ((Below.refl _ _).alloc (Nat.le_refl _) (.cells #[.int .i64 0, .int .u64 0, .int .i64 0] 31))).cells (by omega)
  have HC := hide hc
  clear hc
  obtain ⟨x, hx, hcx⟩ := cell_at (unhide HL) (unhide HC) i hlt
  by_cases h3 : x = 46
  case neg =>
    have H3 := hide h3
    have e3 : (x != 46) = true := by simp [h3]
    clear h3
    go_wp2
    exact bodyPost_ret (v := .tuple #[.agg #[.int .i64 0, .int .u64 0, .int .i64 0], .bool false]) (by simp [results, Try.results28, go_sem]) rfl ⟨Or.inr ⟨no3 (unhide R) (unhide hx) (unhide H3), rfl⟩, (Below.refl _ _).alloc (Nat.le_refl _) _⟩
  have H3 := hide h3
  have e3 : (x != 46) = false := by simp [h3]
  clear h3
  go_wp2_with fail
  refine (read_at _ len cap L (i + 1) 19 _ _ _ ((unhide HB).below ((Below.refl _ _).alloc (Nat.le_refl _) _)) (by omega) hm (by omega) (by omega) (by omega)).mono ?_
  rintro e w1 ⟨⟨m, j, rfl, q⟩, rfl⟩
  have Q := hide q
  obtain ⟨hij, hjl⟩ := q.le (by rw [unhide HL]; omega)
  rw [unhide HL] at hjl
  have hmb := q.lt
  rw [show (10 : Nat) ^ 19 = 10000000000000000000 by decide] at hmb
  clear q e1 e2 e3
  by_cases h4 : j = i + 1
  · have H4 := hide h4
    have e4 : ((j : Int) == (i : Int) + 1) = true := by rw [beq_iff_eq]; omega
    clear h4
    go_wp2
    exact bodyPost_ret (v := .tuple #[.agg #[.int .i64 0, .int .u64 0, .int .i64 0], .bool false]) (by simp [results, Try.results28, go_sem]) rfl ⟨Or.inr ⟨no4 (unhide R) (unhide Q) (unhide H4), rfl⟩, (Below.refl _ _).alloc (Nat.le_refl _) _⟩
  have H4 := hide h4
  have e4 : ((j : Int) == (i : Int) + 1) = false := by rw [beq_eq_false_iff_ne]; omega
  clear h4
  by_cases h5 : len ≤ j + 2
  · go_wp2
    exact bodyPost_ret (v := .tuple #[.agg #[.int .i64 0, .int .u64 0, .int .i64 0], .bool false]) (by simp [results, Try.results28, go_sem]) rfl ⟨Or.inr ⟨no5 (unhide R) (unhide Q) (by rw [unhide HL]; exact h5), rfl⟩, (Below.refl _ _).alloc (Nat.le_refl _) _⟩
  obtain ⟨y, hy, hcy⟩ := cell_at (unhide HL) (unhide HC) j (by omega)
  obtain ⟨z, hz, hcz⟩ := cell_at (unhide HL) (unhide HC) (j + 1) (by omega)
  obtain ⟨t, ht, hct⟩ := cell_at (unhide HL) (unhide HC) (j + 2) (by omega)
  by_cases h6 : y = 46
  case neg =>
    have H6 := hide h6
    have e6 : (y != 46) = true := by simp [h6]
    clear h6
    go_wp2
    exact bodyPost_ret (v := .tuple #[.agg #[.int .i64 0, .int .u64 0, .int .i64 0], .bool false]) (by simp [results, Try.results28, go_sem]) rfl ⟨Or.inr ⟨no6 (unhide R) (unhide Q) (unhide hy) (unhide H6), rfl⟩, (Below.refl _ _).alloc (Nat.le_refl _) _⟩
  have H6 := hide h6
  have e6 : (y != 46) = false := by simp [h6]
  clear h6
  by_cases h7 : z = 110
  case neg =>
    have H7 := hide h7
    have e7 : (z != 110) = true := by simp [h7]
    clear h7
    go_wp2
    exact bodyPost_ret (v := .tuple #[.agg #[.int .i64 0, .int .u64 0, .int .i64 0], .bool false]) (by simp [results, Try.results28, go_sem]) rfl ⟨Or.inr ⟨no7 (unhide R) (unhide Q) (unhide hz) (unhide H7), rfl⟩, (Below.refl _ _).alloc (Nat.le_refl _) _⟩
  have H7 := hide h7
  have e7 : (z != 110) = false := by simp [h7]
  clear h7
  by_cases h8 : t = 48
  · have H8 := hide h8
    have e8 : (t == 48) = true := by simp [h8]
    clear h8
    go_wp2
    exact bodyPost_ret (v := .tuple #[.agg #[.int .i64 0, .int .u64 0, .int .i64 0], .bool false]) (by simp [results, Try.results28, go_sem]) rfl ⟨Or.inr ⟨no8 (unhide R) (unhide Q) (unhide ht) (unhide H8), rfl⟩, (Below.refl _ _).alloc (Nat.le_refl _) _⟩
  have H8 := hide h8
  have e8 : (t == 48) = false := by simp [h8]
  clear h8
  go_wp2_with fail
  refine (read_at _ len cap L (j + 2) 18 _ _ _ ((unhide HB).below ((Below.refl _ _).alloc (Nat.le_refl _) _)) (by omega) hm (by omega) (by omega) (by omega)).mono ?_
  rintro e w1 ⟨⟨o, k, rfl, p⟩, rfl⟩
  have P := hide p
  obtain ⟨hjk, hkl⟩ := p.le (by rw [unhide HL]; omega)
  rw [unhide HL] at hkl
  have ho := p.lt
  rw [show (10 : Nat) ^ 18 = 1000000000000000000 by decide] at ho
  clear p e4 e6 e7 e8
  by_cases h9 : k = j + 2
  · have H9 := hide h9
    have e9 : ((k : Int) == (j : Int) + 2) = true := by rw [beq_iff_eq]; omega
    clear h9
    go_wp2
    exact bodyPost_ret (v := .tuple #[.agg #[.int .i64 0, .int .u64 0, .int .i64 0], .bool false]) (by simp [results, Try.results28, go_sem]) rfl ⟨Or.inr ⟨no9 (unhide R) (unhide Q) (unhide P) (unhide H9), rfl⟩, (Below.refl _ _).alloc (Nat.le_refl _) _⟩
  have H9 := hide h9
  have e9 : ((k : Int) == (j : Int) + 2) = false := by rw [beq_eq_false_iff_ne]; omega
  clear h9
  by_cases h10 : k = len
  case neg =>
    have H10 := hide h10
    have e10 : ((k : Int) != (len : Int)) = true := by rw [bne_iff_ne]; omega
    clear h10
    go_wp2
    exact bodyPost_ret (v := .tuple #[.agg #[.int .i64 0, .int .u64 0, .int .i64 0], .bool false]) (by simp [results, Try.results28, go_sem]) rfl ⟨Or.inr ⟨no10 (unhide R) (unhide Q) (unhide P) (fun e => unhide H10 (e.trans (unhide HL))), rfl⟩, (Below.refl _ _).alloc (Nat.le_refl _) _⟩
  have H10 := hide h10
  have e10 : ((k : Int) != (len : Int)) = false := by simp; omega
  clear h10
  obtain ⟨A, B, N, hS, rfl, rfl, rfl⟩ := yes (unhide R) (unhide H1) (unhide hx) (unhide H3) (unhide Q) (unhide H4) (unhide hy) (unhide H6) (unhide hz) (unhide H7) (unhide ht) (unhide H8) (unhide P) (unhide H9) ((unhide H10).trans (unhide HL).symm)
  have HS := hide hS
  clear hS
  go_wp2
  exact bodyPost_ret (v := .tuple #[.agg #[.int .i64 (val A), .int .u64 (val B), .int .i64 (val N)], .bool true]) (by simp [results, Try.results28, go_sem]) rfl ⟨Or.inl ⟨A, B, N, unhide HS, rfl⟩, (Below.refl _ _).alloc (Nat.le_refl _) _⟩

end Go.Proofs.Qxb6600904a
