/-
  readDigits AND zzStripZeros.
-/
import Derived.Test.Qxb6600904aRuns
namespace Go.Proofs.Qxb6600904a
set_option linter.unusedVariables false
set_option linter.unusedSimpArgs false
open Go.RowKit

/-! ### readDigits -/
/-- Its answer. -/
def Read (L : List Int) (f most : Nat) (e : Ending) : Prop := ∃ n k : Nat, e = .returned (.tuple #[.int .u64 n, .int .i64 k]) ∧ RD L f most n k
theorem val_step {L : List Int} {f k : Nat} {x : Int} (hf : f ≤ k) (hx : At L k x) : val (seg L f (k + 1)) = val (seg L f k) * 10 + (x - 48).toNat := by
  obtain ⟨g, hx⟩ := hx
  rw [seg_step hf g, ← hx, val_snoc]
theorem val_le {L : List Int} {f k most len : Nat} (hL : L.length = len) (hf : f ≤ k) (hk : k < len) (hm : k - f < most) (h19 : most ≤ 19) (h : AllD (seg L f k)) : val (seg L f k) ≤ 999999999999999999 := by
  have h1 := val_lt_of (n := 18) h (by rw [seg_length hf (by omega)]; omega)
  have : (10 : Nat) ^ 18 = 1000000000000000000 := by decide
  omega

set_option maxHeartbeats 1000000 in
theorem read_any (a : Option Addr) (len cap : Nat) (L : List Int) (f most : Nat) (w : World) (h : Bys w a len cap L) (hf : f ≤ len) (hm : len ≤ 1048576) (h19 : most ≤ 19) :
    Calls Try.prog 31 #[.slice a len cap, .int .i64 f, .int .i64 most] w fun e w' => Read L f most e ∧ w' = w := by
  have HL := hide h.hlen
  by_cases h0 : f < len
  · obtain ⟨b, off, rfl, hb, hc⟩ := h.cells (by omega)
    clear h
    go_enter Try.func31, Try.ntmps31
    go_wp2
    go_loop [8, 9] (fun n i => ∃ k : Nat, f ≤ k ∧ k ≤ len ∧ k - f ≤ most ∧ i = .int .i64 k ∧ Hid (n = .int .u64 (val (seg L f k)) ∧ AllD (seg L f k))) (fun n i => len - (intOf i).toNat)
    case atStart => exact ⟨f, by omega, by omega, by omega, rfl, by rw [seg_self]; exact ⟨rfl, AllD.nil⟩⟩
    case round =>
      obtain ⟨k, hk1, hk, hk2, rfl, hrel⟩ := hrel
      obtain ⟨rfl, hall⟩ := unhide hrel
      have HA := hide hall
      clear hall hrel
      by_cases hlt : k < len
      · obtain ⟨x, hx, hcx⟩ := cell_at (unhide HL) hc k hlt
        clear hc
        by_cases h1 : 48 ≤ x
        · by_cases h2 : x ≤ 57
          · by_cases hmost : k - f = most
            · have e1 : ((k : Int) - f == most) = true := by rw [beq_iff_eq]; omega
              have HM := hide hmost
              go_wp2
              exact bodyPost_ret (v := .tuple #[.int .u64 0, .int .i64 f]) (by simp [results, Try.results31, go_sem]) rfl ⟨⟨0, f, rfl, RD.many (unhide HM) (digs_more hk1 (by have := unhide HL; omega) (by rw [← (unhide hx).2]; exact isD_iff.2 ⟨h1, h2⟩) (unhide HA))⟩, rfl⟩
            · have hv := val_le (unhide HL) hk1 hlt (by omega) h19 (unhide HA)
              have HV := hide (val_step hk1 (unhide hx))
              have e1 : ((k : Int) - f == most) = false := by rw [beq_eq_false_iff_ne]; omega
              generalize hvv : val (seg L f k) = v at *
              go_wp2
              go_round
              case rel => exact ⟨k + 1, by omega, by omega, by omega, by go_num, by rw [unhide HV]; go_num, digs_step hk1 (unhide hx) (isD_iff.2 ⟨h1, h2⟩) (unhide HA)⟩
              case measure => simp [intOf]; omega
          · go_wp2
            exact bodyPost_ret (v := .tuple #[.int .u64 (val (seg L f k)), .int .i64 k]) (by simp [results, Try.results31, go_sem]) rfl ⟨⟨_, k, rfl, RD.upto hk1 (by have := unhide HL; omega) hk2 (digs_stop hk1 (by have := unhide HL; omega) (by rw [← (unhide hx).2]; exact isD_no.2 (Or.inr (by omega))) (unhide HA))⟩, rfl⟩
        · go_wp2
          exact bodyPost_ret (v := .tuple #[.int .u64 (val (seg L f k)), .int .i64 k]) (by simp [results, Try.results31, go_sem]) rfl ⟨⟨_, k, rfl, RD.upto hk1 (by have := unhide HL; omega) hk2 (digs_stop hk1 (by have := unhide HL; omega) (by rw [← (unhide hx).2]; exact isD_no.2 (Or.inl (by omega))) (unhide HA))⟩, rfl⟩
      · go_wp2
        exact bodyPost_ret (v := .tuple #[.int .u64 (val (seg L f k)), .int .i64 k]) (by simp [results, Try.results31, go_sem]) rfl ⟨⟨_, k, rfl, RD.upto hk1 (by have := unhide HL; omega) hk2 (digs_end hk1 (by have := unhide HL; omega) (unhide HA))⟩, rfl⟩
  · clear h
    go_enter Try.func31, Try.ntmps31
    go_wp2
    refine wp_loop_rounds 1 ?_
    rw [rounds_succ]
    go_wp2
    exact bodyPost_ret (v := .tuple #[.int .u64 0, .int .i64 f]) (by simp [results, Try.results31, go_sem]) rfl ⟨⟨0, f, rfl, RD.none (by have := unhide HL; omega)⟩, rfl⟩

/-! ### zzStripZeros -/
theorem conv_any {w : World} {b off len : Nat} {L : List Int} (hL : L.length = len) (hc : ∀ i (h : i < L.length), w.cell? ⟨b, off + i, none⟩ = some (.int .u8 L[i])) (o c : Nat) (h : o ≤ len) :
    (convert 22 9 (.slice (some ⟨b, off + o, none⟩) (len - o) c)).run Try.prog w = .ok (.string (strOfNums (L.drop o))) w := by
  refine run_convert_bytes_arg (P := Try.prog) w 22 5 Try.underlying22 Try.underlying5 b (off + o) (len - o) c (L.drop o) (by simp; omega) ?_ 9 Try.underlying9
  intro i hi
  rw [Nat.add_assoc, hc (o + i) (by omega)]
  simp [List.getD, show o + i < L.length by omega]
theorem ret_str {a b : List Int} (h : a = b) : Ending.returned (.string (strOfNums a)) = .returned (.string (strOfNums b)) := by rw [h]

set_option maxHeartbeats 1000000 in
theorem strip_any (a : Option Addr) (len cap : Nat) (L : List Int) (w : World) (h : Bys w a len cap L) (h0 : 1 ≤ len) (hm : len ≤ 1048576) :
    Calls Try.prog 18 #[.slice a len cap] w fun e w' => e = .returned (.string (strOfNums (strip L))) ∧ w' = w := by
  have HL := hide h.hlen
  have hcap := h.hcap
  obtain ⟨b, off, rfl, hb, hc⟩ := h.cells (by omega)
  clear h
  have HC := hide hc
  go_enter Try.func18, Try.ntmps18
  go_wp2
  go_loop [3] (fun i => ∃ k : Nat, k < len ∧ i = .int .i64 k ∧ Hid (strip L = strip (L.drop k))) (fun i => len - (intOf i).toNat)
  case atStart => exact ⟨0, by omega, rfl, by rw [List.drop_zero]; exact rfl⟩
  case round =>
    obtain ⟨k, hk, rfl, hrel⟩ := hrel
    obtain ⟨x, hx, hcx⟩ := cell_at (unhide HL) hc k hk
    clear hc
    have kc := conv_any (unhide HL) (unhide HC) k (cap - k) (by omega)
    by_cases hlt : k + 1 < len
    · by_cases hxy : x = 48
      · have HX := hide hxy
        have hb : (x == 48) = true := by simp [hxy]
        clear hxy
        go_wp2
        go_round
        case rel => exact ⟨k + 1, by omega, by go_num, (unhide hrel).trans (strip_zero (by have := unhide HL; omega) ((unhide hx).2.symm.trans (unhide HX)))⟩
        case measure => simp [intOf]; omega
      · have HX := hide hxy
        have hb : (x == 48) = false := by simp [hxy]
        clear hxy
        go_wp2
        go_ret
        exact ⟨ret_str ((unhide hrel).trans (strip_stop (unhide hx).1 (fun e => unhide HX ((unhide hx).2.trans e)))).symm, rfl⟩
    · go_wp2
      go_ret
      exact ⟨ret_str ((unhide hrel).trans (strip_last (by have := unhide HL; omega))).symm, rfl⟩

end Go.Proofs.Qxb6600904a
