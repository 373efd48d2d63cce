/-
  zzSplitTimestamp: the three pieces, or the news that there are none.
-/
import Derived.Test.Qxb6600904aRuns2
namespace Go.Proofs.Qxb6600904a
set_option linter.unusedVariables false
set_option linter.unusedSimpArgs false
open Go.RowKit

/-- Its answer. -/
def SplitEnd (L : List Int) (w : World) (e : Ending) : Prop := (∃ (A B N : List Int) (aA aB aN : Option Addr) (lA lB lN cA cB cN : Nat), Shape L A B N ∧ e = .returned (.tuple #[.slice aA lA cA, .slice aB lB cB, .slice aN lN cN, .bool true]) ∧ Bys w aA lA cA A ∧ Bys w aB lB cB B ∧ Bys w aN lN cN N)
  ∨ (¬ Shaped L ∧ e = .returned (.tuple #[.slice none 0 0, .slice none 0 0, .slice none 0 0, .bool false]))

theorem Bys.piece {w : World} {b off len cap : Nat} {L : List Int} (h : Bys w (some ⟨b, off, none⟩) len cap L) (f k c : Nat) (hf : f ≤ k) (hk : k ≤ len) (hc : k - f ≤ c) : Bys w (some ⟨b, off + f, none⟩) (k - f) c (seg L f k) := by
  have hl := h.hlen
  refine ⟨seg_length hf (by omega), hc, fun e => (by cases e), fun x hx => h.hby x (List.mem_of_mem_drop (List.mem_of_mem_take hx)), fun h0 => ?_⟩
  obtain ⟨b', off', e, hlt, hcell⟩ := h.cells (by omega)
  injection e with e
  injection e with e1 e2
  subst e1 e2
  refine ⟨b, off + f, rfl, hlt, fun i hi => ?_⟩
  rw [seg_length hf (by omega)] at hi
  rw [Nat.add_assoc, hcell (f + i) (by omega)]
  simp [seg]
theorem seg_zero (L : List Int) (k : Nat) : seg L 0 k = L.take k := by simp [seg]
theorem seg_all {L : List Int} {len : Nat} (hL : L.length = len) (f : Nat) : seg L f len = L.drop f := by
  unfold seg; rw [List.take_of_length_le (by rw [List.length_drop]; omega)]

theorem index_at (a : Option Addr) (len cap : Nat) (L : List Int) (f : Nat) (fi : Int) (w : World) (h : Bys w a len cap L) (hf : f ≤ len) (hm : len ≤ 1048576) (e1 : fi = f) :
    Calls Try.prog 29 #[.slice a len cap, .int .u8 46, .int .i64 fi] w fun e w' => DotAt L f e ∧ w' = w := by
  subst e1; exact index_any a len cap L f w h hf hm

set_option maxHeartbeats 4000000 in
theorem split_any (a : Option Addr) (len cap : Nat) (L : List Int) (w : World) (h : Bys w a len cap L) (hm : len ≤ 1048576) :
    Calls Try.prog 17 #[.slice a len cap] w fun e w' => SplitEnd L w e ∧ w' = w := by
  have HL := hide h.hlen
  have HB := hide h
  have hcap := h.hcap
  clear h
  go_enter Try.func17, Try.ntmps17
  go_wp2_with fail
  refine (index_at a len cap L 0 _ _ (unhide HB) (by omega) hm (by omega)).mono ?_
  rintro e w1 ⟨⟨rfl, hno⟩ | ⟨k, rfl, hk⟩, rfl⟩
  · have HN := hide hno
    clear hno
    go_wp2
    exact bodyPost_ret (v := .tuple #[.slice none 0 0, .slice none 0 0, .slice none 0 0, .bool false]) (by simp [results, Try.results17, go_sem]) rfl ⟨Or.inr ⟨sno1 (unhide HN), rfl⟩, rfl⟩
  have HK := hide hk
  have hkl : k < len := by rw [← unhide HL]; exact hk.2.1.1
  clear hk
  obtain ⟨b, off, rfl, hb, hc⟩ := (unhide HB).cells (by omega)
  have HC := hide hc
  clear hc
  go_wp2_with fail
  refine (index_at _ len cap L (k + 1) _ _ (unhide HB) (by omega) hm (by omega)).mono ?_
  rintro e w1 ⟨⟨rfl, hno⟩ | ⟨m, rfl, hk⟩, rfl⟩
  · have HN := hide hno
    clear hno
    go_wp2
    exact bodyPost_ret (v := .tuple #[.slice none 0 0, .slice none 0 0, .slice none 0 0, .bool false]) (by simp [results, Try.results17, go_sem]) rfl ⟨Or.inr ⟨sno2 (unhide HK) (unhide HN), rfl⟩, rfl⟩
  have HM := hide hk
  have hml : m < len := by rw [← unhide HL]; exact hk.2.1.1
  have hkm : k + 1 ≤ m := hk.1
  clear hk
  have HA : Hid (Bys w1 (some ⟨b, off, none⟩) k cap (L.take k)) := hide (by have := (unhide HB).piece 0 k cap (by omega) (by omega) (by omega); rwa [seg_zero] at this)
  have HBB := hide ((unhide HB).piece (k + 1) m (cap - (k + 1)) hkm (by omega) (by omega))
  have HA : Hid (Bys w1 (some ⟨b, off, none⟩) k cap (L.take k)) := hide (by have := (unhide HB).piece 0 k cap (by omega) (by omega) (by omega); rwa [seg_zero] at this)
  have HBB := hide ((unhide HB).piece (k + 1) m (cap - (k + 1)) hkm (by omega) (by omega))
  have HA : Hid (Bys w1 (some ⟨b, off, none⟩) k cap (L.take k)) := hide (by have := (unhide HB).piece 0 k cap (by omega) (by omega) (by omega); rwa [seg_zero] at this)
  have HBB := hide ((unhide HB).piece (k + 1) m (cap - (k + 1)) hkm (by omega) (by omega))
  by_cases hc : cap = m + 1
  · have HNS : Hid (¬ Shaped L) := hide (sno5 (unhide HK) (unhide HM) (by rw [unhide HL]; omega))
    clear HBB
    subst hc
    by_cases a0 : k < 1
    · go_wp2
      exact bodyPost_ret (v := .tuple #[.slice none 0 0, .slice none 0 0, .slice none 0 0, .bool false]) (by simp [results, Try.results17, go_sem]) rfl ⟨Or.inr ⟨unhide HNS, rfl⟩, rfl⟩
    by_cases a1 : 18 < k
    · go_wp2
      exact bodyPost_ret (v := .tuple #[.slice none 0 0, .slice none 0 0, .slice none 0 0, .bool false]) (by simp [results, Try.results17, go_sem]) rfl ⟨Or.inr ⟨unhide HNS, rfl⟩, rfl⟩
    go_wp2_with fail
    refine (allDigits_any _ k _ (L.take k) _ (unhide HA) (by omega)).mono ?_
    rintro e w1 ⟨rfl, rfl⟩
    cases ea : allD (L.take k) with
    | false =>
      have EA := hide ea
      clear ea
      go_wp2
      exact bodyPost_ret (v := .tuple #[.slice none 0 0, .slice none 0 0, .slice none 0 0, .bool false]) (by simp [results, Try.results17, go_sem]) rfl ⟨Or.inr ⟨unhide HNS, rfl⟩, rfl⟩
    | true =>
    have EA := hide ea
    clear ea
    by_cases b0 : m - (k + 1) < 1
    · go_wp2
      exact bodyPost_ret (v := .tuple #[.slice none 0 0, .slice none 0 0, .slice none 0 0, .bool false]) (by simp [results, Try.results17, go_sem]) rfl ⟨Or.inr ⟨unhide HNS, rfl⟩, rfl⟩
    by_cases b1 : 19 < m - (k + 1)
    · go_wp2
      exact bodyPost_ret (v := .tuple #[.slice none 0 0, .slice none 0 0, .slice none 0 0, .bool false]) (by simp [results, Try.results17, go_sem]) rfl ⟨Or.inr ⟨unhide HNS, rfl⟩, rfl⟩
    go_wp2_with fail
    refine (allDigits_any _ (m - (k + 1)) _ (seg L (k + 1) m) _ ((unhide HB).piece (k + 1) m _ hkm (by omega) (by omega)) (by omega)).mono ?_
    rintro e w1 ⟨rfl, rfl⟩
    cases eb : allD (seg L (k + 1) m) with
    | false =>
      have EB := hide eb
      clear eb
      go_wp2
      exact bodyPost_ret (v := .tuple #[.slice none 0 0, .slice none 0 0, .slice none 0 0, .bool false]) (by simp [results, Try.results17, go_sem]) rfl ⟨Or.inr ⟨unhide HNS, rfl⟩, rfl⟩
    | true =>
    have EB := hide eb
    clear eb
    go_wp2
    exact bodyPost_ret (v := .tuple #[.slice none 0 0, .slice none 0 0, .slice none 0 0, .bool false]) (by simp [results, Try.results17, go_sem]) rfl ⟨Or.inr ⟨unhide HNS, rfl⟩, rfl⟩
  by_cases a0 : k < 1
  · go_wp2
    exact bodyPost_ret (v := .tuple #[.slice none 0 0, .slice none 0 0, .slice none 0 0, .bool false]) (by simp [results, Try.results17, go_sem]) rfl ⟨Or.inr ⟨sno3 (unhide HK) (Or.inl a0), rfl⟩, rfl⟩
  by_cases a1 : 18 < k
  · go_wp2
    exact bodyPost_ret (v := .tuple #[.slice none 0 0, .slice none 0 0, .slice none 0 0, .bool false]) (by simp [results, Try.results17, go_sem]) rfl ⟨Or.inr ⟨sno3 (unhide HK) (Or.inr (Or.inl a1)), rfl⟩, rfl⟩
  go_wp2_with fail
  refine (allDigits_any _ k cap (L.take k) _ (unhide HA) (by omega)).mono ?_
  rintro e w1 ⟨rfl, rfl⟩
  cases ea : allD (L.take k) with
  | false =>
    have EA := hide ea
    clear ea
    go_wp2
    exact bodyPost_ret (v := .tuple #[.slice none 0 0, .slice none 0 0, .slice none 0 0, .bool false]) (by simp [results, Try.results17, go_sem]) rfl ⟨Or.inr ⟨sno3 (unhide HK) (Or.inr (Or.inr (fun h => by have e := unhide EA; rw [allD_iff.2 h] at e; cases e))), rfl⟩, rfl⟩
  | true =>
  have EA := hide ea
  clear ea
  by_cases b0 : m - (k + 1) < 1
  · go_wp2
    exact bodyPost_ret (v := .tuple #[.slice none 0 0, .slice none 0 0, .slice none 0 0, .bool false]) (by simp [results, Try.results17, go_sem]) rfl ⟨Or.inr ⟨sno4 (unhide HK) (unhide HM) (Or.inl b0), rfl⟩, rfl⟩
  by_cases b1 : 19 < m - (k + 1)
  · go_wp2
    exact bodyPost_ret (v := .tuple #[.slice none 0 0, .slice none 0 0, .slice none 0 0, .bool false]) (by simp [results, Try.results17, go_sem]) rfl ⟨Or.inr ⟨sno4 (unhide HK) (unhide HM) (Or.inr (Or.inl b1)), rfl⟩, rfl⟩
  go_wp2_with fail
  refine (allDigits_any _ (m - (k + 1)) (cap - (k + 1)) (seg L (k + 1) m) _ (unhide HBB) (by omega)).mono ?_
  rintro e w1 ⟨rfl, rfl⟩
  cases eb : allD (seg L (k + 1) m) with
  | false =>
    have EB := hide eb
    clear eb
    go_wp2
    exact bodyPost_ret (v := .tuple #[.slice none 0 0, .slice none 0 0, .slice none 0 0, .bool false]) (by simp [results, Try.results17, go_sem]) rfl ⟨Or.inr ⟨sno4 (unhide HK) (unhide HM) (Or.inr (Or.inr (fun h => by have e := unhide EB; rw [allD_iff.2 h] at e; cases e))), rfl⟩, rfl⟩
  | true =>
  have EB := hide eb
  clear eb
  by_cases c0 : len - (m + 1) < 2
  · go_wp2
    exact bodyPost_ret (v := .tuple #[.slice none 0 0, .slice none 0 0, .slice none 0 0, .bool false]) (by simp [results, Try.results17, go_sem]) rfl ⟨Or.inr ⟨sno5 (unhide HK) (unhide HM) (by rw [unhide HL]; exact c0), rfl⟩, rfl⟩
  obtain ⟨x, hx, hcx⟩ := cell_at (unhide HL) (unhide HC) (m + 1) (by omega)
  obtain ⟨t, ht, hct⟩ := cell_at (unhide HL) (unhide HC) (m + 2) (by omega)
  have hct' := hct
  rw [show off + (m + 2) = off + (m + 1) + 1 by omega] at hct'
  by_cases h6 : x = 110
  case neg =>
    have H6 := hide h6
    have e6 : (x != 110) = true := by simp [h6]
    clear h6
    go_wp2
    exact bodyPost_ret (v := .tuple #[.slice none 0 0, .slice none 0 0, .slice none 0 0, .bool false]) (by simp [results, Try.results17, go_sem]) rfl ⟨Or.inr ⟨sno6 (unhide HK) (unhide HM) (unhide hx) (unhide H6), rfl⟩, rfl⟩
  have H6 := hide h6
  have e6 : (x != 110) = false := by simp [h6]
  clear h6
  by_cases d0 : 18 < len - (m + 2)
  · go_wp2
    exact bodyPost_ret (v := .tuple #[.slice none 0 0, .slice none 0 0, .slice none 0 0, .bool false]) (by simp [results, Try.results17, go_sem]) rfl ⟨Or.inr ⟨sno7 (unhide HK) (unhide HM) (Or.inl (by rw [unhide HL]; exact d0)), rfl⟩, rfl⟩
  have HN : Hid (Bys w1 (some ⟨b, off + (m + 1) + 1, none⟩) (len - (m + 1) - 1) (cap - (m + 1) - 1) (L.drop (m + 2))) := hide (by
    have := (unhide HB).piece (m + 2) len (cap - (m + 1) - 1) (by omega) (Nat.le_refl _) (by omega)
    rw [seg_all (unhide HL)] at this
    rwa [show off + (m + 2) = off + (m + 1) + 1 by omega, show len - (m + 2) = len - (m + 1) - 1 by omega] at this)
  go_wp2_with fail
  refine (allDigits_any _ (len - (m + 1) - 1) (cap - (m + 1) - 1) (L.drop (m + 2)) _ (unhide HN) (by omega)).mono ?_
  rintro e w1 ⟨rfl, rfl⟩
  cases en : allD (L.drop (m + 2)) with
  | false =>
    have EN := hide en
    clear en
    go_wp2
    exact bodyPost_ret (v := .tuple #[.slice none 0 0, .slice none 0 0, .slice none 0 0, .bool false]) (by simp [results, Try.results17, go_sem]) rfl ⟨Or.inr ⟨sno7 (unhide HK) (unhide HM) (Or.inr (fun h => by have e := unhide EN; rw [allD_iff.2 h] at e; cases e)), rfl⟩, rfl⟩
  | true =>
  have EN := hide en
  clear en
  by_cases h8 : t = 48
  · have H8 := hide h8
    have e8 : (t == 48) = true := by simp [h8]
    clear h8
    go_wp2
    exact bodyPost_ret (v := .tuple #[.slice none 0 0, .slice none 0 0, .slice none 0 0, .bool false]) (by simp [results, Try.results17, go_sem]) rfl ⟨Or.inr ⟨sno8 (unhide HK) (unhide HM) (unhide ht) (unhide H8), rfl⟩, rfl⟩
  have H8 := hide h8
  have e8 : (t == 48) = false := by simp [h8]
  clear h8
  have HS := hide (syes (unhide HK) (unhide HM) (by omega) (by omega) (allD_iff.1 (unhide EA)) (by omega) (by omega) (allD_iff.1 (unhide EB)) (by rw [unhide HL]; omega) (unhide hx) (unhide H6) (by rw [unhide HL]; omega) (allD_iff.1 (unhide EN)) (unhide ht) (unhide H8))
  go_wp2
  exact bodyPost_ret (v := .tuple #[.slice (some ⟨b, off, none⟩) k cap, .slice (some ⟨b, off + (k + 1), none⟩) (m - (k + 1)) (cap - (k + 1)), .slice (some ⟨b, off + (m + 1) + 1, none⟩) (len - (m + 1) - 1) (cap - (m + 1) - 1), .bool true]) (by simp [results, Try.results17, go_sem]) rfl
    ⟨Or.inl ⟨_, _, _, _, _, _, _, _, _, _, _, _, unhide HS, rfl, unhide HA, unhide HBB, unhide HN⟩, rfl⟩

end Go.Proofs.Qxb6600904a
