/-
  THE WALKS OVER RUNS OF BYTES: readDigits, zzIndexByte, zzAllDigits, zzStripZeros.
-/
import Derived.Test.Qxb6600904aDigits
import Derived.Test.Qxb6600904aField
namespace Go.Proofs.Qxb6600904a
set_option linter.unusedVariables false
set_option linter.unusedSimpArgs false
open Go.RowKit

/-! ### zzIndexByte, asked for a dot -/
/-- Its answer. -/
def DotAt (L : List Int) (f : Nat) (e : Ending) : Prop := (e = .returned (.int .i64 (-1)) ∧ No46 (L.drop f)) ∨ ∃ k : Nat, e = .returned (.int .i64 k) ∧ Dot L f k
theorem dot_no {L : List Int} {f k len : Nat} (hL : L.length = len) (hk : ¬ k < len) (hf : f ≤ k) (h : No46 (seg L f k)) : No46 (L.drop f) := by
  rw [drop_seg hf (k := k), List.drop_eq_nil_of_le (by omega), List.append_nil]; exact h
theorem no46_step {L : List Int} {f k : Nat} {x : Int} (hf : f ≤ k) (hx : At L k x) (hn : x ≠ 46) (h : No46 (seg L f k)) : No46 (seg L f (k + 1)) := by
  obtain ⟨g, hx⟩ := hx
  rw [seg_step hf g]
  intro y hy
  rcases List.mem_append.1 hy with h1 | h1
  · exact h y h1
  · rw [List.mem_singleton.1 h1, ← hx]; exact hn

set_option maxHeartbeats 1000000 in
theorem index_any (a : Option Addr) (len cap : Nat) (L : List Int) (f : Nat) (w : World) (h : Bys w a len cap L) (hf : f ≤ len) (hm : len ≤ 1048576) :
    Calls Try.prog 29 #[.slice a len cap, .int .u8 46, .int .i64 f] w fun e w' => DotAt L f e ∧ w' = w := by
  have HL := hide h.hlen
  by_cases h0 : f < len
  · obtain ⟨b, off, rfl, hb, hc⟩ := h.cells (by omega)
    clear h
    go_enter Try.func29, Try.ntmps29
    go_wp2
    go_loop [7] (fun i => ∃ k : Nat, f ≤ k ∧ k ≤ len ∧ i = .int .i64 k ∧ Hid (No46 (seg L f k))) (fun i => len - (intOf i).toNat)
    case atStart => exact ⟨f, by omega, by omega, rfl, by rw [seg_self]; exact fun x h => by cases h⟩
    case round =>
      obtain ⟨k, hk1, hk, rfl, hrel⟩ := hrel
      by_cases hlt : k < len
      · obtain ⟨x, hx, hcx⟩ := cell_at (unhide HL) hc k hlt
        clear hc
        by_cases hxy : x = 46
        · have HX := hide hxy
          have hb : (x == 46) = true := by simp [hxy]
          clear hxy
          go_wp2
          go_ret
          exact ⟨Or.inr ⟨k, rfl, hk1, ⟨(unhide hx).1, (unhide hx).2.symm.trans (unhide HX)⟩, unhide hrel⟩, rfl⟩
        · have HX := hide hxy
          have hb : (x == 46) = false := by simp [hxy]
          clear hxy
          go_wp2
          go_round
          case rel => exact ⟨k + 1, by omega, by omega, by go_num, no46_step hk1 (unhide hx) (unhide HX) (unhide hrel)⟩
          case measure => simp [intOf]; omega
      · go_wp2
        go_ret
        exact ⟨Or.inl ⟨rfl, dot_no (unhide HL) hlt hk1 (unhide hrel)⟩, rfl⟩
  · clear h
    go_enter Try.func29, Try.ntmps29
    go_wp2
    refine wp_loop_rounds 1 ?_
    rw [rounds_succ]
    go_wp2
    go_ret
    exact ⟨Or.inl ⟨rfl, dot_no (unhide HL) h0 (Nat.le_refl _) (by rw [seg_self]; exact fun x h => by cases h)⟩, rfl⟩

/-! ### zzAllDigits -/
def allD (L : List Int) : Bool := L.all isD
theorem allD_iff {L : List Int} : allD L = true ↔ AllD L := List.all_eq_true
theorem allD_no {L : List Int} {k : Nat} {x : Int} (hx : At L k x) (h : isD x = false) : false = allD L := by
  cases e : allD L with
  | false => rfl
  | true =>
    obtain ⟨g, hx⟩ := hx
    have := allD_iff.1 e _ (List.getElem_mem g)
    rw [← hx, h] at this
    cases this
theorem allD_yes {L : List Int} {k len : Nat} (hL : L.length = len) (hk : ¬ k < len) (h : AllD (seg L 0 k)) : true = allD L := by
  refine (allD_iff.2 ?_).symm
  have := drop_seg (L := L) (f := 0) (k := k) (by omega)
  rw [List.drop_zero, List.drop_eq_nil_of_le (by omega), List.append_nil] at this
  rw [this]; exact h
theorem digs_step {L : List Int} {f k : Nat} {x : Int} (hf : f ≤ k) (hx : At L k x) (hd : isD x = true) (h : AllD (seg L f k)) : AllD (seg L f (k + 1)) := by
  obtain ⟨g, hx⟩ := hx
  rw [seg_step hf g, ← hx]
  exact h.snoc hd

set_option maxHeartbeats 1000000 in
theorem allDigits_any (a : Option Addr) (len cap : Nat) (L : List Int) (w : World) (h : Bys w a len cap L) (hm : len ≤ 1048576) :
    Calls Try.prog 26 #[.slice a len cap] w fun e w' => e = .returned (.bool (allD L)) ∧ w' = w := by
  have HL := hide h.hlen
  by_cases h0 : 0 < len
  · obtain ⟨b, off, rfl, hb, hc⟩ := h.cells (by omega)
    clear h
    go_enter Try.func26, Try.ntmps26
    go_wp2
    go_loop [3] (fun i => ∃ k : Nat, k ≤ len ∧ i = .int .i64 k ∧ Hid (AllD (seg L 0 k))) (fun i => len - (intOf i).toNat)
    case atStart => exact ⟨0, by omega, rfl, by rw [seg_self]; exact AllD.nil⟩
    case round =>
      obtain ⟨k, hk, rfl, hrel⟩ := hrel
      by_cases hlt : k < len
      · obtain ⟨x, hx, hcx⟩ := cell_at (unhide HL) hc k hlt
        clear hc
        by_cases h1 : x < 48
        · go_wp2
          go_ret
          exact ⟨ret_bool (allD_no (unhide hx) (isD_no.2 (Or.inl h1))), rfl⟩
        by_cases h2 : 57 < x
        · go_wp2
          go_ret
          exact ⟨ret_bool (allD_no (unhide hx) (isD_no.2 (Or.inr h2))), rfl⟩
        · go_wp2
          go_round
          case rel => exact ⟨k + 1, by omega, by go_num, digs_step (Nat.zero_le _) (unhide hx) (isD_iff.2 ⟨by omega, by omega⟩) (unhide hrel)⟩
          case measure => simp [intOf]; omega
      · go_wp2
        go_ret
        exact ⟨ret_bool (allD_yes (unhide HL) hlt (unhide hrel)), rfl⟩
  · clear h
    go_enter Try.func26, Try.ntmps26
    go_wp2
    refine wp_loop_rounds 1 ?_
    rw [rounds_succ]
    go_wp2
    go_ret
    exact ⟨ret_bool (allD_yes (k := 0) (unhide HL) h0 (by rw [seg_self]; exact AllD.nil)), rfl⟩

end Go.Proofs.Qxb6600904a
