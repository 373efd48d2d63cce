/-
  zzItoaU: the decimal text of a number.
-/
import Derived.Test.Qxb6600904aRuns2
namespace Go.Proofs.Qxb6600904a
set_option linter.unusedVariables false
set_option linter.unusedSimpArgs false
open Go.RowKit

/-- The buffer, filled from place k on. -/
structure Buf (w : World) (B k : Nat) (D : List Int) : Prop where
  len : D.length + k = 20
  here : ∀ j, j < 20 → ∃ v, w.cell? ⟨B, j, none⟩ = some v
  free : ∀ j, w.frozen? ⟨B, j, none⟩ = false
  cells : ∀ j (h : j < D.length), w.cell? ⟨B, k + j, none⟩ = some (.int .u8 D[j])

theorem Buf.start (w : World) (z : Value) : Buf (w.alloc (.cells #[z, z, z, z, z, z, z, z, z, z, z, z, z, z, z, z, z, z, z, z] 48)) w.heap.size 20 [] := by
  refine ⟨rfl, fun j hj => ⟨z, ?_⟩, fun j => ?_, fun j h => absurd h (Nat.not_lt_zero _)⟩
  · have hz : ∀ i : Fin 20, (w.alloc (.cells #[z, z, z, z, z, z, z, z, z, z, z, z, z, z, z, z, z, z, z, z] 48)).cell? ⟨w.heap.size, i.1, none⟩ = some z := by
      intro i
      rcases i with ⟨i, hi⟩
      iterate 20 (rcases i with _ | i; · simp [go_sem])
      omega
    exact hz ⟨j, hj⟩
  · simp [go_sem]

theorem Buf.put {w : World} {B k : Nat} {D : List Int} (h : Buf w B (k + 1) D) (d : Int) : Buf (w.setCell ⟨B, k, none⟩ (.int .u8 d)) B k (d :: D) := by
  have hl := h.len
  refine ⟨by simp; omega, fun j hj => ?_, fun j => ?_, fun j hj => ?_⟩
  · obtain ⟨v, hv⟩ := h.here j hj
    by_cases e : j = k
    · subst e; exact ⟨_, World.cell?_setCell_same _ _ _ hv⟩
    · exact ⟨v, by rw [World.cell?_setCell_other _ _ _ _ (by intro e'; injection e' with _ e2; exact e e2.symm)]; exact hv⟩
  · have := h.free j
    simp [go_sem, this]
  · match j, hj with
    | 0, _ =>
      obtain ⟨v, hv⟩ := h.here k (by omega)
      exact World.cell?_setCell_same _ _ _ hv
    | j + 1, hj =>
      simp at hj
      rw [World.cell?_setCell_other _ _ _ _ (by intro e'; injection e' with _ e2; omega), show k + (j + 1) = k + 1 + j by omega, h.cells j hj]
      simp

/-- How far the digits have come. -/
def Sofar (u v k : Nat) (D : List Int) : Prop := (v = 0 → dec u = D) ∧ (0 < v → dec u = dec v ++ D) ∧ v * 10 ^ (20 - k) ≤ u
theorem Sofar.start {u : Nat} (h : 0 < u) : Sofar u u 20 [] := ⟨fun e => by omega, fun _ => by simp, by simp⟩
theorem Sofar.pos {u v k : Nat} {D : List Int} (h : Sofar u v k D) (hv : 0 < v) (hu : u < 18446744073709551616) : 0 < k := by
  rcases Nat.eq_zero_or_pos k with rfl | hk
  · have h3 := h.2.2
    have : (10 : Nat) ^ (20 - 0) = 100000000000000000000 := by decide
    rw [this] at h3
    omega
  · exact hk
theorem Sofar.step {u v k : Nat} {D : List Int} (h : Sofar u v (k + 1) D) (hk : k + 1 ≤ 20) (hv : 0 < v) : Sofar u (v / 10) k ((48 + ((v % 10 : Nat) : Int)) :: D) := by
  refine ⟨fun e => ?_, fun e => ?_, ?_⟩
  · rw [h.2.1 hv, dec_small (by omega), show v % 10 = v by omega]; rfl
  · rw [h.2.1 hv, dec_big (by omega), List.append_assoc]; rfl
  · refine Nat.le_trans ?_ h.2.2
    rw [show 20 - k = (20 - (k + 1)) + 1 by omega, Nat.pow_succ, Nat.mul_comm (10 ^ _) 10, ← Nat.mul_assoc]
    exact Nat.mul_le_mul_right _ (by omega)
theorem Sofar.le {u v k : Nat} {D : List Int} (h : Sofar u v k D) : v ≤ u := Nat.le_trans (Nat.le_mul_of_pos_right _ (Nat.pow_pos (by omega))) h.2.2

theorem arr48 : Try.prog.underlying 48 = some (.array (Try.prog.arrayLen 48) (Try.prog.elem 48)) := by kernel_rfl
theorem len48 : Try.prog.arrayLen 48 = 20 := by kernel_rfl
theorem el48 : Try.prog.elem 48 = 5 := by kernel_rfl
/-- 'buf[i:]'. -/
theorem slice_buf (w : World) (B k : Nat) (h : k < 20) : (Instr.sliceAt 48 (.pointer (some ⟨B, 0, none⟩)) (some (.int .i64 k)) none none).run Try.prog w = .ok (.slice (some ⟨B, k, none⟩) (20 - k) (20 - k)) w := by
  rw [run_sliceAt_array_l w 48 ⟨B, 0, none⟩ arr48 .i64 k (by omega) (by rw [len48]; omega), el48, len48]
  simp [go_sem, Addr.add, show ¬ 20 = k by omega]
  exact fun e => e.symm
theorem dec_ne (u : Nat) : dec u ≠ [] := by
  by_cases h : u < 10
  · rw [dec_small h]; simp
  · rw [dec_big h]; simp

set_option maxHeartbeats 1000000 in
theorem itoa_pos (u : Nat) (w : World) (h0 : 0 < u) (hu : u < 18446744073709551616) :
    Calls Try.prog 19 #[.int .u64 u] w fun e w' => e = .returned (.string (strOfNums (dec u))) ∧ Below w.heap.size w w' := by
  have e0 : ((u : Int) == 0) = false := by rw [beq_eq_false_iff_ne]; omega
  go_enter Try.func19, Try.ntmps19
  go_wp2
  go_loopw [0, 4] (fun x i wr => ∃ (v k : Nat) (D : List Int), x = .int .u64 v ∧ i = .int .i64 k ∧ Hid (Buf wr w.heap.size k D) ∧ Hid (Sofar u v k D) ∧ Below w.heap.size w wr) (fun x i _ => (intOf x).toNat)
  case atStart => exact ⟨u, 20, [], rfl, rfl, Buf.start _ _, Sofar.start h0, (Below.refl _ _).alloc (Nat.le_refl _) _⟩
  case round =>
    obtain ⟨v, k', D, rfl, rfl, hB, hS, hbel⟩ := hrel
    have hvu := (unhide hS).le
    by_cases hv : 0 < v
    · have hk := (unhide hS).pos hv hu
      obtain ⟨k, rfl⟩ : ∃ k, k' = k + 1 := ⟨k' - 1, by omega⟩
      have hk20 : k + 1 ≤ 20 := by have := (unhide hB).len; omega
      obtain ⟨c, hc⟩ := (unhide hB).here k (by omega)
      have hf := (unhide hB).free k
      go_wp2
      go_roundw
      case rel => exact ⟨v / 10, k, _, by simp, rfl, hide (by simpa using (unhide hB).put (48 + ((v % 10 : Nat) : Int))), (unhide hS).step hk20 hv, hbel.setCell (Nat.le_refl _) _⟩
      case measure => simp [intOf]; omega
    · have HD := (unhide hS).1 (by omega)
      have HD' := hide HD
      have hl := (unhide hB).len
      have hne := dec_ne u
      rw [HD] at hne
      have hk : k' < 20 := by
        rcases D with _ | ⟨d, D⟩
        · exact absurd rfl hne
        · simp at hl; omega
      have kc : (convert 22 9 (.slice (some ⟨w.heap.size, k', none⟩) (20 - k') (20 - k'))).run Try.prog wr = .ok (.string (strOfNums D)) wr := by
        refine run_convert_bytes_arg (P := Try.prog) wr 22 5 Try.underlying22 Try.underlying5 w.heap.size k' (20 - k') (20 - k') D (by omega) ?_ 9 Try.underlying9
        intro i hi
        rw [(unhide hB).cells i (by omega)]
        simp [List.getD, show i < D.length by omega]
      have ks := slice_buf wr w.heap.size k' hk
      clear HD hl hne
      go_wp2
      go_ret
      exact ⟨ret_str (unhide HD').symm, hbel⟩

theorem itoa_any (u : Nat) (w : World) (hu : u < 18446744073709551616) :
    Calls Try.prog 19 #[.int .u64 u] w fun e w' => e = .returned (.string (strOfNums (dec u))) ∧ Below w.heap.size w w' := by
  by_cases h0 : 0 < u
  · exact itoa_pos u w h0 hu
  · obtain rfl : u = 0 := by omega
    go_enter Try.func19, Try.ntmps19
    go_wp2
    go_ret
    exact ⟨by rw [dec_small (by omega)]; rfl, Below.refl _ _⟩

end Go.Proofs.Qxb6600904a
