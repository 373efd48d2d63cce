/-
  THE WALK OF FnSetsBelowIsContainment: the Go text returns true, and writes nothing that was there.
-/
import Derived.Test.Qxb6604169aWalksB
import Derived.Test.Qxb6604169aWalksC
namespace Go.Proofs.Qxb6604169a
open Go.RowKit

theorem cont_yes {A B : List ByteArray} (h : ∀ i (hi : i < A.length), hasB B A[i] = true) : subB A B = true := by
  exact (subB_yes (fun i hi => hasB_iff.1 (h i hi))).symm
theorem cont_no {A B : List ByteArray} {x : ByteArray} {k : Nat} {g : k < A.length} (hx : x = A[k]) (h : hasB B x = false) : (!subB A B) = true := by
  rw [← subB_no (x := x) (by rw [hx]; exact List.getElem_mem g) (fun h' => by rw [hasB_iff.2 h'] at h; cases h)]; rfl
theorem cont_step {A B : List ByteArray} {x : ByteArray} {k : Nat} {g : k < A.length} (hx : x = A[k]) (h : hasB B x = true) (hr : ∀ i (hi : i < A.length), i < k → hasB B A[i] = true) : ∀ i (hi : i < A.length), i < k + 1 → hasB B A[i] = true := by
  intro i hi hik
  by_cases e : i = k
  · subst e; rw [← hx]; exact h
  · exact hr i hi (by omega)

set_option maxHeartbeats 2000000 in
theorem law5 (a b : Option Addr) (la ca lb cb : Nat) (A B : List ByteArray) (w : World) (hA : Strs w a la ca A) (hB : Strs w b lb cb B) (ma : la ≤ 9223372036854775807) (mb : lb ≤ 9223372036854775807) :
    Calls Try.prog 5 #[.slice a la ca, .slice b lb cb] w fun e w' => e = .returned (.bool true) ∧ Below w.heap.size w w' := by
  go_enter Try.func5, Try.ntmps5
  go_wp2_with fail
  refine (bytes18 a b la ca lb cb A B _ hA hB ma mb).mono ?_
  rintro e w ⟨⟨r, rfl⟩, rfl⟩
  cases r with
  | false =>
    go_wp2
    go_ret
    exact ⟨rfl, Below.refl _ _⟩
  | true =>
  go_wp2_with fail
  refine (size_any a la ca A _ hA ma).mono ?_
  rintro e w ⟨n1, rfl, p1, p2, p3, rfl⟩
  go_wp2_with fail
  refine (size_any b lb cb B _ hB mb).mono ?_
  rintro e w ⟨n2, rfl, q1, q2, q3, rfl⟩
  by_cases hbig : 1048576 < n1 + n2
  · go_wp2
    go_ret
    exact ⟨rfl, Below.refl _ _⟩
  have la' : la ≤ 65536 := by omega
  have lb' : lb ≤ 65536 := by omega
  go_wp2_with fail
  refine (asc_any a la ca A _ hA (by omega)).mono ?_
  rintro e w1 ⟨rfl, d1⟩
  have b1 := d1.below
  cases sA : ascB A with
  | false =>
    go_wp2
    go_ret
    exact ⟨rfl, b1⟩
  | true =>
  have SA : Hid (Plain.Asc sless A) := ascB_true sA
  clear sA d1
  go_wp2_with fail
  refine (asc_any b lb cb B _ (hB.below b1) (by omega)).mono ?_
  rintro e w2 ⟨rfl, d2⟩
  have b2 : Below w.heap.size w w2 := b1.trans (d2.below.mono b1.size)
  cases sB : ascB B with
  | false =>
    go_wp2
    go_ret
    exact ⟨rfl, b2⟩
  | true =>
  have SB : Hid (Plain.Asc sless B) := ascB_true sB
  clear sB d2
  go_wp2_with fail
  refine (clone_any a la ca A _ (hA.below b2) (by omega)).mono ?_
  rintro e w3 ⟨a', ca', rfl, hA3, d3⟩
  have b3 : Below w.heap.size w w3 := b2.trans (d3.mono b2.size)
  go_wp2_with fail
  refine (clone_any b lb cb B _ (hB.below b3) (by omega)).mono ?_
  rintro e w4 ⟨b', cb', rfl, hB4, d4⟩
  have b4 : Below w.heap.size w w4 := b3.trans (d4.mono b3.size)
  have hA4 : Strs w4 a' la ca' A := hA3.below d4
  clear hA hB hA3 b1 b2 b3 d3 d4
  have HA : Hid (Strs w4 a' la ca' A) := hA4
  clear hA4
  go_wp2
  go_loop [5, 6] (fun s i => ∃ k : Nat, k ≤ la ∧ i = .int .i64 k ∧ s = .bool true ∧ Hid (∀ i (hi : i < A.length), i < k → hasB B A[i] = true)) (fun _ i => la - (intOf i).toNat)
  case atStart => exact ⟨0, by omega, rfl, rfl, fun i hi h => by omega⟩
  case round =>
    obtain ⟨k, hk, rfl, rfl, hrel⟩ := hrel
    by_cases hlt : k < la
    · obtain ⟨bb, off, rfl, hb, hc⟩ := HA.out.cells (by omega)
      obtain ⟨x, hx, hcx⟩ := cell_at HA.out.hlen hc k hlt
      clear hc
      go_wp2_with fail
      refine (has_any b' lb cb' B x _ hB4 SB.out (by omega)).mono ?_
      rintro e w5 ⟨rfl, rfl⟩
      cases hh : hasB B x with
      | true =>
        have HH : Hid (hasB B x = true) := hh
        clear hh
        go_wp2
        go_round
        case rel => exact ⟨k + 1, by omega, by go_num, rfl, cont_step hx.out HH.out hrel.out⟩
        case measure => simp [intOf]; omega
      | false =>
        have HH : Hid (hasB B x = false) := hh
        clear hh
        go_wp2_with fail
        refine (below_any _ b' la ca' lb cb' A B _ HA.out hB4 SA.out SB.out (by omega) (by omega)).mono ?_
        rintro e w6 ⟨rfl, d6⟩
        go_wp2
        go_ret
        exact ⟨ret_bool (cont_no hx.out HH.out), b4.trans (d6.mono b4.size)⟩
    · go_wp2_with fail
      refine (below_any a' b' la ca' lb cb' A B _ HA.out hB4 SA.out SB.out (by omega) (by omega)).mono ?_
      rintro e w6 ⟨rfl, d6⟩
      go_wp2
      go_ret
      exact ⟨ret_bool (cont_yes fun i hi => hrel.out i hi (by have := HA.out.hlen; omega)), b4.trans (d6.mono b4.size)⟩

end Go.Proofs.Qxb6604169a
