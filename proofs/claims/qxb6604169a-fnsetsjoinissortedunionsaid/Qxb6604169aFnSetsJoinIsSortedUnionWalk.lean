/-
  THE WALK OF FnSetsJoinIsSortedUnion: the Go text returns true, and writes nothing that was there.
-/
import Derived.Test.Qxb6604169aDuo
namespace Go.Proofs.Qxb6604169a
open Go.RowKit

set_option maxHeartbeats 4000000 in
theorem law3 (a b : Option Addr) (la ca lb cb : Nat) (A B : List ByteArray) (w : World) (hA : Strs w a la ca A) (hB : Strs w b lb cb B) (ma : la ≤ 9223372036854775807) (mb : lb ≤ 9223372036854775807) :
    Calls Try.prog 3 #[.slice a la ca, .slice b lb cb] w fun e w' => e = .returned (.bool true) ∧ Below w.heap.size w w' := by
  go_enter Try.func3, Try.ntmps3
  go_wp2_with fail
  refine (bytes10 a b la ca lb cb A B _ hA hB ma mb).mono ?_
  rintro e w ⟨⟨r, rfl⟩, rfl⟩
  cases r with
  | false =>
    go_wp2
    go_ret
    exact ⟨rfl, Below.refl _ _⟩
  | true =>
  go_wp2_with fail
  refine (size_any a la ca A _ hA ma).mono ?_
  rintro e w ⟨n1, rfl, p1, p2, p3, rfl⟩
  go_wp2_with fail
  refine (size_any b lb cb B _ hB mb).mono ?_
  rintro e w ⟨n2, rfl, q1, q2, q3, rfl⟩
  by_cases hbig : 1048576 < n1 + n2
  · go_wp2
    go_ret
    exact ⟨rfl, Below.refl _ _⟩
  have la' : la ≤ 65536 := by omega
  have lb' : lb ≤ 65536 := by omega
  go_wp2_with fail
  refine (asc_any a la ca A _ hA (by omega)).mono ?_
  rintro e w1 ⟨rfl, d1⟩
  have b1 := d1.below
  cases sA : ascB A with
  | false =>
    go_wp2
    go_ret
    exact ⟨rfl, b1⟩
  | true =>
  have SA : Hid (Plain.Asc sless A) := ascB_true sA
  clear sA d1
  go_wp2_with fail
  refine (asc_any b lb cb B _ (hB.below b1) (by omega)).mono ?_
  rintro e w2 ⟨rfl, d2⟩
  have b2 : Below w.heap.size w w2 := b1.trans (d2.below.mono b1.size)
  cases sB : ascB B with
  | false =>
    go_wp2
    go_ret
    exact ⟨rfl, b2⟩
  | true =>
  have SB : Hid (Plain.Asc sless B) := ascB_true sB
  clear sB d2
  go_wp2_with fail
  refine (clone_any a la ca A _ (hA.below b2) (by omega)).mono ?_
  rintro e w3 ⟨a', ca', rfl, hA3, d3⟩
  have b3 : Below w.heap.size w w3 := b2.trans (d3.mono b2.size)
  go_wp2_with fail
  refine (clone_any b lb cb B _ (hB.below b3) (by omega)).mono ?_
  rintro e w4 ⟨b', cb', rfl, hB4, d4⟩
  have b4 : Below w.heap.size w w4 := b3.trans (d4.mono b3.size)
  have hA4 : Strs w4 a' la ca' A := hA3.below d4
  clear hA hB hA3 b1 b2 b3 d3 d4
  go_wp2_with fail
  refine (join_any a' b' la ca' lb cb' A B _ hA4 hB4 (by omega) (by omega)).mono ?_
  rintro e w5 ⟨u, lu, cu, rfl, hU5, d5⟩
  have bu : lu ≤ la + lb := by have := union_len A B; have := hU5.hlen; have := hA4.hlen; have := hB4.hlen; omega
  have b5 : Below w.heap.size w w5 := b4.trans (d5.mono b4.size)
  have hA5 := hA4.below d5
  have hB5 := hB4.below d5
  clear hA4 hB4 d5 b4
  have SU : Hid (Plain.Asc sless (unionL A B)) := union_asc SA.out SB.out
  have sU : ascB (unionL A B) = true := ascB_of_asc SU.out
  go_wp2_with fail
  refine (asc_any u lu cu (unionL A B) _ hU5 (by omega)).mono ?_
  rintro e w6 ⟨rfl, d6⟩
  have b6 : Below w.heap.size w w6 := b5.trans (d6.below.mono b5.size)
  have HA : Hid (Strs w6 a' la ca' A) := hA5.below d6.below
  have HB : Hid (Strs w6 b' lb cb' B) := hB5.below d6.below
  have HU : Hid (Strs w6 u lu cu (unionL A B)) := hU5.below d6.below
  clear hA5 hB5 hU5 d6 b5
  go_wp2
  clear sU
  go_loop [6] (fun i => ∃ k : Nat, k ≤ la ∧ i = .int .i64 k) (fun i => la - (intOf i).toNat)
  case atStart => exact ⟨0, by omega, rfl⟩
  case round =>
    obtain ⟨k, hk, rfl⟩ := hrel
    by_cases hlt : k < la
    · obtain ⟨bb, off, rfl, hb, hc⟩ := HA.out.cells (by omega)
      obtain ⟨x, hx, hcx⟩ := cell_at HA.out.hlen hc k hlt
      have hh : hasB (unionL A B) x = true := u_has_left (mem_of hx.out)
      clear hc
      go_wp2_with fail
      refine (has_any u lu cu (unionL A B) x _ HU.out SU.out (by omega)).mono ?_
      rintro e w7 ⟨rfl, rfl⟩
      go_wp2
      go_round
      case rel => exact ⟨k + 1, by omega, by go_num⟩
      case measure => simp [intOf]; omega
    · go_wp2
      go_loop [7] (fun i => ∃ k : Nat, k ≤ lb ∧ i = .int .i64 k) (fun i => lb - (intOf i).toNat)
      case atStart => exact ⟨0, by omega, rfl⟩
      case round =>
        obtain ⟨k2, hk2, rfl⟩ := hrel
        by_cases hlt2 : k2 < lb
        · obtain ⟨bb, off, rfl, hb, hc⟩ := HB.out.cells (by omega)
          obtain ⟨x, hx, hcx⟩ := cell_at HB.out.hlen hc k2 hlt2
          have hh : hasB (unionL A B) x = true := u_has_right (mem_of hx.out)
          clear hc
          go_wp2_with fail
          refine (has_any u lu cu (unionL A B) x _ HU.out SU.out (by omega)).mono ?_
          rintro e w7 ⟨rfl, rfl⟩
          go_wp2
          go_round
          case rel => exact ⟨k2 + 1, by omega, by go_num⟩
          case measure => simp [intOf]; omega
        · go_wp2
          go_loop [8] (fun i => ∃ k : Nat, k ≤ lu ∧ i = .int .i64 k) (fun i => lu - (intOf i).toNat)
          case atStart => exact ⟨0, by omega, rfl⟩
          case round =>
            obtain ⟨k3, hk3, rfl⟩ := hrel
            by_cases hlt3 : k3 < lu
            · obtain ⟨bb, off, rfl, hb, hc⟩ := HU.out.cells (by omega)
              obtain ⟨x, hx, hcx⟩ := cell_at HU.out.hlen hc k3 hlt3
              clear hc
              go_wp2_with fail
              refine (has_any a' la ca' A x _ HA.out SA.out (by omega)).mono ?_
              rintro e w7 ⟨rfl, rfl⟩
              cases h1 : hasB A x with
              | true =>
                go_wp2
                go_round
                case rel => exact ⟨k3 + 1, by omega, by go_num⟩
                case measure => simp [intOf]; omega
              | false =>
                have h2 : hasB B x = true := u_has (mem_of hx.out) h1
                go_wp2_with fail
                refine (has_any b' lb cb' B x _ HB.out SB.out (by omega)).mono ?_
                rintro e w8 ⟨rfl, rfl⟩
                go_wp2
                go_round
                case rel => exact ⟨k3 + 1, by omega, by go_num⟩
                case measure => simp [intOf]; omega
            · go_wp2
              go_ret
              exact ⟨rfl, b6⟩

end Go.Proofs.Qxb6604169a
