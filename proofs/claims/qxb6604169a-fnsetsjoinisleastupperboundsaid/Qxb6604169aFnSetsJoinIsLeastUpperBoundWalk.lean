/-
  THE WALK OF FnSetsJoinIsLeastUpperBound: the Go text returns true, and writes nothing that was there.
-/
import Derived.Test.Qxb6604169aDuo
namespace Go.Proofs.Qxb6604169a
open Go.RowKit

set_option maxHeartbeats 4000000 in
theorem law6 (a b c : Option Addr) (la ca lb cb lc cc : Nat) (A B C : List ByteArray) (w : World) (hA : Strs w a la ca A) (hB : Strs w b lb cb B) (hC : Strs w c lc cc C) (ma : la ≤ 9223372036854775807) (mb : lb ≤ 9223372036854775807) (mc : lc ≤ 9223372036854775807) :
    Calls Try.prog 6 #[.slice a la ca, .slice b lb cb, .slice c lc cc] w fun e w' => e = .returned (.bool true) ∧ Below w.heap.size w w' := by
  go_enter Try.func6, Try.ntmps6
  go_wp2_with fail
  refine (bytes20 a b c la ca lb cb lc cc A B C _ hA hB hC ma mb mc).mono ?_
  rintro e w ⟨⟨r, rfl⟩, rfl⟩
  cases r with
  | false =>
    go_wp2
    go_ret
    exact ⟨rfl, Below.refl _ _⟩
  | true =>
  go_wp2_with fail
  refine (size_any a la ca A _ hA ma).mono ?_
  rintro e w ⟨n1, rfl, p1, p2, p3, rfl⟩
  go_wp2_with fail
  refine (size_any b lb cb B _ hB mb).mono ?_
  rintro e w ⟨n2, rfl, q1, q2, q3, rfl⟩
  go_wp2_with fail
  refine (size_any c lc cc C _ hC mc).mono ?_
  rintro e w ⟨n3, rfl, r1, r2, r3, rfl⟩
  by_cases hbig : 1048576 < n1 + n2 + n3
  · go_wp2
    go_ret
    exact ⟨rfl, Below.refl _ _⟩
  have la' : la ≤ 65536 := by omega
  have lb' : lb ≤ 65536 := by omega
  have lc' : lc ≤ 65536 := by omega
  have T : Trio w w a b c la ca lb cb lc cc A B C := ⟨Below.refl _ _, hA, hB, hC⟩
  clear hA hB hC
  go_wp2_with fail
  refine (asc_any a la ca A _ T.A (by omega)).mono ?_
  rintro e W ⟨rfl, d⟩
  replace T := T.step d.below
  clear d
  cases sA : ascB A with
  | false =>
    go_wp2
    go_ret
    exact ⟨rfl, T.bel⟩
  | true =>
  have SA : Hid (Plain.Asc sless A) := ascB_true sA
  clear sA
  go_wp2_with fail
  refine (asc_any b lb cb B _ T.B (by omega)).mono ?_
  rintro e W ⟨rfl, d⟩
  replace T := T.step d.below
  clear d
  cases sB : ascB B with
  | false =>
    go_wp2
    go_ret
    exact ⟨rfl, T.bel⟩
  | true =>
  have SB : Hid (Plain.Asc sless B) := ascB_true sB
  clear sB
  go_wp2_with fail
  refine (asc_any c lc cc C _ T.C (by omega)).mono ?_
  rintro e W ⟨rfl, d⟩
  replace T := T.step d.below
  clear d
  cases sC : ascB C with
  | false =>
    go_wp2
    go_ret
    exact ⟨rfl, T.bel⟩
  | true =>
  have SC : Hid (Plain.Asc sless C) := ascB_true sC
  clear sC
  go_wp2_with fail
  refine (clone_any a la ca A _ T.A (by omega)).mono ?_
  rintro e W ⟨a, ca, rfl, hN, d⟩
  replace T := T.setA d hN
  clear d hN
  go_wp2_with fail
  refine (clone_any b lb cb B _ T.B (by omega)).mono ?_
  rintro e W ⟨b, cb, rfl, hN, d⟩
  replace T := T.setB d hN
  clear d hN
  go_wp2_with fail
  refine (clone_any c lc cc C _ T.C (by omega)).mono ?_
  rintro e W ⟨c, cc, rfl, hN, d⟩
  replace T := T.setC d hN
  clear d hN
  obtain ⟨bel, ha, hb, hc⟩ := T
  have E1 := u_left A B
  have E2 := u_right A B
  go_wp2_with fail
  refine (join_any a b la ca lb cb A B _ ha hb (by omega) (by omega)).mono ?_
  rintro e W ⟨p, lp, cp, rfl, hp, d⟩
  have bp : lp ≤ la + lb := by have := union_len A B; have := hp.hlen; have := ha.hlen; have := hb.hlen; omega
  replace bel := bel.trans (d.mono bel.size)
  replace ha := ha.below d
  replace hb := hb.below d
  replace hc := hc.below d
  clear d
  go_wp2_with fail
  refine (below_any a b la ca lb cb A B _ ha hb SA.out SB.out (by omega) (by omega)).mono ?_
  rintro e W ⟨rfl, d⟩
  replace bel := bel.trans (d.mono bel.size)
  replace ha := ha.below d
  replace hb := hb.below d
  replace hc := hc.below d
  replace hp := hp.below d
  clear d
  go_wp2_with fail
  refine (equal_any p b lp cp lb cb (unionL A B) B _ hp hb (by omega)).mono ?_
  rintro e W ⟨rfl, d0⟩
  have d := d0.below
  clear d0
  replace bel := bel.trans (d.mono bel.size)
  replace ha := ha.below d
  replace hb := hb.below d
  replace hc := hc.below d
  replace hp := hp.below d
  clear d
  cases h0 : subB A B with
  | false =>
    have e0 := u_eq_no SA.out SB.out h0
    go_wp2_with fail
    refine (below_any a p la ca lp cp A (unionL A B) _ ha hp SA.out (union_asc SA.out SB.out) (by omega) (by omega)).mono ?_
    rintro e W ⟨rfl, d⟩
    replace bel := bel.trans (d.mono bel.size)
    replace ha := ha.below d
    replace hb := hb.below d
    replace hc := hc.below d
    replace hp := hp.below d
    clear d
    go_wp2_with fail
    refine (below_any b p lb cb lp cp B (unionL A B) _ hb hp SB.out (union_asc SA.out SB.out) (by omega) (by omega)).mono ?_
    rintro e W ⟨rfl, d⟩
    replace bel := bel.trans (d.mono bel.size)
    replace ha := ha.below d
    replace hb := hb.below d
    replace hc := hc.below d
    replace hp := hp.below d
    clear d
    go_wp2_with fail
    refine (below_any a c la ca lc cc A C _ ha hc SA.out SC.out (by omega) (by omega)).mono ?_
    rintro e W ⟨rfl, d⟩
    replace bel := bel.trans (d.mono bel.size)
    replace ha := ha.below d
    replace hb := hb.below d
    replace hc := hc.below d
    replace hp := hp.below d
    clear d
    cases h1 : subB A C with
    | false =>
      go_wp2
      go_ret
      exact ⟨rfl, bel⟩
    | true =>
      go_wp2_with fail
      refine (below_any b c lb cb lc cc B C _ hb hc SB.out SC.out (by omega) (by omega)).mono ?_
      rintro e W ⟨rfl, d⟩
      replace bel := bel.trans (d.mono bel.size)
      replace ha := ha.below d
      replace hb := hb.below d
      replace hc := hc.below d
      replace hp := hp.below d
      clear d
      cases h2 : subB B C with
      | false =>
        go_wp2
        go_ret
        exact ⟨rfl, bel⟩
      | true =>
        have h3 := u_least h1 h2
        go_wp2_with fail
        refine (below_any p c lp cp lc cc (unionL A B) C _ hp hc (union_asc SA.out SB.out) SC.out (by omega) (by omega)).mono ?_
        rintro e W ⟨rfl, d⟩
        replace bel := bel.trans (d.mono bel.size)
        replace ha := ha.below d
        replace hb := hb.below d
        replace hc := hc.below d
        replace hp := hp.below d
        clear d
        go_wp2
        go_ret
        exact ⟨rfl, bel⟩
  | true =>
    have e0 := u_eq_yes SA.out SB.out h0
    go_wp2_with fail
    refine (below_any a p la ca lp cp A (unionL A B) _ ha hp SA.out (union_asc SA.out SB.out) (by omega) (by omega)).mono ?_
    rintro e W ⟨rfl, d⟩
    replace bel := bel.trans (d.mono bel.size)
    replace ha := ha.below d
    replace hb := hb.below d
    replace hc := hc.below d
    replace hp := hp.below d
    clear d
    go_wp2_with fail
    refine (below_any b p lb cb lp cp B (unionL A B) _ hb hp SB.out (union_asc SA.out SB.out) (by omega) (by omega)).mono ?_
    rintro e W ⟨rfl, d⟩
    replace bel := bel.trans (d.mono bel.size)
    replace ha := ha.below d
    replace hb := hb.below d
    replace hc := hc.below d
    replace hp := hp.below d
    clear d
    go_wp2_with fail
    refine (below_any a c la ca lc cc A C _ ha hc SA.out SC.out (by omega) (by omega)).mono ?_
    rintro e W ⟨rfl, d⟩
    replace bel := bel.trans (d.mono bel.size)
    replace ha := ha.below d
    replace hb := hb.below d
    replace hc := hc.below d
    replace hp := hp.below d
    clear d
    cases h1 : subB A C with
    | false =>
      go_wp2
      go_ret
      exact ⟨rfl, bel⟩
    | true =>
      go_wp2_with fail
      refine (below_any b c lb cb lc cc B C _ hb hc SB.out SC.out (by omega) (by omega)).mono ?_
      rintro e W ⟨rfl, d⟩
      replace bel := bel.trans (d.mono bel.size)
      replace ha := ha.below d
      replace hb := hb.below d
      replace hc := hc.below d
      replace hp := hp.below d
      clear d
      cases h2 : subB B C with
      | false =>
        go_wp2
        go_ret
        exact ⟨rfl, bel⟩
      | true =>
        have h3 := u_least h1 h2
        go_wp2_with fail
        refine (below_any p c lp cp lc cc (unionL A B) C _ hp hc (union_asc SA.out SB.out) SC.out (by omega) (by omega)).mono ?_
        rintro e W ⟨rfl, d⟩
        replace bel := bel.trans (d.mono bel.size)
        replace ha := ha.below d
        replace hb := hb.below d
        replace hc := hc.below d
        replace hp := hp.below d
        clear d
        go_wp2
        go_ret
        exact ⟨rfl, bel⟩

end Go.Proofs.Qxb6604169a
