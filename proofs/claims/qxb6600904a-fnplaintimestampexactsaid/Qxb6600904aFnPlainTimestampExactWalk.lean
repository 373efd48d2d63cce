/-
  THE WALK OF FnPlainTimestampExact: the Go text returns true, and writes nothing that was there.
-/
import Derived.Test.Qxb6600904aZPlain
import Derived.Test.Qxb6600904aSplit
import Derived.Deep.RegionHeld3
namespace Go.Proofs.Qxb6600904a
set_option linter.unusedVariables false
set_option linter.unusedSimpArgs false
open Go.RowKit

/-- What the last region leans on, world by world. -/
theorem keep_start {W : World} {B : Nat} {x y z : Value} (c0 : W.cell? ⟨B, 0, none⟩ = some x) (c1 : W.cell? ⟨B, 1, none⟩ = some y) (c2 : W.cell? ⟨B, 2, none⟩ = some z) :
    W.drew.cell? ⟨B, 0, none⟩ = some x ∧ W.drew.cell? ⟨B, 1, none⟩ = some y ∧ W.drew.cell? ⟨B, 2, none⟩ = some z ∧ Below W.heap.size W W.drew :=
  ⟨c0, c1, c2, (Below.refl _ _).drew⟩
theorem keep_next {W v v' : World} {B : Nat} {x y z : Value} (hZ : Hid (B < W.heap.size)) (h : v.cell? ⟨B, 0, none⟩ = some x ∧ v.cell? ⟨B, 1, none⟩ = some y ∧ v.cell? ⟨B, 2, none⟩ = some z ∧ Below W.heap.size W v) (hb : Below v.heap.size v v') :
    v'.cell? ⟨B, 0, none⟩ = some x ∧ v'.cell? ⟨B, 1, none⟩ = some y ∧ v'.cell? ⟨B, 2, none⟩ = some z ∧ Below W.heap.size W v' := by
  have h1 : B < v.heap.size := Nat.lt_of_lt_of_le hZ h.2.2.2.size
  exact ⟨(hb.cell (p := ⟨B, 0, none⟩) h1).trans h.1, (hb.cell (p := ⟨B, 1, none⟩) h1).trans h.2.1, (hb.cell (p := ⟨B, 2, none⟩) h1).trans h.2.2.1, h.2.2.2.trans (hb.mono h.2.2.2.size)⟩
theorem strip_is {a : Option Addr} {len cap : Nat} {L : List Int} {W : World} (h : Bys W a len cap L) (hd : AllD L) (h0 : 1 ≤ L.length) (hm : L.length ≤ 19) (v : World) (hv : Below W.heap.size W v) :
    Calls Try.prog 18 #[.slice a len cap] v fun e w' => e = .returned (.string (strOfNums (dec (val L)))) ∧ w' = v := by
  have hl := h.hlen
  rw [← strip_dec L (by rintro rfl; simp at h0) hd]
  exact strip_any a len cap L v (h.below hv) (by omega) (by omega)
theorem conv_is {a : Option Addr} {len cap : Nat} {L : List Int} {W : World} (h : Bys W a len cap L) (h0 : 1 ≤ L.length) (hd : AllD L) (hh : L.head? ≠ some 48) (v : World) (hv : Below W.heap.size W v) :
    (convert 22 9 (.slice a len cap)).run Try.prog v = .ok (.string (strOfNums (dec (val L)))) v := by
  have hl := h.hlen
  obtain ⟨b, off, rfl, _, hc⟩ := (h.below hv).cells (by omega)
  have := conv_any hl hc 0 cap (by omega)
  rwa [Nat.add_zero, Nat.sub_zero, List.drop_zero, ← dec_val L (by rintro rfl; simp at h0) hd (Or.inr hh)] at this

theorem itoa_wrap (u : Nat) (hu : u < 18446744073709551616) (w : World) :
    Calls Try.prog 19 #[.int .u64 (IntKind.u64.wrap u)] w fun e w' => e = .returned (.string (strOfNums (dec u))) ∧ Below w.heap.size w w' := by
  rw [show IntKind.u64.wrap (u : Int) = u by rw [IntKind.wrap_u64]; omega]
  exact itoa_any u w hu

set_option maxHeartbeats 4000000 in
theorem law5 (a : Option Addr) (len cap : Nat) (L : List Int) (w : World) (hB : Bys w a len cap L) (hm : len ≤ 9223372036854775807) :
    Calls Try.prog 5 #[.slice a len cap] w fun e w' => e = .returned (.bool true) ∧ Below w.heap.size w w' := by
  have HB := hide hB
  clear hB
  go_enter Try.func5, Try.ntmps5
  go_wp2_with fail
  refine (bytes15 a len cap _ hm).mono ?_
  rintro e w ⟨⟨r, rfl⟩, rfl⟩
  cases r with
  | false =>
    go_wp2
    go_ret
    exact ⟨rfl, Below.refl _ _⟩
  | true =>
  by_cases hl : 1048576 < len
  · go_wp2
    go_ret
    exact ⟨rfl, Below.refl _ _⟩
  go_wp2_with fail
  refine (clone_any a len cap L _ (unhide HB) (by omega)).mono ?_
  rintro e w1 ⟨a1, cap1, rfl, hB1, d1⟩
  have HB1 := hide hB1
  have D1 := hide d1
  clear HB hB1 d1
  go_wp2_with fail
  refine (zplain_any a1 len cap1 L _ (unhide HB1) (by omega)).mono ?_
  rintro e w2 ⟨⟨x, y, z, ok, rfl, hp⟩, d2⟩
  have HB2 := hide ((unhide HB1).below d2)
  have D2 := hide ((unhide D1).trans (d2.mono (unhide D1).size))
  clear HB1 D1 d2
  have HP := hide hp
  clear hp
  go_wp2_with fail
  refine (split_any a1 len cap1 L _ ((unhide HB2).below ((Below.refl _ _).alloc (Nat.le_refl _) _)) (by omega)).mono ?_
  rintro e w3 ⟨hs, rfl⟩
  rcases hs with ⟨A, B, N, aA, aB, aN, lA, lB, lN, cA, cB, cN, hS, rfl, hA, hBB, hN⟩ | ⟨hno, rfl⟩
  · rcases unhide HP with ⟨A', B', N', hS', rfl, rfl, rfl, rfl⟩ | ⟨hno, _⟩
    case inr => exact absurd ⟨A, B, N, hS⟩ hno
    obtain ⟨rfl, rfl, rfl⟩ := hS.one hS'
    have hv : 0 < val N := val_pos N (by rintro rfl; have := hS.n1; simp at this) hS.dN hS.n0
    have b1 := val_lt_of hS.dA hS.a2
    have b2 := val_lt_of hS.dB hS.b2
    have b3 := val_lt_of hS.dN hS.n2
    rw [show (10 : Nat) ^ 18 = 1000000000000000000 by decide] at b1 b3
    rw [show (10 : Nat) ^ 19 = 10000000000000000000 by decide] at b2
    have kA := hide (strip_is hA hS.dA hS.a1 (by have := hS.a2; omega))
    have kB := hide (strip_is hBB hS.dB hS.b1 hS.b2)
    have kN := conv_is hN hS.n1 hS.dN hS.n0
    have tA := hide (itoa_wrap (val A) (by omega))
    have tB := hide (fun w => itoa_any (val B) w (by omega))
    have tN := hide (itoa_wrap (val N) (by omega))
    clear hS hS' hA hBB hN HP HB2
    generalize strOfNums (dec (val A)) = sA at *
    generalize strOfNums (dec (val B)) = sB at *
    generalize strOfNums (dec (val N)) = sN at *
    generalize val A = nA at *
    generalize val B = nB at *
    generalize val N = nN at *
    go_wp2
    have c0 : (w2.alloc (.cells #[.int .i64 nA, .int .u64 nB, .int .i64 nN] 31)).cell? ⟨w2.heap.size, 0, none⟩ = some (.int .i64 nA) := by simp [go_sem]
    have c1 : (w2.alloc (.cells #[.int .i64 nA, .int .u64 nB, .int .i64 nN] 31)).cell? ⟨w2.heap.size, 1, none⟩ = some (.int .u64 nB) := by simp [go_sem]
    have c2 : (w2.alloc (.cells #[.int .i64 nA, .int .u64 nB, .int .i64 nN] 31)).cell? ⟨w2.heap.size, 2, none⟩ = some (.int .i64 nN) := by simp [go_sem]
    have hZ : Hid (w2.heap.size < (w2.alloc (.cells #[.int .i64 nA, .int .u64 nB, .int .i64 nN] 31)).heap.size) := hide (by simp)
    have D3 := hide ((unhide D2).alloc (unhide D2).size (.cells #[.int .i64 nA, .int .u64 nB, .int .i64 nN] 31))
    clear D2
    generalize w2.alloc (.cells #[.int .i64 nA, .int .u64 nB, .int .i64 nN] 31) = W at *
    go_region_held3 (fun w' => w'.cell? ⟨w2.heap.size, 0, none⟩ = some (.int .i64 nA) ∧ w'.cell? ⟨w2.heap.size, 1, none⟩ = some (.int .u64 nB) ∧ w'.cell? ⟨w2.heap.size, 2, none⟩ = some (.int .i64 nN) ∧ Below W.heap.size W w')
      (first
        | exact keep_start c0 c1 c2
        | exact keep_next hZ (by assumption) hb
        | assumption)
      (first
        | (go_at_call 18; with_reducible refine Calls.mono (unhide kA _ ?_) ?_; first | assumption | exact (by assumption : _ ∧ _ ∧ _ ∧ _).2.2.2; rintro e w' ⟨rfl, rfl⟩)
        | (go_at_call 18; with_reducible refine Calls.mono (unhide kB _ ?_) ?_; first | assumption | exact (by assumption : _ ∧ _ ∧ _ ∧ _).2.2.2; rintro e w' ⟨rfl, rfl⟩)
        | (go_at_call 19; with_reducible refine Calls.mono (unhide tA _) ?_; rintro e w' ⟨rfl, hb⟩)
        | (go_at_call 19; with_reducible refine Calls.mono (unhide tB _) ?_; rintro e w' ⟨rfl, hb⟩)
        | (go_at_call 19; with_reducible refine Calls.mono (unhide tN _) ?_; rintro e w' ⟨rfl, hb⟩))
    have hS : Below W.heap.size W w' := by first | assumption | exact (by assumption : _ ∧ _ ∧ _ ∧ Below W.heap.size W w').2.2.2
    go_wp2
    go_ret
    exact ⟨rfl, (unhide D3).trans (hS.mono (unhide D3).size)⟩
  · rcases unhide HP with ⟨A', B', N', hS', rfl, rfl, rfl, rfl⟩ | ⟨_, rfl, rfl, rfl, rfl⟩
    · exact absurd ⟨_, _, _, hS'⟩ hno
    clear HP hno
    go_wp2
    go_ret
    exact ⟨rfl, (unhide D2).alloc (unhide D2).size _⟩
end Go.Proofs.Qxb6600904a
