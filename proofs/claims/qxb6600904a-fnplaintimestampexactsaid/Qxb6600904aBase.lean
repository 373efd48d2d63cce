/-
  WHAT A SLICE OF BYTES IS TO THE WALKS; the contracts of zzCloneBytes, zzHasPrefix.
-/
import Derived.Test.Qxb6600904aRows
import Derived.WalkKit
import Derived.WalkSpells
import Derived.WalkLawsBesides
import Derived.RegionTactic
import Derived.Deep.QuietTactic
import Derived.BigQuiet
import Derived.Laws.BytesArg
import Derived.Lib.AppendStr
namespace Go.Proofs.Qxb6600904a
set_option linter.unusedVariables false
open Go.RowKit

/-- A slice of bytes that lies in memory: 'len' numbers L, one a cell. -/
structure Bys (w : World) (a : Option Addr) (len cap : Nat) (L : List Int) : Prop where
  hlen : L.length = len
  hcap : len ≤ cap
  hnil : a = none → cap = 0
  hby : ∀ x ∈ L, 0 ≤ x ∧ x ≤ 255
  cells : 0 < len → ∃ b off, a = some ⟨b, off, none⟩ ∧ b < w.heap.size ∧ ∀ i (h : i < L.length), w.cell? ⟨b, off + i, none⟩ = some (.int .u8 L[i])

theorem Bys.below {w w' : World} {a : Option Addr} {len cap : Nat} {L : List Int} (h : Bys w a len cap L) (hb : Below w.heap.size w w') : Bys w' a len cap L :=
  ⟨h.hlen, h.hcap, h.hnil, h.hby, fun h0 => by
    obtain ⟨b, off, e, hlt, hc⟩ := h.cells h0
    exact ⟨b, off, e, Nat.lt_of_lt_of_le hlt hb.size, fun i hi => (hb.cell (p := ⟨b, off + i, none⟩) hlt).trans (hc i hi)⟩⟩

/-- Some bool came back. -/
def IsBool (e : Ending) : Prop := ∃ r, e = .returned (.bool r)
theorem IsBool.mk (r : Bool) : IsBool (.returned (.bool r)) := ⟨r, rfl⟩
/-- The world has at most drawn. -/
def Drawn (w w' : World) : Prop := ∃ n, w' = w.drewN n
theorem Drawn.refl (w : World) : Drawn w w := ⟨0, rfl⟩
theorem Drawn.mk (w : World) (n : Nat) : Drawn w (w.drewN n) := ⟨n, rfl⟩
theorem Drawn.below {w w' : World} (h : Drawn w w') : Below w.heap.size w w' := by
  obtain ⟨n, rfl⟩ := h
  exact ⟨rfl, rfl, rfl, Nat.le_refl _, fun _ _ => rfl⟩
theorem ret_bool {a b : Bool} (h : a = b) : Ending.returned (.bool a) = .returned (.bool b) := by rw [h]
theorem hide {p : Prop} (h : p) : Hid p := h
theorem unhide {p : Prop} (h : Hid p) : p := h

/-- What a round's walk wants of one element: a name for it, its cell. -/
theorem cell_at {w : World} {b off len : Nat} {L : List Int} (hL : L.length = len) (hc : ∀ i (h : i < L.length), w.cell? ⟨b, off + i, none⟩ = some (.int .u8 L[i])) (k : Nat) (hk : k < len) :
    ∃ x, Hid (∃ g : k < L.length, x = L[k]) ∧ w.cell? ⟨b, off + k, none⟩ = some (.int .u8 x) :=
  ⟨_, ⟨by omega, rfl⟩, hc k (by omega)⟩

/-! ### zzBytes_.. -/
set_option maxHeartbeats 400000 in
theorem bytes15 (a : Option Addr) (len cap : Nat) (w : World) (hm : len ≤ 9223372036854775807) :
    Calls Try.prog 15 #[.slice a len cap] w fun e w' => IsBool e ∧ w' = w := by
  go_enter Try.func15, Try.ntmps15
  go_wp2
  all_goals (go_ret; exact ⟨IsBool.mk _, rfl⟩)
set_option maxHeartbeats 400000 in
theorem bytes20 (a : Option Addr) (len cap : Nat) (k : Int) (p q : Bool) (s : ByteArray) (w : World) (hm : len ≤ 9223372036854775807) (hs : s.size ≤ 9223372036854775807) :
    Calls Try.prog 20 #[.slice a len cap, .int .i64 k, .bool p, .bool q, .string s] w fun e w' => IsBool e ∧ w' = w := by
  go_enter Try.func20, Try.ntmps20
  go_wp2
  all_goals (go_ret; exact ⟨IsBool.mk _, rfl⟩)

/-! ### zzCloneBytes -/
theorem Try.info5 : (Try.prog.info? 5).map (fun i => (i.zero, i.size, i.bytes)) = some (some (.int .u8 0), 1, 1) := by kernel_rfl

theorem Bys_of_row {w : World} {B g len cap : Nat} {xs : List Value} {L : List Int} (hlen : L.length = len) (hby : ∀ x ∈ L, 0 ≤ x ∧ x ≤ 255) (h : w.ownsRow B 5 1 (.slice (some ⟨g, 0, none⟩) len cap) len xs)
    (hx : ∀ j (hj : j < L.length), xs[j]? = some (.int .u8 L[j])) : Bys w (some ⟨g, 0, none⟩) len cap L := by
  have hc : len ≤ cap := by
    rcases h.2 with ⟨h', _⟩ | ⟨g', cap', cur, h', _, _, hc, _⟩
    · simp at h'
    · simp at h'; obtain ⟨_, rfl⟩ := h'; exact hc
  refine ⟨hlen, hc, fun h' => (by cases h'), hby, fun _ => ⟨g, 0, rfl, (h.lt g rfl).2, fun i hi => ?_⟩⟩
  rw [Nat.zero_add, h.cellAt i (by omega)]
  exact hx i hi

theorem clone_step {xs : List Value} {L : List Int} {x : Int} {k : Nat} (hlen : xs.length = L.length) (hx : ∃ g : k < L.length, x = L[k]) (hr : ∀ j (hj : j < L.length), j < k → xs[j]? = some (.int .u8 L[j])) :
    ∀ j (hj : j < L.length), j < k + 1 → (xs.set k (.int .u8 x))[j]? = some (.int .u8 L[j]) := by
  intro j hj hjk
  obtain ⟨g, hx⟩ := hx
  by_cases e : j = k
  · subst e; rw [List.getElem?_set_self (by omega), hx]
  · rw [List.getElem?_set_ne (by omega)]; exact hr j hj (by omega)

set_option maxHeartbeats 1000000 in
theorem clone_any (a : Option Addr) (len cap : Nat) (L : List Int) (w : World) (h : Bys w a len cap L) (hm : len ≤ 140737488351232) :
    Calls Try.prog 10 #[.slice a len cap] w fun e w' => ∃ a' cap', e = .returned (.slice a' len cap') ∧ Bys w' a' len cap' L ∧ Below w.heap.size w w' := by
  have HL : Hid (L.length = len) := h.hlen
  have HB : Hid (∀ x ∈ L, 0 ≤ x ∧ x ≤ 255) := h.hby
  have q22 : ∀ (w : World) (a : Option Addr) (n c n' c' : Nat), (binOp .eql 22 (.slice a n c) (.slice none n' c')).run Try.prog w = .ok (.bool a.isNone) w := fun w a n c n' c' => Lib.run_eql_slice_nil w _ _ a n c n' c' Try.underlying22
  obtain ⟨i0, hi, hz0, hz1, hz2⟩ := info_parts Try.info5
  cases a with
  | none =>
    have h1 := h.hnil rfl
    have h2 := h.hcap
    have h3 : len = 0 := by omega
    subst h3 h1
    go_enter Try.func10, Try.ntmps10
    go_wp2
    go_ret
    exact ⟨_, _, rfl, h, Below.refl _ _⟩
  | some ad =>
    by_cases h0 : len ≤ 0
    · go_enter Try.func10, Try.ntmps10
      go_wp2_with (at_make; refine wpList_make_full _ rfl _ _ 22 rfl w.heap.size 5 i0 (.int .u8 0) 1 Try.underlying22 hi hz0 hz1 _ _ _ _ len rfl rfl (by omega) (by omega) (by rw [hz2]; omega) (by unfold maxLen; omega) (Nat.le_refl _) ?_; intro w0 hown0 hgrow0)
      refine wp_loop_rounds 1 ?_
      rw [rounds_succ]
      go_wp2
      go_ret
      exact ⟨_, _, rfl, Bys_of_row HL.out HB.out hown0 (fun j hj => by have := HL.out; omega), (Below.refl _ _).grown hgrow0 (Nat.le_refl _) (fun k h => by cases h)⟩
    · obtain ⟨b, off, e, hb, hc⟩ := h.cells (by omega)
      obtain rfl := Option.some.inj e
      clear e h
      go_enter Try.func10, Try.ntmps10
      go_wp2_with (at_make; refine wpList_make_full _ rfl _ _ 22 rfl w.heap.size 5 i0 (.int .u8 0) 1 Try.underlying22 hi hz0 hz1 _ _ _ _ len rfl rfl (by omega) (by omega) (by rw [hz2]; omega) (by unfold maxLen; omega) (Nat.le_refl _) ?_; intro w0 hown0 hgrow0)
      go_loopw [4] (fun i wr => ∃ (k : Nat) (xs : List Value), k ≤ len ∧ i = .int .i64 k ∧ wr.ownsRow w.heap.size 5 1 (.slice (some ⟨w.heap.size, 0, none⟩) len len) len xs ∧ Hid (∀ j (hj : j < L.length), j < k → xs[j]? = some (.int .u8 L[j])) ∧ Below w.heap.size w wr) (fun i _ => len - (intOf i).toNat)
      case atStart => exact ⟨0, _, by omega, rfl, hown0, fun j hj h => by omega, (Below.refl _ _).grown hgrow0 (Nat.le_refl _) (fun k h => by cases h)⟩
      case round =>
        obtain ⟨k, xs, hk, rfl, hown, hrel, hbel⟩ := hrel
        by_cases hlt : k < len
        · obtain ⟨x, hx, hcx⟩ := cell_at HL.out hc k hlt
          have hcx' : wr.cell? ⟨b, off + k, none⟩ = some (.int .u8 x) := (hbel.cell (p := ⟨b, off + k, none⟩) hb).trans hcx
          have hxs : xs.length = len := by have := hown.1; omega
          obtain ⟨v, hv⟩ : ∃ v, wr.cell? ⟨w.heap.size, k, none⟩ = some v := ⟨xs[k]'(by omega), by rw [hown.cellAt k (by omega)]; exact List.getElem?_eq_getElem (by omega)⟩
          have hf := hown.frozenAt k
          have HX : Hid (xs.length = len) := hxs
          have HO := hown.stored k (.int .u8 x)
          clear hc hcx hxs
          go_wp2
          go_roundw
          case rel => exact ⟨k + 1, _, by omega, by go_num, HO.1, clone_step (HX.out.trans HL.out.symm) hx.out hrel.out, hbel.setCell (Nat.le_refl _) _⟩
          case measure => simp [intOf]; omega
        · go_wp2
          go_ret
          exact ⟨_, _, rfl, Bys_of_row HL.out HB.out hown (fun j hj => hrel.out j hj (by have := HL.out; omega)), hbel⟩

/-! ### zzHasPrefix -/
def preB (S P : List Int) : Bool := P.isPrefixOf S
theorem preB_iff {S P : List Int} : preB S P = true ↔ P <+: S := by unfold preB; exact List.isPrefixOf_iff_prefix
theorem preB_short {S P : List Int} (h : S.length < P.length) : false = preB S P := by
  cases e : preB S P with
  | false => rfl
  | true => have := (preB_iff.1 e).length_le; omega
theorem preB_no {S P : List Int} {k : Nat} {x y : Int} (hx : ∃ g : k < S.length, x = S[k]) (hy : ∃ g : k < P.length, y = P[k]) (h : x ≠ y) : false = preB S P := by
  cases e : preB S P with
  | false => rfl
  | true =>
    obtain ⟨g, hx⟩ := hx
    obtain ⟨g', hy⟩ := hy
    exact absurd (by rw [hx, hy]; exact ((preB_iff.1 e).getElem g').symm) h
theorem preB_yes {S P : List Int} (hl : P.length ≤ S.length) (h : ∀ j (h1 : j < S.length) (h2 : j < P.length), S[j] = P[j]) : true = preB S P := by
  refine (preB_iff.2 ?_).symm
  rw [List.prefix_iff_eq_take]
  refine List.ext_getElem (by simp; omega) ?_
  intro i h1 h2
  rw [List.getElem_take]
  exact (h i (by omega) h1).symm
theorem pre_step {S P : List Int} {k : Nat} {x y : Int} (hx : ∃ g : k < S.length, x = S[k]) (hy : ∃ g : k < P.length, y = P[k]) (h : x = y) (hr : ∀ j (h1 : j < S.length) (h2 : j < P.length), j < k → S[j] = P[j]) :
    ∀ j (h1 : j < S.length) (h2 : j < P.length), j < k + 1 → S[j] = P[j] := by
  intro j h1 h2 hj
  by_cases e : j = k
  · subst e
    obtain ⟨_, hx⟩ := hx
    obtain ⟨_, hy⟩ := hy
    rw [← hx, ← hy, h]
  · exact hr j h1 h2 (by omega)

set_option maxHeartbeats 1000000 in
theorem hasPrefix_any (a b : Option Addr) (la ca lb cb : Nat) (S P : List Int) (w : World) (hA : Bys w a la ca S) (hB : Bys w b lb cb P) (hm : la ≤ 140737488351232) (hmb : lb ≤ 140737488351232) :
    Calls Try.prog 22 #[.slice a la ca, .slice b lb cb] w fun e w' => e = .returned (.bool (preB S P)) ∧ Drawn w w' := by
  have HA : Hid (S.length = la) := hA.hlen
  have HB : Hid (P.length = lb) := hB.hlen
  by_cases hsh : la < lb
  · clear hA hB
    go_enter Try.func22, Try.ntmps22
    go_wp2
    go_ret
    exact ⟨ret_bool (preB_short (by have := HA.out; have := HB.out; omega)), Drawn.refl _⟩
  by_cases h0 : lb ≤ 0
  · clear hA hB
    go_enter Try.func22, Try.ntmps22
    go_wp2
    refine wp_loop_rounds 1 ?_
    rw [rounds_succ]
    go_wp2
    go_ret
    exact ⟨ret_bool (preB_yes (by have := HA.out; have := HB.out; omega) (fun j _ h2 => by have := HB.out; omega)), Drawn.refl _⟩
  · obtain ⟨ba, oa, rfl, hba, hca⟩ := hA.cells (by omega)
    obtain ⟨bb, ob, rfl, hbb, hcb⟩ := hB.cells (by omega)
    clear hA hB
    go_enter Try.func22, Try.ntmps22
    go_wp2
    go_loopw [5] (fun i wr => ∃ k n : Nat, k ≤ lb ∧ i = .int .i64 k ∧ wr = w.drewN n ∧ Hid (∀ j (h1 : j < S.length) (h2 : j < P.length), j < k → S[j] = P[j])) (fun i _ => lb - (intOf i).toNat)
    case atStart => exact ⟨0, 0, by omega, rfl, rfl, fun j _ _ h => by omega⟩
    case round =>
      obtain ⟨k, n, hk, rfl, rfl, hrel⟩ := hrel
      by_cases hlt : k < lb
      · obtain ⟨x, hx, hcx⟩ := cell_at HA.out hca k (by omega)
        obtain ⟨y, hy, hcy⟩ := cell_at HB.out hcb k hlt
        clear hca hcb
        by_cases hxy : x = y
        · have HXY := hide hxy
          have hb : (x != y) = false := by simp [hxy]
          clear hxy
          go_wp2
          go_quiet (fail)
          go_wp2
          go_roundw
          case rel => exact ⟨k + 1, _, by omega, by go_num, rfl, pre_step hx.out hy.out (unhide HXY) hrel⟩
          case measure => simp [intOf]; omega
        · have hb : (x != y) = true := by simp [hxy]
          have HXY := hide hxy
          clear hxy
          go_wp2
          go_quiet (fail)
          go_wp2
          go_ret
          exact ⟨ret_bool (preB_no hx.out hy.out (unhide HXY)), _, World.drewN_drewN _ _ _⟩
      · go_wp2
        go_ret
        exact ⟨ret_bool (preB_yes (by have := HA.out; have := HB.out; omega) (fun j h1 h2 => hrel.out j h1 h2 (by have := HB.out; omega))), n, rfl⟩

end Go.Proofs.Qxb6600904a
