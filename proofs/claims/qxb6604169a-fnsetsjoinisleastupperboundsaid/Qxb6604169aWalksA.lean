/-
  THE CONTRACTS OF b1Size, b1Ascending, b1Equal, b1Has, b1Clone.
-/
import Derived.Test.Qxb6604169aBase
namespace Go.Proofs.Qxb6604169a
open Go.RowKit

set_option maxHeartbeats 400000 in
theorem size_any (a : Option Addr) (len cap : Nat) (L : List ByteArray) (w : World) (h : Strs w a len cap L) (hm : len ≤ 9223372036854775807) :
    Calls Try.prog 11 #[.slice a len cap] w fun e w' => ∃ n : Int, e = .returned (.int .i64 n) ∧ 0 ≤ n ∧ n ≤ 1048577 ∧ (n ≤ 1048576 → 16 * (len : Int) ≤ n) ∧ w' = w := by
  by_cases hbig : 1048576 < len
  · go_enter Try.func11, Try.ntmps11
    go_wp2
    go_ret
    exact ⟨_, rfl, by omega, by omega, by omega, rfl⟩
  by_cases h0 : len = 0
  · subst h0
    go_enter Try.func11, Try.ntmps11
    go_wp2
    refine wp_loop_rounds 1 ?_
    rw [rounds_succ]
    go_wp2
    go_ret
    exact ⟨_, rfl, by omega, by omega, by omega, rfl⟩
  · obtain ⟨b, off, rfl, hlt, hc⟩ := h.cells (by omega)
    have HL : Hid (L.length = len) := h.hlen
    clear h
    go_enter Try.func11, Try.ntmps11
    go_wp2
    go_loop [3, 4] (fun n i => ∃ k m : Nat, k ≤ len ∧ i = .int .i64 k ∧ n = .int .i64 m ∧ 16 * k ≤ m ∧ m ≤ 1048576) (fun _ i => len - (intOf i).toNat)
    case atStart => exact ⟨0, 0, by omega, rfl, rfl, by omega, by omega⟩
    case round =>
      obtain ⟨k, m, hk, rfl, rfl, h1, h2⟩ := hrel
      by_cases hlt : k < len
      · obtain ⟨x, hx, hcx⟩ := cell_at HL.out hc k hlt
        clear hc hx
        go_wp2
        · go_ret
          exact ⟨_, rfl, by omega, by omega, by omega, rfl⟩
        · go_ret
          exact ⟨_, rfl, by omega, by omega, by omega, rfl⟩
        · go_round
          case rel => exact ⟨k + 1, m + (16 + x.size), by omega, by go_num, by go_num, by omega, by omega⟩
          case measure => simp [intOf]; omega
      · go_wp2
        go_ret
        exact ⟨_, rfl, by omega, by omega, by omega, rfl⟩

/-! ### b1Ascending -/
/-- Is the list strictly ascending? -/
def ascB (L : List ByteArray) : Bool := (List.range (L.length - 1)).all fun i => sless (L.getD i ByteArray.empty) (L.getD (i + 1) ByteArray.empty)

theorem ascB_true {L : List ByteArray} (h : ascB L = true) : Plain.Asc sless L := by
  refine Plain.asc_of_neighbours sto ?_
  intro i hi
  have := List.all_eq_true.1 h i (List.mem_range.2 (by omega))
  simpa [List.getD, List.getElem?_eq_getElem hi, List.getElem?_eq_getElem (show i < L.length by omega)] using this

theorem ascB_of {L : List ByteArray} (h : ∀ i (hi : i + 1 < L.length), sless (L[i]'(by omega)) (L[i + 1]'hi) = true) : ascB L = true := by
  refine List.all_eq_true.2 ?_
  intro i hi
  have hi' : i + 1 < L.length := by have := List.mem_range.1 hi; omega
  simpa [List.getD, List.getElem?_eq_getElem hi', List.getElem?_eq_getElem (show i < L.length by omega)] using h i hi'

theorem ascB_of_asc {L : List ByteArray} (h : Plain.Asc sless L) : ascB L = true := ascB_of fun i hi => h.at (Nat.lt_succ_self i) hi

theorem ascB_not {L : List ByteArray} (i : Nat) (hi : i + 1 < L.length) (h : sless (L[i]'(by omega)) (L[i + 1]'hi) = false) : ascB L = false := by
  cases hb : ascB L with
  | false => rfl
  | true =>
    have := (ascB_true hb).at (Nat.lt_succ_self i) hi
    rw [h] at this; cases this

theorem asc_no {L : List ByteArray} {x y : ByteArray} {k : Nat} (hk1 : 1 ≤ k) (hk : k < L.length) (hx : x = L[k - 1]'(by omega)) (hy : y = L[k]) (h : (!Op.bytesLess x.toList y.toList) = true) : false = ascB L := by
  obtain ⟨j, rfl⟩ : ∃ j, k = j + 1 := ⟨k - 1, by omega⟩
  subst hx hy
  exact (ascB_not j hk (by simpa [sless] using h)).symm
theorem asc_yes {L : List ByteArray} {x y : ByteArray} {k : Nat} (hk1 : 1 ≤ k) (hk : k < L.length) (hx : x = L[k - 1]'(by omega)) (hy : y = L[k]) (h : (!Op.bytesLess x.toList y.toList) = false)
    (hr : ∀ j (hj : j + 1 < L.length), j + 1 < k → sless (L[j]'(by omega)) (L[j + 1]'hj) = true) : ∀ j (hj : j + 1 < L.length), j + 1 < k + 1 → sless (L[j]'(by omega)) (L[j + 1]'hj) = true := by
  obtain ⟨i, rfl⟩ : ∃ i, k = i + 1 := ⟨k - 1, by omega⟩
  subst hx hy
  intro j hj hjk
  by_cases e : j = i
  · subst e; simpa [sless] using h
  · exact hr j hj (by omega)

set_option maxHeartbeats 1000000 in
theorem asc_any (a : Option Addr) (len cap : Nat) (L : List ByteArray) (w : World) (h : Strs w a len cap L) (hm : len ≤ 140737488351232) :
    Calls Try.prog 12 #[.slice a len cap] w fun e w' => e = .returned (.bool (ascB L)) ∧ Drawn w w' := by
  have HL : Hid (L.length = len) := h.hlen
  by_cases h1 : len ≤ 1
  · have ht : Hid (ascB L = true) := ascB_of (fun i hi => by have := HL.out; omega)
    clear h
    go_enter Try.func12, Try.ntmps12
    go_wp2
    refine wp_loop_rounds 1 ?_
    rw [rounds_succ]
    go_wp2
    go_ret
    exact ⟨ret_bool ht.out.symm, Drawn.refl _⟩
  · obtain ⟨b, off, rfl, hb, hc⟩ := h.cells (by omega)
    clear h
    go_enter Try.func12, Try.ntmps12
    go_wp2
    go_loopw [3] (fun i wr => ∃ k n : Nat, k ≤ len ∧ 1 ≤ k ∧ i = .int .i64 k ∧ wr = w.drewN n ∧ Hid (∀ j (hj : j + 1 < L.length), j + 1 < k → sless (L[j]'(by omega)) (L[j + 1]'hj) = true)) (fun i _ => len - (intOf i).toNat)
    case atStart => exact ⟨1, 0, by omega, by omega, rfl, rfl, fun j hj h => by omega⟩
    case round =>
      obtain ⟨k, n, hk, hk1, rfl, rfl, hrel⟩ := hrel
      by_cases hlt : k < len
      · obtain ⟨x, hx, hcx⟩ := cell_at HL.out hc (k - 1) (by omega)
        obtain ⟨y, hy, hcy⟩ := cell_at HL.out hc k hlt
        clear hc
        go_wp2
        go_quiet (fail)
        go_wp2
        · go_ret
          exact ⟨ret_bool (asc_no hk1 (by have := HL.out; omega) hx.out hy.out ‹_›), _, World.drewN_drewN _ _ _⟩
        · go_roundw
          case rel => exact ⟨k + 1, _, by omega, by omega, by go_num, rfl, asc_yes hk1 (by have := HL.out; omega) hx.out hy.out ‹_› hrel⟩
          case measure => simp [intOf]; omega
      · go_wp2
        go_ret
        exact ⟨ret_bool (ascB_of fun i hi => hrel.out i hi (by have := HL.out; omega)).symm, n, rfl⟩

/-! ### b1Equal -/
def eqB (A B : List ByteArray) : Bool := decide (A = B)
theorem eqB_yes {A B : List ByteArray} (hl : A.length = B.length) (h : ∀ j (hj : j < A.length), A[j] = B[j]'(by omega)) : true = eqB A B := by
  have : A = B := List.ext_getElem hl (fun i h1 _ => h i h1)
  simp [eqB, this]
theorem eqB_no {A B : List ByteArray} (hl : A.length = B.length) {x y : ByteArray} {k : Nat} (hk : k < A.length) (hx : x = A[k]) (hy : y = B[k]'(by omega)) (h : x ≠ y) : false = eqB A B := by
  have : A ≠ B := by rintro rfl; exact h (hx.trans hy.symm)
  simp [eqB, this]
theorem eqB_len {A B : List ByteArray} (hl : A.length ≠ B.length) : false = eqB A B := by
  have : A ≠ B := by rintro rfl; exact hl rfl
  simp [eqB, this]

theorem neq_of {x y : ByteArray} (h : (!x.toList == y.toList) = true) : x ≠ y := by
  rintro rfl; simp at h
theorem eq_of {x y : ByteArray} (h : (!x.toList == y.toList) = false) : x = y := toList_inj (by simpa using h)
theorem eq_step {A B : List ByteArray} {x y : ByteArray} {k : Nat} {g1 : k < A.length} {g2 : k < B.length} (hx : x = A[k]) (hy : y = B[k]) (h : x = y) (hr : ∀ j (h1 : j < A.length) (h2 : j < B.length), j < k → A[j] = B[j]) :
    ∀ j (h1 : j < A.length) (h2 : j < B.length), j < k + 1 → A[j] = B[j] := by
  intro j h1 h2 hj
  by_cases e : j = k
  · subst e; rw [← hx, ← hy, h]
  · exact hr j h1 h2 (by omega)

set_option maxHeartbeats 1000000 in
theorem equal_any (a b : Option Addr) (la ca lb cb : Nat) (A B : List ByteArray) (w : World) (hA : Strs w a la ca A) (hB : Strs w b lb cb B) (hm : la ≤ 140737488351232) :
    Calls Try.prog 17 #[.slice a la ca, .slice b lb cb] w fun e w' => e = .returned (.bool (eqB A B)) ∧ Drawn w w' := by
  have HA : Hid (A.length = la) := hA.hlen
  have HB : Hid (B.length = lb) := hB.hlen
  by_cases hne : la = lb
  · subst hne
    by_cases h0 : la ≤ 0
    · clear hA hB
      go_enter Try.func17, Try.ntmps17
      go_wp2
      refine wp_loop_rounds 1 ?_
      rw [rounds_succ]
      go_wp2
      go_ret
      exact ⟨ret_bool (eqB_yes (HA.out.trans HB.out.symm) (fun j hj => by have := HA.out; omega)), Drawn.refl _⟩
    · obtain ⟨ba, oa, rfl, hba, hca⟩ := hA.cells (by omega)
      obtain ⟨bb, ob, rfl, hbb, hcb⟩ := hB.cells (by omega)
      clear hA hB
      go_enter Try.func17, Try.ntmps17
      go_wp2
      go_loopw [5] (fun i wr => ∃ k n : Nat, k ≤ la ∧ i = .int .i64 k ∧ wr = w.drewN n ∧ Hid (∀ j (h1 : j < A.length) (h2 : j < B.length), j < k → A[j] = B[j])) (fun i _ => la - (intOf i).toNat)
      case atStart => exact ⟨0, 0, by omega, rfl, rfl, fun j _ _ h => by omega⟩
      case round =>
        obtain ⟨k, n, hk, rfl, rfl, hrel⟩ := hrel
        by_cases hlt : k < la
        · obtain ⟨x, hx, hcx⟩ := cell_at HA.out hca k hlt
          obtain ⟨y, hy, hcy⟩ := cell_at HB.out hcb k hlt
          clear hca hcb
          go_wp2
          go_quiet (fail)
          go_wp2
          · go_ret
            exact ⟨ret_bool (eqB_no (HA.out.trans HB.out.symm) (by have := HA.out; omega) hx.out hy.out (neq_of ‹_›)), _, World.drewN_drewN _ _ _⟩
          · go_roundw
            case rel => exact ⟨k + 1, _, by omega, by go_num, rfl, eq_step hx.out hy.out (eq_of ‹_›) hrel⟩
            case measure => simp [intOf]; omega
        · go_wp2
          go_ret
          exact ⟨ret_bool (eqB_yes (HA.out.trans HB.out.symm) (fun j hj => hrel.out j hj (by have := HA.out; have := HB.out; omega) (by have := HA.out; omega))), n, rfl⟩
  · clear hA hB
    go_enter Try.func17, Try.ntmps17
    go_wp2
    go_ret
    exact ⟨ret_bool (eqB_len (by have := HA.out; have := HB.out; omega)), Drawn.refl _⟩

/-! ### b1Has -/
def hasB (L : List ByteArray) (x : ByteArray) : Bool := L.any fun y => decide (y = x)
theorem hasB_iff {L : List ByteArray} {x : ByteArray} : hasB L x = true ↔ x ∈ L := by simp [hasB]
theorem hasB_false {L : List ByteArray} {x : ByteArray} (h : x ∉ L) : false = hasB L x := by
  cases e : hasB L x with
  | false => rfl
  | true => exact absurd (hasB_iff.1 e) h
theorem hasB_no {L : List ByteArray} (hl : Plain.Asc sless L) {x : ByteArray} {lo : Nat} (h1 : ∀ t (ht : t < L.length), t < lo → sless L[t] x = true) (h2 : ∀ t (ht : t < L.length), lo ≤ t → sless L[t] x = false) (h : L.length ≤ lo) : false = hasB L x := by
  have : x ∉ L := by
    intro hx
    obtain ⟨h', _⟩ := (Plain.search_end sto hl h1 h2).1 hx
    omega
  exact hasB_false this
theorem hasB_at {L : List ByteArray} (hl : Plain.Asc sless L) {x y : ByteArray} {lo : Nat} (h1 : ∀ t (ht : t < L.length), t < lo → sless L[t] x = true) (h2 : ∀ t (ht : t < L.length), lo ≤ t → sless L[t] x = false) {g : lo < L.length} (hy : y = L[lo]) : (y.toList == x.toList) = hasB L x := by
  have e := Plain.search_end sto hl h1 h2
  rw [Bool.eq_iff_iff]
  rw [beq_iff_eq, hasB_iff, e]
  constructor
  · intro h; exact ⟨g, hy.symm.trans (toList_inj h)⟩
  · rintro ⟨_, h⟩; rw [hy, h]
theorem lo_step {L : List ByteArray} (hl : Plain.Asc sless L) {x y : ByteArray} {m : Nat} {g : m < L.length} (hy : y = L[m]) (h : Op.bytesLess y.toList x.toList = true) : ∀ t (ht : t < L.length), t < m + 1 → sless L[t] x = true := by
  intro t ht htm
  have hyx : sless L[m] x = true := by rw [← hy]; exact h
  by_cases e : t = m
  · subst e; exact hyx
  · exact sto.tr _ _ _ (hl.at (show t < m by omega) g) hyx
theorem hi_step {L : List ByteArray} (hl : Plain.Asc sless L) {x y : ByteArray} {m : Nat} {g : m < L.length} (hy : y = L[m]) (h : Op.bytesLess y.toList x.toList = false) : ∀ t (ht : t < L.length), m ≤ t → sless L[t] x = false := by
  intro t ht htm
  have hyx : sless L[m] x = false := by rw [← hy]; exact h
  by_cases e : t = m
  · subst e; exact hyx
  · cases h2 : sless L[t] x with
    | false => rfl
    | true =>
      have := sto.tr _ _ _ (hl.at (show m < t by omega) ht) h2
      rw [hyx] at this; cases this

set_option maxHeartbeats 1000000 in
theorem has_any (a : Option Addr) (len cap : Nat) (L : List ByteArray) (x : ByteArray) (w : World) (h : Strs w a len cap L) (hl : Plain.Asc sless L) (hm : len ≤ 140737488351232) :
    Calls Try.prog 15 #[.slice a len cap, .string x] w fun e w' => e = .returned (.bool (hasB L x)) ∧ w' = w := by
  have HL : Hid (L.length = len) := h.hlen
  have HS : Hid (Plain.Asc sless L) := hl
  clear hl
  by_cases h0 : len ≤ 0
  · clear h
    go_enter Try.func15, Try.ntmps15
    go_wp2
    refine wp_loop_rounds 1 ?_
    rw [rounds_succ]
    go_wp2
    go_ret
    exact ⟨ret_bool (hasB_no HS.out (lo := 0) (fun t ht h => by omega) (fun t ht h => by have := HL.out; omega) (by have := HL.out; omega)), rfl⟩
  · obtain ⟨b, off, rfl, hb, hc⟩ := h.cells (by omega)
    clear h
    go_enter Try.func15, Try.ntmps15
    go_wp2
    go_loop [5, 6, 7] (fun lo hi _ => ∃ l h : Nat, l ≤ h ∧ h ≤ len ∧ lo = .int .i64 l ∧ hi = .int .i64 h ∧ Hid (∀ t (ht : t < L.length), t < l → sless L[t] x = true) ∧ Hid (∀ t (ht : t < L.length), h ≤ t → sless L[t] x = false)) (fun lo hi _ => (intOf hi).toNat - (intOf lo).toNat)
    case atStart => exact ⟨0, len, by omega, by omega, rfl, rfl, fun t ht h => by omega, fun t ht h => by have := HL.out; omega⟩
    case round =>
      obtain ⟨l, h, hlh, hhl, rfl, rfl, R1, R2⟩ := hrel
      by_cases hlt : l < h
      · obtain ⟨y, hy, hcy⟩ := cell_at HL.out hc (l + (h - l) / 2) (by omega)
        clear hc
        go_wp2
        · go_round
          case rel => exact ⟨l + (h - l) / 2 + 1, h, by omega, by omega, by go_num, rfl, lo_step HS.out hy.out ‹_›, R2⟩
          case measure => simp [intOf]; omega
        · go_round
          case rel => exact ⟨l, l + (h - l) / 2, by omega, by omega, rfl, by go_num, R1, hi_step HS.out hy.out (by first | assumption | (have := ‹¬ Op.bytesLess _ _ = true›; simpa using this))⟩
          case measure => simp [intOf]; omega
      · have R2' : Hid (∀ t (ht : t < L.length), l ≤ t → sless L[t] x = false) := fun t ht htl => R2 t ht (by omega)
        by_cases hlt' : l < len
        · obtain ⟨y, hy, hcy⟩ := cell_at HL.out hc l hlt'
          go_wp2
          go_ret
          exact ⟨ret_bool (hasB_at HS.out R1.out R2'.out hy.out), rfl⟩
        · go_wp2
          go_ret
          exact ⟨ret_bool (hasB_no HS.out R1.out R2'.out (by have := HL.out; omega)), rfl⟩

/-! ### b1Clone -/
theorem Try.info9 : (Try.prog.info? 9).map (fun i => (i.zero, i.size, i.bytes)) = some (some (.string ByteArray.empty), 1, 16) := by kernel_rfl

theorem Strs_of_row {w : World} {B g len cap : Nat} {xs : List Value} {L : List ByteArray} (hlen : L.length = len) (h : w.ownsRow B 9 1 (.slice (some ⟨g, 0, none⟩) len cap) len xs)
    (hx : ∀ j (hj : j < L.length), xs[j]? = some (.string L[j])) : Strs w (some ⟨g, 0, none⟩) len cap L := by
  have hc : len ≤ cap := by
    rcases h.2 with ⟨h', _⟩ | ⟨g', cap', cur, h', _, _, hc, _⟩
    · simp at h'
    · simp at h'; obtain ⟨_, rfl⟩ := h'; exact hc
  refine ⟨hlen, hc, fun h' => (by cases h'), fun _ => ⟨g, 0, rfl, (h.lt g rfl).2, fun i hi => ?_⟩⟩
  rw [Nat.zero_add, h.cellAt i (by omega)]
  exact hx i hi

theorem clone_step {xs : List Value} {L : List ByteArray} {x : ByteArray} {k : Nat} {g : k < L.length} (hlen : xs.length = L.length) (hx : x = L[k]) (hr : ∀ j (hj : j < L.length), j < k → xs[j]? = some (.string L[j])) :
    ∀ j (hj : j < L.length), j < k + 1 → (xs.set k (.string x))[j]? = some (.string L[j]) := by
  intro j hj hjk
  by_cases e : j = k
  · subst e; rw [List.getElem?_set_self (by omega), hx]
  · rw [List.getElem?_set_ne (by omega)]; exact hr j hj (by omega)

set_option maxHeartbeats 1000000 in
theorem clone_any (a : Option Addr) (len cap : Nat) (L : List ByteArray) (w : World) (h : Strs w a len cap L) (hm : 16 * len ≤ 140737488351232) :
    Calls Try.prog 13 #[.slice a len cap] w fun e w' => ∃ a' cap', e = .returned (.slice a' len cap') ∧ Strs w' a' len cap' L ∧ Below w.heap.size w w' := by
  have HL : Hid (L.length = len) := h.hlen
  have q22 : ∀ (w : World) (a : Option Addr) (n c n' c' : Nat), (binOp .eql 22 (.slice a n c) (.slice none n' c')).run Try.prog w = .ok (.bool a.isNone) w := fun w a n c n' c' => Lib.run_eql_slice_nil w _ _ a n c n' c' Try.underlying22
  obtain ⟨i0, hi, hz0, hz1, hz2⟩ := info_parts Try.info9
  cases a with
  | none =>
    have h1 := h.hnil rfl
    have h2 := h.hcap
    have h3 : len = 0 := by omega
    subst h3 h1
    go_enter Try.func13, Try.ntmps13
    go_wp2
    go_ret
    exact ⟨_, _, rfl, h, Below.refl _ _⟩
  | some ad =>
    have hcell : ∀ k, k < len → ∃ b off x, ad = ⟨b, off, none⟩ ∧ b < w.heap.size ∧ Hid (∃ g : k < L.length, x = L[k]) ∧ w.cell? ⟨b, off + k, none⟩ = some (.string x) := by
      intro k hk
      obtain ⟨b, off, e, hb, hc⟩ := h.cells (by omega)
      have := HL.out
      exact ⟨b, off, _, Option.some.inj e, hb, ⟨by omega, rfl⟩, hc k (by omega)⟩
    by_cases h0 : len ≤ 0
    · clear hcell
      go_enter Try.func13, Try.ntmps13
      go_wp2_with (at_make; refine wpList_make_full _ rfl _ _ 22 rfl w.heap.size 9 i0 (.string ByteArray.empty) 1 Try.underlying22 hi hz0 hz1 _ _ _ _ len rfl rfl (by omega) (by omega) (by rw [hz2]; omega) (by unfold maxLen; omega) (Nat.le_refl _) ?_; intro w0 hown0 hgrow0)
      refine wp_loop_rounds 1 ?_
      rw [rounds_succ]
      go_wp2
      go_ret
      exact ⟨_, _, rfl, Strs_of_row HL.out hown0 (fun j hj => by have := HL.out; omega), (Below.refl _ _).grown hgrow0 (Nat.le_refl _) (fun k h => by cases h)⟩
    · obtain ⟨b, off, e, hb, hc⟩ := h.cells (by omega)
      obtain rfl := Option.some.inj e
      clear e h hcell
      go_enter Try.func13, Try.ntmps13
      go_wp2_with (at_make; refine wpList_make_full _ rfl _ _ 22 rfl w.heap.size 9 i0 (.string ByteArray.empty) 1 Try.underlying22 hi hz0 hz1 _ _ _ _ len rfl rfl (by omega) (by omega) (by rw [hz2]; omega) (by unfold maxLen; omega) (Nat.le_refl _) ?_; intro w0 hown0 hgrow0)
      go_loopw [4] (fun i wr => ∃ (k : Nat) (xs : List Value), k ≤ len ∧ i = .int .i64 k ∧ wr.ownsRow w.heap.size 9 1 (.slice (some ⟨w.heap.size, 0, none⟩) len len) len xs ∧ Hid (∀ j (hj : j < L.length), j < k → xs[j]? = some (.string L[j])) ∧ Below w.heap.size w wr) (fun i _ => len - (intOf i).toNat)
      case atStart => exact ⟨0, _, by omega, rfl, hown0, fun j hj h => by omega, (Below.refl _ _).grown hgrow0 (Nat.le_refl _) (fun k h => by cases h)⟩
      case round =>
        obtain ⟨k, xs, hk, rfl, hown, hrel, hbel⟩ := hrel
        by_cases hlt : k < len
        · obtain ⟨x, hx, hcx⟩ := cell_at HL.out hc k hlt
          have hcx' : wr.cell? ⟨b, off + k, none⟩ = some (.string x) := (hbel.cell (p := ⟨b, off + k, none⟩) hb).trans hcx
          have hxs : xs.length = len := by have := hown.1; omega
          obtain ⟨v, hv⟩ : ∃ v, wr.cell? ⟨w.heap.size, k, none⟩ = some v := ⟨xs[k]'(by omega), by rw [hown.cellAt k (by omega)]; exact List.getElem?_eq_getElem (by omega)⟩
          have hf := hown.frozenAt k
          have HX : Hid (xs.length = len) := hxs
          have HO := hown.stored k (.string x)
          clear hc hcx hxs
          go_wp2
          go_roundw
          case rel => exact ⟨k + 1, _, by omega, by go_num, HO.1, clone_step (HX.out.trans HL.out.symm) hx.out hrel.out, hbel.setCell (Nat.le_refl _) _⟩
          case measure => simp [intOf]; omega
        · go_wp2
          go_ret
          exact ⟨_, _, rfl, Strs_of_row HL.out hown (fun j hj => hrel.out j hj (by have := HL.out; omega)), hbel⟩

end Go.Proofs.Qxb6604169a
