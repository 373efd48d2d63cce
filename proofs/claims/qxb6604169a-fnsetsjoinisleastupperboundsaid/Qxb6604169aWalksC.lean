/-
  THE CONTRACTS OF ZZMakeSet, ZZSetElems, (Sets).Below, b1Below.
-/
import Derived.Test.Qxb6604169aWalksA
namespace Go.Proofs.Qxb6604169a
open Go.RowKit

set_option maxHeartbeats 400000 in
theorem mk_any (a : Option Addr) (n c : Nat) (w : World) :
    Calls Try.prog 27 #[.slice a n c] w fun e w' => e = .returned (.agg #[.slice a n c]) ∧ Below w.heap.size w w' := by
  go_enter Try.func27, Try.ntmps27
  go_wp2
  refine bodyPost_ret (v := .agg #[.slice a n c]) (by simp [results, Try.results27, go_sem]) rfl ⟨rfl, ?_⟩
  exact (Below.refl _ _).alloc (Nat.le_refl _) _

set_option maxHeartbeats 400000 in
theorem elems_any (a : Option Addr) (n c : Nat) (w : World) :
    Calls Try.prog 25 #[.agg #[.slice a n c]] w fun e w' => e = .returned (.slice a n c) ∧ Below w.heap.size w w' := by
  go_enter Try.func25, Try.ntmps25
  go_wp2
  go_ret
  exact ⟨rfl, (Below.refl _ _).alloc (Nat.le_refl _) _⟩

/-! ### (Sets).Below -/
def subB (A B : List ByteArray) : Bool := A.all (hasB B)
theorem subB_iff {A B : List ByteArray} : subB A B = true ↔ ∀ z ∈ A, z ∈ B := by
  rw [subB, List.all_eq_true]
  exact ⟨fun h z hz => hasB_iff.1 (h z hz), fun h z hz => hasB_iff.2 (h z hz)⟩
theorem subB_no {A B : List ByteArray} {x : ByteArray} (hx : x ∈ A) (h : x ∉ B) : false = subB A B := by
  cases e : subB A B with
  | false => rfl
  | true => exact absurd (subB_iff.1 e x hx) h
theorem subB_long {A B : List ByteArray} (hA : Plain.Asc sless A) (hB : Plain.Asc sless B) (h : B.length < A.length) : false = subB A B := by
  cases e : subB A B with
  | false => rfl
  | true => have := Plain.asc_length_le sto hA hB (subB_iff.1 e); omega
theorem subB_yes {A B : List ByteArray} (h : ∀ i (hi : i < A.length), A[i] ∈ B) : true = subB A B := by
  refine (subB_iff.2 ?_).symm
  intro z hz
  obtain ⟨i, hi, rfl⟩ := List.getElem_of_mem hz
  exact h i hi

/-- Behind the inner loop the element is not there. -/
theorem below_no {A B : List ByteArray} (hB : Plain.Asc sless B) {x : ByteArray} {k j : Nat} {g : k < A.length} (hx : x = A[k]) (h1 : ∀ t (ht : t < B.length), t < j → sless B[t] x = true)
    (h2 : ∀ (h : j < B.length), sless B[j] x = false ∧ B[j] ≠ x) : false = subB A B :=
  subB_no (x := x) (by rw [hx]; exact List.getElem_mem g) (Plain.not_mem_of sto hB h1 h2)
/-- The element is there: what the outer loop's relation says one round on. -/
theorem below_next {A B : List ByteArray} (hA : Plain.Asc sless A) {x y : ByteArray} {k j : Nat} {g : k < A.length} {g' : j < B.length} (hx : x = A[k]) (hy : y = B[j]) (hxy : y = x) (h1 : ∀ t (ht : t < B.length), t < j → sless B[t] x = true) :
    ∀ t (ht : t < B.length), t < j + 1 → ∀ (h : k + 1 < A.length), sless B[t] A[k + 1] = true := by
  intro t ht htj h
  have hlt := hA.at (Nat.lt_succ_self k) h
  by_cases e : t = j
  · subst e; rw [← hy, hxy, hx]; exact hlt
  · exact sto.tr _ _ _ (h1 t ht (by omega)) (by rw [hx]; exact hlt)
theorem below_mem {A B : List ByteArray} {x y : ByteArray} {k j : Nat} {g : k < A.length} {g' : j < B.length} (hx : x = A[k]) (hy : y = B[j]) (hxy : y = x) (h : ∀ i (hi : i < A.length), i < k → A[i] ∈ B) : ∀ i (hi : i < A.length), i < k + 1 → A[i] ∈ B := by
  intro i hi hik
  by_cases e : i = k
  · subst e; rw [← hx, ← hxy, hy]; exact List.getElem_mem g'
  · exact h i hi (by omega)
theorem below_skip {B : List ByteArray} {x y : ByteArray} {j : Nat} {g' : j < B.length} (hy : y = B[j]) (h : Op.bytesLess y.toList x.toList = true) (h1 : ∀ t (ht : t < B.length), t < j → sless B[t] x = true) : ∀ t (ht : t < B.length), t < j + 1 → sless B[t] x = true := by
  intro t ht htj
  by_cases e : t = j
  · subst e; rw [← hy]; exact h
  · exact h1 t ht (by omega)

/-- An old cell behind three new blocks. -/
theorem cell3 {w : World} {b : Nat} (h : b < w.heap.size) (o1 o2 o3 : Obj) (p : Nat) : (((w.alloc o1).alloc o2).alloc o3).cell? ⟨b, p, none⟩ = w.cell? ⟨b, p, none⟩ := by
  have hb : Below w.heap.size w (((w.alloc o1).alloc o2).alloc o3) := (((Below.refl _ _).alloc (Nat.le_refl _) _).alloc (by simp) _).alloc (by simp; omega) _
  exact hb.cell (p := ⟨b, p, none⟩) h

set_option maxHeartbeats 2000000 in
theorem Below_any (a b : Option Addr) (la ca lb cb : Nat) (A B : List ByteArray) (w : World) (hA : Strs w a la ca A) (hB : Strs w b lb cb B) (sA : Plain.Asc sless A) (sB : Plain.Asc sless B) (ma : la ≤ 140737488351232) (mb : lb ≤ 140737488351232) :
    Calls Try.prog 28 #[.agg #[], .agg #[.slice a la ca], .agg #[.slice b lb cb]] w fun e w' => e = .returned (.bool (subB A B)) ∧ Below w.heap.size w w' := by
  have HA : Hid (A.length = la) := hA.hlen
  have HB : Hid (B.length = lb) := hB.hlen
  have SA : Hid (Plain.Asc sless A) := sA
  have SB : Hid (Plain.Asc sless B) := sB
  clear sA sB
  by_cases hlong : lb < la
  · clear hA hB
    go_enter Try.func28, Try.ntmps28
    go_wp2
    go_ret
    exact ⟨ret_bool (subB_long SA.out SB.out (by have := HA.out; have := HB.out; omega)), (((Below.refl _ _).alloc (Nat.le_refl _) _).alloc (by simp) _).alloc (by simp; omega) _⟩
  by_cases h0 : la ≤ 0
  · clear hA hB
    go_enter Try.func28, Try.ntmps28
    go_wp2
    refine wp_loop_rounds 1 ?_
    rw [rounds_succ]
    go_wp2
    go_ret
    exact ⟨ret_bool (subB_yes fun i hi => by have := HA.out; omega), (((Below.refl _ _).alloc (Nat.le_refl _) _).alloc (by simp) _).alloc (by simp; omega) _⟩
  · obtain ⟨ba, oa, rfl, hba, hca⟩ := hA.cells (by omega)
    obtain ⟨bb, ob, rfl, hbb, hcb⟩ := hB.cells (by omega)
    clear hA hB
    go_enter Try.func28, Try.ntmps28
    go_wp2
    go_loop [7, 9, 20] (fun sj _ si => ∃ j k : Nat, k ≤ la ∧ j ≤ lb ∧ sj = .int .i64 j ∧ si = .int .i64 k ∧ Hid (∀ i (hi : i < A.length), i < k → A[i] ∈ B) ∧ Hid (∀ t (ht : t < B.length), t < j → ∀ (h : k < A.length), sless B[t] A[k] = true)) (fun _ _ si => la - (intOf si).toNat)
    case atStart => exact ⟨0, 0, by omega, by omega, rfl, rfl, fun i hi h => by omega, fun t ht h => by omega⟩
    case round =>
      obtain ⟨j, k, hk, hj, rfl, rfl, R1, R2⟩ := hrel
      by_cases hlt : k < la
      · obtain ⟨x, hx, hcx0⟩ := cell_at HA.out hca k hlt
        have hcx := fun o1 o2 o3 => (cell3 hba o1 o2 o3 (oa + k)).trans hcx0
        clear hca hcx0
        go_wp2
        go_loop [7] (fun sj => ∃ j : Nat, j ≤ lb ∧ sj = .int .i64 j ∧ Hid (∀ t (ht : t < B.length), t < j → sless B[t] x = true)) (fun sj => lb - (intOf sj).toNat)
        case atStart => exact ⟨j, hj, rfl, fun t ht htj => by rw [hx.out]; exact R2.out t ht htj _⟩
        case round =>
          obtain ⟨j', hj', rfl, R3⟩ := hrel
          by_cases hlt' : j' < lb
          · obtain ⟨y, hy, hcy0⟩ := cell_at HB.out hcb j' hlt'
            have hcy := fun o1 o2 o3 => (cell3 hbb o1 o2 o3 (ob + j')).trans hcy0
            have hjb : ((j' : Int) == (lb : Int)) = false := by simp; omega
            clear hcb hcy0
            go_wp2
            · go_round
              case rel => exact ⟨j' + 1, by omega, by go_num, below_skip hy.out ‹_› R3.out⟩
              case measure => simp [intOf]; omega
            · go_ret
              refine ⟨ret_bool (below_no SB.out hx.out R3.out fun _ => ?_), (((Below.refl _ _).alloc (Nat.le_refl _) _).alloc (by simp) _).alloc (by simp; omega) _⟩
              rw [← hy.out]
              exact ⟨‹_›, neq_of ‹_›⟩
            · go_round
              case rel => exact ⟨j' + 1, k + 1, by omega, by omega, by go_num, by go_num, below_mem hx.out hy.out (eq_of ‹_›) R1.out, below_next SA.out hx.out hy.out (eq_of ‹_›) R3.out⟩
              case measure => simp [intOf]; omega
          · clear hcb
            go_wp2
            go_ret
            exact ⟨ret_bool (below_no SB.out hx.out R3.out fun h => by have := HB.out; omega), (((Below.refl _ _).alloc (Nat.le_refl _) _).alloc (by simp) _).alloc (by simp; omega) _⟩
      · clear hca hcb
        go_wp2
        go_ret
        exact ⟨ret_bool (subB_yes fun i hi => R1.out i hi (by have := HA.out; omega)), (((Below.refl _ _).alloc (Nat.le_refl _) _).alloc (by simp) _).alloc (by simp; omega) _⟩

/-! ### b1Below -/
set_option maxHeartbeats 1000000 in
theorem below_any (a b : Option Addr) (la ca lb cb : Nat) (A B : List ByteArray) (w : World) (hA : Strs w a la ca A) (hB : Strs w b lb cb B) (sA : Plain.Asc sless A) (sB : Plain.Asc sless B) (ma : la ≤ 140737488351232) (mb : lb ≤ 140737488351232) :
    Calls Try.prog 19 #[.slice a la ca, .slice b lb cb] w fun e w' => e = .returned (.bool (subB A B)) ∧ Below w.heap.size w w' := by
  have SA : Hid (Plain.Asc sless A) := sA
  have SB : Hid (Plain.Asc sless B) := sB
  clear sA sB
  go_enter Try.func19, Try.ntmps19
  go_wp2_with fail
  refine (mk_any a la ca _).mono ?_
  rintro e w1 ⟨rfl, hb1⟩
  go_wp2_with fail
  refine (mk_any b lb cb _).mono ?_
  rintro e w2 ⟨rfl, hb2⟩
  have hb12 : Below w.heap.size w w2 := hb1.trans (hb2.mono hb1.size)
  go_wp2_with fail
  refine (Below_any a b la ca lb cb A B w2 (hA.below hb12) (hB.below hb12) SA.out SB.out ma mb).mono ?_
  rintro e w3 ⟨rfl, hb3⟩
  go_wp2
  go_ret
  exact ⟨rfl, hb12.trans (hb3.mono hb12.size)⟩

end Go.Proofs.Qxb6604169a
