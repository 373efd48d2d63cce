/-
  WHAT THE LAWS ON Join WANT: the plain laws at 'unionL', as Bools.
-/
import Derived.Test.Qxb6604169aTrio
import Derived.Test.Qxb6604169aWalksD
namespace Go.Proofs.Qxb6604169a
open Go.RowKit

theorem eqB_of {A B : List ByteArray} (h : A = B) : eqB A B = true := by simp [eqB, h]
theorem u_comm {A B : List ByteArray} (hA : Plain.Asc sless A) (hB : Plain.Asc sless B) : eqB (unionL A B) (unionL B A) = true := eqB_of (Plain.mrg_comm sto hA hB)
theorem u_assoc {A B C : List ByteArray} (hA : Plain.Asc sless A) (hB : Plain.Asc sless B) (hC : Plain.Asc sless C) : eqB (unionL (unionL A B) C) (unionL A (unionL B C)) = true := eqB_of (Plain.mrg_assoc sto hA hB hC)
theorem u_self {A : List ByteArray} (hA : Plain.Asc sless A) : eqB (unionL A A) A = true := eqB_of (Plain.mrg_self sto hA)
theorem u_again {A B : List ByteArray} (hA : Plain.Asc sless A) (hB : Plain.Asc sless B) : eqB (unionL (unionL A B) A) (unionL A B) = true := eqB_of (Plain.mrg_again sto hA hB)
theorem u_left (A B : List ByteArray) : subB A (unionL A B) = true := subB_iff.2 fun _ h => mem_union.2 (Or.inl h)
theorem u_right (A B : List ByteArray) : subB B (unionL A B) = true := subB_iff.2 fun _ h => mem_union.2 (Or.inr h)
theorem u_least {A B C : List ByteArray} (h1 : subB A C = true) (h2 : subB B C = true) : subB (unionL A B) C = true :=
  subB_iff.2 fun z h => (mem_union.1 h).elim (subB_iff.1 h1 z) (subB_iff.1 h2 z)
theorem u_eq_yes {A B : List ByteArray} (hA : Plain.Asc sless A) (hB : Plain.Asc sless B) (h : subB A B = true) : eqB (unionL A B) B = true := eqB_of ((Plain.sub_iff_mrg sto hA hB).1 (subB_iff.1 h))
theorem u_eq_no {A B : List ByteArray} (hA : Plain.Asc sless A) (hB : Plain.Asc sless B) (h : subB A B = false) : eqB (unionL A B) B = false := by
  cases e : eqB (unionL A B) B with
  | false => rfl
  | true =>
    have h1 : unionL A B = B := by simpa [eqB] using e
    rw [subB_iff.2 ((Plain.sub_iff_mrg sto hA hB).2 h1)] at h; cases h
theorem u_has_left {A B : List ByteArray} {x : ByteArray} (h : x ∈ A) : hasB (unionL A B) x = true := hasB_iff.2 (mem_union.2 (Or.inl h))
theorem u_has_right {A B : List ByteArray} {x : ByteArray} (h : x ∈ B) : hasB (unionL A B) x = true := hasB_iff.2 (mem_union.2 (Or.inr h))
theorem u_has {A B : List ByteArray} {x : ByteArray} (h : x ∈ unionL A B) (h1 : hasB A x = false) : hasB B x = true := by
  refine hasB_iff.2 ((mem_union.1 h).resolve_left fun h2 => ?_)
  rw [hasB_iff.2 h2] at h1; cases h1
theorem mem_of {A : List ByteArray} {x : ByteArray} {k : Nat} {g : k < A.length} (h : x = A[k]) : x ∈ A := by rw [h]; exact List.getElem_mem g

end Go.Proofs.Qxb6604169a
