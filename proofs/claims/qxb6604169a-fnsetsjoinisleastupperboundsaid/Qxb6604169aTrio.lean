/-
  THREE SLICES OF STRINGS CARRIED FROM WORLD TO WORLD.
-/
import Derived.Test.Qxb6604169aWalksB
import Derived.Test.Qxb6604169aWalksC
namespace Go.Proofs.Qxb6604169a
open Go.RowKit

structure Trio (w W : World) (a b c : Option Addr) (la ca lb cb lc cc : Nat) (A B C : List ByteArray) : Prop where
  bel : Below w.heap.size w W
  A : Strs W a la ca A
  B : Strs W b lb cb B
  C : Strs W c lc cc C

theorem Trio.step {w W W' : World} {a b c : Option Addr} {la ca lb cb lc cc : Nat} {A B C : List ByteArray} (T : Trio w W a b c la ca lb cb lc cc A B C) (h : Below W.heap.size W W') : Trio w W' a b c la ca lb cb lc cc A B C :=
  ⟨T.bel.trans (h.mono T.bel.size), T.A.below h, T.B.below h, T.C.below h⟩
theorem Trio.setA {w W W' : World} {a b c a' : Option Addr} {la ca lb cb lc cc ca' : Nat} {A B C : List ByteArray} (T : Trio w W a b c la ca lb cb lc cc A B C) (h : Below W.heap.size W W') (n : Strs W' a' la ca' A) : Trio w W' a' b c la ca' lb cb lc cc A B C :=
  ⟨T.bel.trans (h.mono T.bel.size), n, T.B.below h, T.C.below h⟩
theorem Trio.setB {w W W' : World} {a b c b' : Option Addr} {la ca lb cb lc cc cb' : Nat} {A B C : List ByteArray} (T : Trio w W a b c la ca lb cb lc cc A B C) (h : Below W.heap.size W W') (n : Strs W' b' lb cb' B) : Trio w W' a b' c la ca lb cb' lc cc A B C :=
  ⟨T.bel.trans (h.mono T.bel.size), T.A.below h, n, T.C.below h⟩
theorem Trio.setC {w W W' : World} {a b c c' : Option Addr} {la ca lb cb lc cc cc' : Nat} {A B C : List ByteArray} (T : Trio w W a b c la ca lb cb lc cc A B C) (h : Below W.heap.size W W') (n : Strs W' c' lc cc' C) : Trio w W' a b c' la ca lb cb lc cc' A B C :=
  ⟨T.bel.trans (h.mono T.bel.size), T.A.below h, T.B.below h, n⟩

theorem sub_self (A : List ByteArray) : subB A A = true := subB_iff.2 fun _ h => h
theorem sub_anti {A B : List ByteArray} (hA : Plain.Asc sless A) (hB : Plain.Asc sless B) (h1 : subB A B = true) (h2 : subB B A = true) : eqB A B = true := by
  have : A = B := Plain.asc_ext sto hA hB fun z => ⟨subB_iff.1 h1 z, subB_iff.1 h2 z⟩
  simp [eqB, this]
theorem sub_trans {A B C : List ByteArray} (h1 : subB A B = true) (h2 : subB B C = true) : subB A C = true :=
  subB_iff.2 fun z hz => subB_iff.1 h2 z (subB_iff.1 h1 z hz)

end Go.Proofs.Qxb6604169a
