/-
  ZZPlainTimestamp: plainTimestamp's answer, handed on.
-/
import Derived.Test.Qxb6600904aPlain
namespace Go.Proofs.Qxb6600904a
set_option linter.unusedVariables false
set_option linter.unusedSimpArgs false
open Go.RowKit

/-- The answer, field by field. -/
def PlainTo (L : List Int) (x y z : Int) (b : Bool) : Prop := (∃ A B N, Shape L A B N ∧ x = val A ∧ y = val B ∧ z = val N ∧ b = true) ∨ (¬ Shaped L ∧ x = 0 ∧ y = 0 ∧ z = 0 ∧ b = false)
theorem PlainOut.to {L : List Int} {e : Ending} (h : PlainOut L e) : ∃ x y z b, e = .returned (.tuple #[.agg #[.int .i64 x, .int .u64 y, .int .i64 z], .bool b]) ∧ PlainTo L x y z b := by
  rcases h with ⟨A, B, N, hS, rfl⟩ | ⟨hn, rfl⟩
  · exact ⟨_, _, _, _, rfl, Or.inl ⟨A, B, N, hS, rfl, rfl, rfl, rfl⟩⟩
  · exact ⟨_, _, _, _, rfl, Or.inr ⟨hn, rfl, rfl, rfl, rfl⟩⟩
/-- Its answer, behind a name. -/
def PlainEnd (L : List Int) (e : Ending) : Prop := ∃ x y z b, e = .returned (.tuple #[.agg #[.int .i64 x, .int .u64 y, .int .i64 z], .bool b]) ∧ PlainTo L x y z b

set_option maxHeartbeats 1000000 in
theorem zplain_any (a : Option Addr) (len cap : Nat) (L : List Int) (w : World) (h : Bys w a len cap L) (hm : len ≤ 1048576) :
    Calls Try.prog 16 #[.slice a len cap] w fun e w' => PlainEnd L e ∧ Below w.heap.size w w' := by
  go_enter Try.func16, Try.ntmps16
  go_wp2_with fail
  refine (plain_any a len cap L _ (h.below ((Below.refl _ _).alloc (Nat.le_refl _) _)) hm).mono ?_
  rintro e w1 ⟨ho, hb⟩
  obtain ⟨x, y, z, b, rfl, hp⟩ := ho.to
  have HP := hide hp
  clear hp ho
  have c0 : w1.cell? ⟨w.heap.size, 0, none⟩ = some (.int .i64 0) := (hb.cell (p := ⟨w.heap.size, 0, none⟩) (by simp)).trans (by simp [go_sem])
  have c1 : w1.cell? ⟨w.heap.size, 1, none⟩ = some (.int .u64 0) := (hb.cell (p := ⟨w.heap.size, 1, none⟩) (by simp)).trans (by simp [go_sem])
  have c2 : w1.cell? ⟨w.heap.size, 2, none⟩ = some (.int .i64 0) := (hb.cell (p := ⟨w.heap.size, 2, none⟩) (by simp)).trans (by simp [go_sem])
  have f : ∀ j, w1.frozen? ⟨w.heap.size, j, none⟩ = false := fun j => (hb.frozen (p := ⟨w.heap.size, j, none⟩) (by simp)).trans (by simp [go_sem])
  have f0 := f 0
  have f1 := f 1
  have f2 := f 2
  clear f
  have HB := hide hb
  clear hb
  go_wp2
  have hb : Below w.heap.size w w1 := ((Below.refl _ _).alloc (Nat.le_refl _) _).trans ((unhide HB).mono (by simp))
  exact bodyPost_ret (v := .tuple #[.agg #[.int .i64 x, .int .u64 y, .int .i64 z], .bool b]) (by simp [results, Try.results16, go_sem, c0, c1, c2]) rfl ⟨⟨x, y, z, b, rfl, unhide HP⟩, ((hb.setCell (Nat.le_refl _) _).setCell (Nat.le_refl _) _).setCell (Nat.le_refl _) _⟩
end Go.Proofs.Qxb6600904a
