/-
  WHAT A SLICE OF STRINGS IS TO THE WALKS; the order on strings; the first contracts.
-/
import Derived.Test.Qxb6604169aRows
import Derived.Test.Qxb6604169aPlain
import Derived.WalkKit
import Derived.WalkSpells
import Derived.WalkLawsBesides
import Derived.RegionTactic
import Derived.Deep.QuietTactic
import Derived.BigQuiet
namespace Go.Proofs.Qxb6604169a
open Go.RowKit

/-- A slice of strings that lies in memory: 'len' strings L, one a cell. -/
structure Strs (w : World) (a : Option Addr) (len cap : Nat) (L : List ByteArray) : Prop where
  hlen : L.length = len
  hcap : len ≤ cap
  hnil : a = none → cap = 0
  cells : 0 < len → ∃ b off, a = some ⟨b, off, none⟩ ∧ b < w.heap.size ∧ ∀ i (h : i < L.length), w.cell? ⟨b, off + i, none⟩ = some (.string L[i])

theorem Strs.below {w w' : World} {a : Option Addr} {len cap : Nat} {L : List ByteArray} (h : Strs w a len cap L) (hb : Below w.heap.size w w') : Strs w' a len cap L :=
  ⟨h.hlen, h.hcap, h.hnil, fun h0 => by
    obtain ⟨b, off, e, hlt, hc⟩ := h.cells h0
    exact ⟨b, off, e, Nat.lt_of_lt_of_le hlt hb.size, fun i hi => (hb.cell (p := ⟨b, off + i, none⟩) hlt).trans (hc i hi)⟩⟩

/-- The order on strings. -/
def sless (a b : ByteArray) : Bool := Op.bytesLess a.toList b.toList

theorem bl_irr : ∀ a : List UInt8, Op.bytesLess a a = false
  | [] => rfl
  | x :: xs => by
    have := bl_irr xs
    simp [Op.bytesLess, this]
theorem bl_tr : ∀ a b c : List UInt8, Op.bytesLess a b = true → Op.bytesLess b c = true → Op.bytesLess a c = true
  | _, _, [], _, h => by simp [Op.bytesLess] at h
  | _, [], _ :: _, h, _ => by simp [Op.bytesLess] at h
  | [], _ :: _, _ :: _, _, _ => rfl
  | x :: xs, y :: ys, z :: zs, h1, h2 => by
    have ih := bl_tr xs ys zs
    simp only [Op.bytesLess, Bool.or_eq_true, Bool.and_eq_true, decide_eq_true_eq, beq_iff_eq] at h1 h2 ⊢
    rcases h1 with h1 | ⟨rfl, h1⟩
    · rcases h2 with h2 | ⟨rfl, h2⟩
      · exact Or.inl (UInt8.lt_trans h1 h2)
      · exact Or.inl h1
    · rcases h2 with h2 | ⟨rfl, h2⟩
      · exact Or.inl h2
      · exact Or.inr ⟨rfl, ih h1 h2⟩
theorem bl_tri : ∀ a b : List UInt8, Op.bytesLess a b = false → Op.bytesLess b a = false → a = b
  | [], [], _, _ => rfl
  | [], _ :: _, h, _ => by simp [Op.bytesLess] at h
  | _ :: _, [], _, h => by simp [Op.bytesLess] at h
  | x :: xs, y :: ys, h1, h2 => by
    have ih := bl_tri xs ys
    simp only [Op.bytesLess, Bool.or_eq_false_iff, Bool.and_eq_false_iff, decide_eq_false_iff_not, beq_eq_false_iff_ne] at h1 h2
    have e : x = y := UInt8.le_antisymm (UInt8.not_lt.1 h2.1) (UInt8.not_lt.1 h1.1)
    subst e
    rw [ih (h1.2.resolve_left (fun h => h rfl)) (h2.2.resolve_left (fun h => h rfl))]

theorem toList_inj {a b : ByteArray} (h : a.toList = b.toList) : a = b := by
  rw [ByteArray.toList_eq, ByteArray.toList_eq] at h; exact ByteArray.ext (Array.toList_inj.1 h)
theorem sto : Plain.Sto sless where
  irr a := bl_irr a.toList
  tr a b c := bl_tr a.toList b.toList c.toList
  tri a b h1 h2 := toList_inj (bl_tri a.toList b.toList h1 h2)

/-- Some bool came back. -/
def IsBool (e : Ending) : Prop := ∃ r, e = .returned (.bool r)
theorem IsBool.mk (r : Bool) : IsBool (.returned (.bool r)) := ⟨r, rfl⟩

/-- The world has at most drawn. -/
def Drawn (w w' : World) : Prop := ∃ n, w' = w.drewN n
theorem Drawn.refl (w : World) : Drawn w w := ⟨0, rfl⟩
theorem Drawn.mk (w : World) (n : Nat) : Drawn w (w.drewN n) := ⟨n, rfl⟩
theorem Drawn.below {w w' : World} (h : Drawn w w') : Below w.heap.size w w' := by
  obtain ⟨n, rfl⟩ := h
  exact ⟨rfl, rfl, rfl, Nat.le_refl _, fun _ _ => rfl⟩
theorem ret_bool {a b : Bool} (h : a = b) : Ending.returned (.bool a) = .returned (.bool b) := by rw [h]

/-- Empty, or at a known place. -/
theorem Strs.part {w : World} {a : Option Addr} {len cap : Nat} {L : List ByteArray} (h : Strs w a len cap L) :
    (len ≤ 0 ∧ L = []) ∨ (0 < len ∧ ∃ b off, a = some ⟨b, off, none⟩ ∧ b < w.heap.size ∧ ∀ i (h : i < L.length), w.cell? ⟨b, off + i, none⟩ = some (.string L[i])) := by
  rcases Nat.eq_zero_or_pos len with h0 | h0
  · exact Or.inl ⟨Nat.le_of_eq h0, List.eq_nil_of_length_eq_zero (h.hlen.trans h0)⟩
  · exact Or.inr ⟨h0, h.cells h0⟩

/-- What a round's walk wants of one element: a name for it, its cell. -/
theorem cell_at {w : World} {b off len : Nat} {L : List ByteArray} (hL : L.length = len) (hc : ∀ i (h : i < L.length), w.cell? ⟨b, off + i, none⟩ = some (.string L[i])) (k : Nat) (hk : k < len) :
    ∃ x, Hid (x = L[k]'(by omega)) ∧ w.cell? ⟨b, off + k, none⟩ = some (.string x) :=
  ⟨_, rfl, hc k (by omega)⟩

end Go.Proofs.Qxb6604169a
