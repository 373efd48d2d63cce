/-
  ZZField: a reader built, asked once, its fields handed back.
-/
import Derived.Test.Qxb6600904aField
namespace Go.Proofs.Qxb6600904a
set_option linter.unusedVariables false
set_option linter.unusedSimpArgs false
open Go.RowKit

/-- Does the reader find the field? -/
def matchB (L : List Int) (pos : Nat) (failed first : Bool) (name : ByteArray) : Bool := !failed && preB (L.drop pos) (tok first (nums name))

theorem Rdr.start (w : World) (a : Option Addr) (len cap : Nat) (pos : Int) (failed first : Bool) : Rdr (w.alloc (.cells #[.slice a len cap, .int .i64 pos, .bool failed, .bool first] 51)) w.heap.size a len cap pos failed first := by
  refine ⟨?_, ?_, ?_, ?_, ?_, ?_⟩
  all_goals simp [go_sem]

theorem below_drewN1 {B : Nat} {w w' : World} (h : Below B w w') (n : Nat) : Below B w (w'.drewN n) := ⟨h.os, h.tape, h.output, h.size, h.block⟩
theorem below_drewN2 {B : Nat} {w w' : World} (h : Below B w w') (n m : Nat) : Below B w ((w'.drewN n).drewN m) := ⟨h.os, h.tape, h.output, h.size, h.block⟩

theorem field_no (R : Nat) (a : Option Addr) (pos len cap : Nat) (L : List Int) (failed first : Bool) (name : ByteArray) (w : World) (h : Rdr w R a len cap pos failed first) (hB : Bys w a len cap L) (hpos : pos ≤ len) (hlen : len ≤ 1048576) (hn : name.size ≤ 1048576)
    (hm : matchB L pos failed first name = false) :
    Calls Try.prog 30 #[.pointer (some ⟨R, 0, none⟩), .string name] w fun e w' => e = .returned (.bool false) ∧ Drawn w w' := by
  cases failed with
  | true => exact field_failed R a len cap pos first name w h
  | false =>
    have hm' : preB (L.drop pos) (tok first (nums name)) = false := by simpa [matchB] using hm
    cases first with
    | true => exact fieldT_no R a pos len cap L name w h hB hpos hlen hn hm'
    | false => exact fieldF_no R a pos len cap L name w h hB hpos hlen hn hm'

theorem field_yes (R : Nat) (a : Option Addr) (pos len cap : Nat) (L : List Int) (failed first : Bool) (name : ByteArray) (w : World) (h : Rdr w R a len cap pos failed first) (hB : Bys w a len cap L) (hpos : pos ≤ len) (hlen : len ≤ 1048576) (hn : name.size ≤ 1048576)
    (hm : matchB L pos failed first name = true) :
    Calls Try.prog 30 #[.pointer (some ⟨R, 0, none⟩), .string name] w fun e w' => e = .returned (.bool true) ∧ ∃ n, w' = ((w.drewN n).setCell ⟨R, 1, none⟩ (.int .i64 ((pos : Int) + (tok first (nums name)).length))).setCell ⟨R, 3, none⟩ (.bool false) := by
  have hf : failed = false ∧ preB (L.drop pos) (tok first (nums name)) = true := by simpa [matchB] using hm
  obtain ⟨rfl, hm'⟩ := hf
  cases first with
  | true => exact fieldT_yes R a pos len cap L name w h hB hpos hlen hn hm'
  | false => exact fieldF_yes R a pos len cap L name w h hB hpos hlen hn hm'

set_option maxHeartbeats 1000000 in
theorem zfield_no (a : Option Addr) (pos len cap : Nat) (L : List Int) (failed first : Bool) (name : ByteArray) (w : World) (hB : Bys w a len cap L) (hpos : pos ≤ len) (hlen : len ≤ 1048576) (hn : name.size ≤ 1048576)
    (hm : matchB L pos failed first name = false) :
    Calls Try.prog 21 #[.slice a len cap, .int .i64 pos, .bool failed, .bool first, .string name] w fun e w' => e = .returned (.tuple #[.bool false, .int .i64 pos, .bool failed, .bool first]) ∧ Below w.heap.size w w' := by
  have HM := hide hm
  clear hm
  go_enter Try.func21, Try.ntmps21
  go_wp2_with fail
  refine (field_no w.heap.size a pos len cap L failed first name _ (Rdr.start w a len cap pos failed first) (hB.below ((Below.refl _ _).alloc (Nat.le_refl _) _)) hpos hlen hn (unhide HM)).mono ?_
  rintro e w1 ⟨rfl, n, rfl⟩
  go_wp2
  go_quiet (fail)
  go_wp2
  exact bodyPost_ret (v := .tuple #[.bool false, .int .i64 pos, .bool failed, .bool first]) (by simp [results, Try.results21, go_sem]) rfl ⟨rfl, below_drewN2 ((Below.refl _ _).alloc (Nat.le_refl _) _) _ _⟩

set_option maxHeartbeats 1000000 in
theorem zfield_yes (a : Option Addr) (pos len cap : Nat) (L : List Int) (failed first : Bool) (name : ByteArray) (w : World) (hB : Bys w a len cap L) (hpos : pos ≤ len) (hlen : len ≤ 1048576) (hn : name.size ≤ 1048576)
    (hm : matchB L pos failed first name = true) :
    Calls Try.prog 21 #[.slice a len cap, .int .i64 pos, .bool failed, .bool first, .string name] w fun e w' => e = .returned (.tuple #[.bool true, .int .i64 ((pos : Int) + (tok first (nums name)).length), .bool failed, .bool false]) ∧ Below w.heap.size w w' := by
  have HM := hide hm
  clear hm
  go_enter Try.func21, Try.ntmps21
  go_wp2_with fail
  refine (field_yes w.heap.size a pos len cap L failed first name _ (Rdr.start w a len cap pos failed first) (hB.below ((Below.refl _ _).alloc (Nat.le_refl _) _)) hpos hlen hn (unhide HM)).mono ?_
  rintro e w1 ⟨rfl, n, rfl⟩
  go_wp2
  go_quiet (fail)
  go_wp2
  exact bodyPost_ret (v := .tuple #[.bool true, .int .i64 ((pos : Int) + (tok first (nums name)).length), .bool failed, .bool false]) (by simp [results, Try.results21, go_sem]) rfl ⟨rfl, below_drewN1 (((below_drewN1 ((Below.refl _ _).alloc (Nat.le_refl _) _) _).setCell (Nat.le_refl _) _).setCell (Nat.le_refl _) _) _⟩

end Go.Proofs.Qxb6600904a
