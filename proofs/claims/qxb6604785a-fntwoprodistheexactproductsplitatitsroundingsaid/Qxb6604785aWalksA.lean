/-
  THE WALKS OF split, twoProd, ZZtwoProd.
-/
import Derived.Test.Qxb6604785aRows
import Derived.Test.Qxb6604785aWords
import Derived.WalkKit
import Derived.WalkSpells
import Derived.WalkLawsBesides
import Derived.RegionTactic
import Derived.Deep.QuietTactic
import Derived.BigQuiet
namespace Go.Proofs.Qxb6604785a
open Go.RowKit

theorem run_mul {x y r : Nat} (h : Ieee.double.mul x y = some r) (t : TypeId) (w : World) : (binOp .mul t (.float .f64 x) (.float .f64 y)).run Try.prog w = .ok (.float .f64 r) w := run_float_arith w .mul t .f64 x y r h
theorem run_add {x y r : Nat} (h : Ieee.double.add x y = some r) (t : TypeId) (w : World) : (binOp .add t (.float .f64 x) (.float .f64 y)).run Try.prog w = .ok (.float .f64 r) w := run_float_arith w .add t .f64 x y r h
theorem run_sub {x y r : Nat} (h : Ieee.double.sub x y = some r) (t : TypeId) (w : World) : (binOp .sub t (.float .f64 x) (.float .f64 y)).run Try.prog w = .ok (.float .f64 r) w := run_float_arith w .sub t .f64 x y r h

/-- A float is stored as every one-cell value is (the kit has this law for integers, bools, strings, pointers and slices). -/
theorem run_store_float (P : Program) (w : World) (a : Addr) (m : Mode) (k : FloatKind) (b : Nat) : (store a (.float k b) m).run P w = stored P w a (.float k b) m := run_store P w a _ m rfl
attribute [local go_sem] run_store_float

set_option maxHeartbeats 400000 in
theorem split_walk {a c t h l : Nat} (S : Fl.SplitW a c t h l) (w : World) :
    Calls Try.prog 23 #[.float .f64 a] w fun e w' => e = .returned (.tuple #[.float .f64 h, .float .f64 l]) ∧ w' = w := by
  have r1 : ∀ t w, (binOp .mul t (.float .f64 4728779608772575232) (.float .f64 a)).run Try.prog w = .ok (.float .f64 c) w := run_mul S.e1
  have r2 := run_sub S.e2
  have r3 := run_sub S.e3
  have r4 := run_sub S.e4
  go_enter Try.func23, Try.ntmps23
  go_wp2
  go_ret2
  exact ⟨rfl, rfl⟩

set_option maxHeartbeats 1000000 in
theorem twoProd_walk {a b ca ta ha la cb tb hb lb p m1 s1 m2 s2 m3 s3 m4 e : Nat} (SA : Fl.SplitW a ca ta ha la) (SB : Fl.SplitW b cb tb hb lb) (R : Fl.ProdW a b ha la hb lb p m1 s1 m2 s2 m3 s3 m4 e) (w : World) :
    Calls Try.prog 19 #[.float .f64 a, .float .f64 b] w fun x w' => x = .returned (.agg #[.float .f64 p, .float .f64 e]) ∧ Below w.heap.size w w' := by
  have r0 := run_mul R.f0
  have r1 := run_mul R.f1
  have r2 := run_sub R.f2
  have r3 := run_mul R.f3
  have r4 := run_add R.f4
  have r5 := run_mul R.f5
  have r6 := run_add R.f6
  have r7 := run_mul R.f7
  have r8 := run_add R.f8
  go_enter Try.func19, Try.ntmps19
  go_wp2_with fail
  refine (split_walk SA _).mono ?_
  rintro x w1 ⟨rfl, rfl⟩
  go_wp2_with fail
  refine (split_walk SB _).mono ?_
  rintro x w2 ⟨rfl, rfl⟩
  go_wp2
  refine bodyPost_ret (v := .agg #[.float .f64 p, .float .f64 e]) (by simp [results, Try.results19, go_sem]) rfl ⟨rfl, ?_⟩
  exact (Below.refl _ _).alloc (Nat.le_refl _) _

theorem Below.drewN {B : Nat} {w w' : World} (h : Below B w w') (n : Nat) : Below B w (w'.drewN n) := ⟨h.os, h.tape, h.output, h.size, h.block⟩

set_option maxHeartbeats 1000000 in
theorem ZZtwoProd_walk {a b ca ta ha la cb tb hb lb p m1 s1 m2 s2 m3 s3 m4 e : Nat} (SA : Fl.SplitW a ca ta ha la) (SB : Fl.SplitW b cb tb hb lb) (R : Fl.ProdW a b ha la hb lb p m1 s1 m2 s2 m3 s3 m4 e) (w : World) :
    Calls Try.prog 8 #[.float .f64 a, .float .f64 b] w fun x w' => x = .returned (.tuple #[.float .f64 p, .float .f64 e]) ∧ Below w.heap.size w w' := by
  go_enter Try.func8, Try.ntmps8
  go_wp2_with fail
  refine (twoProd_walk SA SB R _).mono ?_
  rintro x w1 ⟨rfl, d1⟩
  go_wp2
  go_quiet (fail)
  go_wp2
  go_ret2
  exact ⟨rfl, Below.drewN (d1.alloc d1.size _) _⟩

end Go.Proofs.Qxb6604785a
