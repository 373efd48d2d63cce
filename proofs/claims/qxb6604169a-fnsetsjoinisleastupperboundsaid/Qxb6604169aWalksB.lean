/-
  THE CONTRACTS OF zzBytes_..: some bool; the world is as it was.
-/
import Derived.Test.Qxb6604169aBase
namespace Go.Proofs.Qxb6604169a
open Go.RowKit

set_option maxHeartbeats 4000000 in
theorem bytes10 (a b : Option Addr) (la ca lb cb : Nat) (A B : List ByteArray) (w : World) (hA : Strs w a la ca A) (hB : Strs w b lb cb B) (ma : la ≤ 9223372036854775807) (mb : lb ≤ 9223372036854775807) :
    Calls Try.prog 10 #[.slice a la ca, .slice b lb cb] w fun e w' => IsBool e ∧ w' = w := by
  have HA : Hid (Strs w a la ca A) := hA
  have HB : Hid (Strs w b lb cb B) := hB
  clear hA hB
  go_enter Try.func10, Try.ntmps10
  go_wp2
  all_goals try (go_ret; exact ⟨IsBool.mk _, rfl⟩)
  go_loop [5, 6] (fun n i => ∃ k m : Nat, k ≤ la ∧ i = .int .i64 k ∧ n = .int .i64 m ∧ m ≤ 1048576) (fun _ i => la - (intOf i).toNat)
  case atStart => exact ⟨0, la, by omega, rfl, by go_num, by omega⟩
  case round =>
    obtain ⟨k1, m1, hk1, rfl, rfl, hm1⟩ := hrel
    by_cases hlt1 : k1 < la
    · obtain ⟨b, off, rfl, hb, hc⟩ := HA.out.cells (by omega)
      obtain ⟨x, hx, hcx⟩ := cell_at HA.out.hlen hc k1 hlt1
      clear hc hx
      go_wp2
      all_goals try (go_ret; exact ⟨IsBool.mk _, rfl⟩)
      go_round
      case rel => exact ⟨k1 + 1, m1 + x.size, by omega, by go_num, by go_num, by omega⟩
      case measure => simp [intOf]; omega
    · go_wp2
      all_goals try (go_ret; exact ⟨IsBool.mk _, rfl⟩)
      go_loop [5, 7] (fun n i => ∃ k m : Nat, k ≤ lb ∧ i = .int .i64 k ∧ n = .int .i64 m ∧ m ≤ 1048576) (fun _ i => lb - (intOf i).toNat)
      case atStart => exact ⟨0, m1 + lb, by omega, rfl, by go_num, by omega⟩
      case round =>
        obtain ⟨k2, m2, hk2, rfl, rfl, hm2⟩ := hrel
        by_cases hlt2 : k2 < lb
        · obtain ⟨b, off, rfl, hb, hc⟩ := HB.out.cells (by omega)
          obtain ⟨x, hx, hcx⟩ := cell_at HB.out.hlen hc k2 hlt2
          clear hc hx
          go_wp2
          all_goals try (go_ret; exact ⟨IsBool.mk _, rfl⟩)
          go_round
          case rel => exact ⟨k2 + 1, m2 + x.size, by omega, by go_num, by go_num, by omega⟩
          case measure => simp [intOf]; omega
        · go_wp2
          all_goals try (go_ret; exact ⟨IsBool.mk _, rfl⟩)

set_option maxHeartbeats 4000000 in
theorem bytes18 (a b : Option Addr) (la ca lb cb : Nat) (A B : List ByteArray) (w : World) (hA : Strs w a la ca A) (hB : Strs w b lb cb B) (ma : la ≤ 9223372036854775807) (mb : lb ≤ 9223372036854775807) :
    Calls Try.prog 18 #[.slice a la ca, .slice b lb cb] w fun e w' => IsBool e ∧ w' = w := by
  have HA : Hid (Strs w a la ca A) := hA
  have HB : Hid (Strs w b lb cb B) := hB
  clear hA hB
  go_enter Try.func18, Try.ntmps18
  go_wp2
  all_goals try (go_ret; exact ⟨IsBool.mk _, rfl⟩)
  go_loop [5, 6] (fun n i => ∃ k m : Nat, k ≤ la ∧ i = .int .i64 k ∧ n = .int .i64 m ∧ m ≤ 1048576) (fun _ i => la - (intOf i).toNat)
  case atStart => exact ⟨0, la, by omega, rfl, by go_num, by omega⟩
  case round =>
    obtain ⟨k1, m1, hk1, rfl, rfl, hm1⟩ := hrel
    by_cases hlt1 : k1 < la
    · obtain ⟨b, off, rfl, hb, hc⟩ := HA.out.cells (by omega)
      obtain ⟨x, hx, hcx⟩ := cell_at HA.out.hlen hc k1 hlt1
      clear hc hx
      go_wp2
      all_goals try (go_ret; exact ⟨IsBool.mk _, rfl⟩)
      go_round
      case rel => exact ⟨k1 + 1, m1 + x.size, by omega, by go_num, by go_num, by omega⟩
      case measure => simp [intOf]; omega
    · go_wp2
      all_goals try (go_ret; exact ⟨IsBool.mk _, rfl⟩)
      go_loop [5, 7] (fun n i => ∃ k m : Nat, k ≤ lb ∧ i = .int .i64 k ∧ n = .int .i64 m ∧ m ≤ 1048576) (fun _ i => lb - (intOf i).toNat)
      case atStart => exact ⟨0, m1 + lb, by omega, rfl, by go_num, by omega⟩
      case round =>
        obtain ⟨k2, m2, hk2, rfl, rfl, hm2⟩ := hrel
        by_cases hlt2 : k2 < lb
        · obtain ⟨b, off, rfl, hb, hc⟩ := HB.out.cells (by omega)
          obtain ⟨x, hx, hcx⟩ := cell_at HB.out.hlen hc k2 hlt2
          clear hc hx
          go_wp2
          all_goals try (go_ret; exact ⟨IsBool.mk _, rfl⟩)
          go_round
          case rel => exact ⟨k2 + 1, m2 + x.size, by omega, by go_num, by go_num, by omega⟩
          case measure => simp [intOf]; omega
        · go_wp2
          all_goals try (go_ret; exact ⟨IsBool.mk _, rfl⟩)

set_option maxHeartbeats 4000000 in
theorem bytes16 (a b c : Option Addr) (la ca lb cb lc cc : Nat) (A B C : List ByteArray) (w : World) (hA : Strs w a la ca A) (hB : Strs w b lb cb B) (hC : Strs w c lc cc C) (ma : la ≤ 9223372036854775807) (mb : lb ≤ 9223372036854775807) (mc : lc ≤ 9223372036854775807) :
    Calls Try.prog 16 #[.slice a la ca, .slice b lb cb, .slice c lc cc] w fun e w' => IsBool e ∧ w' = w := by
  have HA : Hid (Strs w a la ca A) := hA
  have HB : Hid (Strs w b lb cb B) := hB
  have HC : Hid (Strs w c lc cc C) := hC
  clear hA hB hC
  go_enter Try.func16, Try.ntmps16
  go_wp2
  all_goals try (go_ret; exact ⟨IsBool.mk _, rfl⟩)
  go_loop [7, 8] (fun n i => ∃ k m : Nat, k ≤ la ∧ i = .int .i64 k ∧ n = .int .i64 m ∧ m ≤ 1048576) (fun _ i => la - (intOf i).toNat)
  case atStart => exact ⟨0, la, by omega, rfl, by go_num, by omega⟩
  case round =>
    obtain ⟨k1, m1, hk1, rfl, rfl, hm1⟩ := hrel
    by_cases hlt1 : k1 < la
    · obtain ⟨b, off, rfl, hb, hc⟩ := HA.out.cells (by omega)
      obtain ⟨x, hx, hcx⟩ := cell_at HA.out.hlen hc k1 hlt1
      clear hc hx
      go_wp2
      all_goals try (go_ret; exact ⟨IsBool.mk _, rfl⟩)
      go_round
      case rel => exact ⟨k1 + 1, m1 + x.size, by omega, by go_num, by go_num, by omega⟩
      case measure => simp [intOf]; omega
    · go_wp2
      all_goals try (go_ret; exact ⟨IsBool.mk _, rfl⟩)
      go_loop [7, 9] (fun n i => ∃ k m : Nat, k ≤ lb ∧ i = .int .i64 k ∧ n = .int .i64 m ∧ m ≤ 1048576) (fun _ i => lb - (intOf i).toNat)
      case atStart => exact ⟨0, m1 + lb, by omega, rfl, by go_num, by omega⟩
      case round =>
        obtain ⟨k2, m2, hk2, rfl, rfl, hm2⟩ := hrel
        by_cases hlt2 : k2 < lb
        · obtain ⟨b, off, rfl, hb, hc⟩ := HB.out.cells (by omega)
          obtain ⟨x, hx, hcx⟩ := cell_at HB.out.hlen hc k2 hlt2
          clear hc hx
          go_wp2
          all_goals try (go_ret; exact ⟨IsBool.mk _, rfl⟩)
          go_round
          case rel => exact ⟨k2 + 1, m2 + x.size, by omega, by go_num, by go_num, by omega⟩
          case measure => simp [intOf]; omega
        · go_wp2
          all_goals try (go_ret; exact ⟨IsBool.mk _, rfl⟩)
          go_loop [7, 10] (fun n i => ∃ k m : Nat, k ≤ lc ∧ i = .int .i64 k ∧ n = .int .i64 m ∧ m ≤ 1048576) (fun _ i => lc - (intOf i).toNat)
          case atStart => exact ⟨0, m2 + lc, by omega, rfl, by go_num, by omega⟩
          case round =>
            obtain ⟨k3, m3, hk3, rfl, rfl, hm3⟩ := hrel
            by_cases hlt3 : k3 < lc
            · obtain ⟨b, off, rfl, hb, hc⟩ := HC.out.cells (by omega)
              obtain ⟨x, hx, hcx⟩ := cell_at HC.out.hlen hc k3 hlt3
              clear hc hx
              go_wp2
              all_goals try (go_ret; exact ⟨IsBool.mk _, rfl⟩)
              go_round
              case rel => exact ⟨k3 + 1, m3 + x.size, by omega, by go_num, by go_num, by omega⟩
              case measure => simp [intOf]; omega
            · go_wp2
              all_goals try (go_ret; exact ⟨IsBool.mk _, rfl⟩)

set_option maxHeartbeats 4000000 in
theorem bytes20 (a b c : Option Addr) (la ca lb cb lc cc : Nat) (A B C : List ByteArray) (w : World) (hA : Strs w a la ca A) (hB : Strs w b lb cb B) (hC : Strs w c lc cc C) (ma : la ≤ 9223372036854775807) (mb : lb ≤ 9223372036854775807) (mc : lc ≤ 9223372036854775807) :
    Calls Try.prog 20 #[.slice a la ca, .slice b lb cb, .slice c lc cc] w fun e w' => IsBool e ∧ w' = w := by
  have HA : Hid (Strs w a la ca A) := hA
  have HB : Hid (Strs w b lb cb B) := hB
  have HC : Hid (Strs w c lc cc C) := hC
  clear hA hB hC
  go_enter Try.func20, Try.ntmps20
  go_wp2
  all_goals try (go_ret; exact ⟨IsBool.mk _, rfl⟩)
  go_loop [7, 8] (fun n i => ∃ k m : Nat, k ≤ la ∧ i = .int .i64 k ∧ n = .int .i64 m ∧ m ≤ 1048576) (fun _ i => la - (intOf i).toNat)
  case atStart => exact ⟨0, la, by omega, rfl, by go_num, by omega⟩
  case round =>
    obtain ⟨k1, m1, hk1, rfl, rfl, hm1⟩ := hrel
    by_cases hlt1 : k1 < la
    · obtain ⟨b, off, rfl, hb, hc⟩ := HA.out.cells (by omega)
      obtain ⟨x, hx, hcx⟩ := cell_at HA.out.hlen hc k1 hlt1
      clear hc hx
      go_wp2
      all_goals try (go_ret; exact ⟨IsBool.mk _, rfl⟩)
      go_round
      case rel => exact ⟨k1 + 1, m1 + x.size, by omega, by go_num, by go_num, by omega⟩
      case measure => simp [intOf]; omega
    · go_wp2
      all_goals try (go_ret; exact ⟨IsBool.mk _, rfl⟩)
      go_loop [7, 9] (fun n i => ∃ k m : Nat, k ≤ lb ∧ i = .int .i64 k ∧ n = .int .i64 m ∧ m ≤ 1048576) (fun _ i => lb - (intOf i).toNat)
      case atStart => exact ⟨0, m1 + lb, by omega, rfl, by go_num, by omega⟩
      case round =>
        obtain ⟨k2, m2, hk2, rfl, rfl, hm2⟩ := hrel
        by_cases hlt2 : k2 < lb
        · obtain ⟨b, off, rfl, hb, hc⟩ := HB.out.cells (by omega)
          obtain ⟨x, hx, hcx⟩ := cell_at HB.out.hlen hc k2 hlt2
          clear hc hx
          go_wp2
          all_goals try (go_ret; exact ⟨IsBool.mk _, rfl⟩)
          go_round
          case rel => exact ⟨k2 + 1, m2 + x.size, by omega, by go_num, by go_num, by omega⟩
          case measure => simp [intOf]; omega
        · go_wp2
          all_goals try (go_ret; exact ⟨IsBool.mk _, rfl⟩)
          go_loop [7, 10] (fun n i => ∃ k m : Nat, k ≤ lc ∧ i = .int .i64 k ∧ n = .int .i64 m ∧ m ≤ 1048576) (fun _ i => lc - (intOf i).toNat)
          case atStart => exact ⟨0, m2 + lc, by omega, rfl, by go_num, by omega⟩
          case round =>
            obtain ⟨k3, m3, hk3, rfl, rfl, hm3⟩ := hrel
            by_cases hlt3 : k3 < lc
            · obtain ⟨b, off, rfl, hb, hc⟩ := HC.out.cells (by omega)
              obtain ⟨x, hx, hcx⟩ := cell_at HC.out.hlen hc k3 hlt3
              clear hc hx
              go_wp2
              all_goals try (go_ret; exact ⟨IsBool.mk _, rfl⟩)
              go_round
              case rel => exact ⟨k3 + 1, m3 + x.size, by omega, by go_num, by go_num, by omega⟩
              case measure => simp [intOf]; omega
            · go_wp2
              all_goals try (go_ret; exact ⟨IsBool.mk _, rfl⟩)

set_option maxHeartbeats 4000000 in
theorem bytes21 (a b c : Option Addr) (la ca lb cb lc cc : Nat) (A B C : List ByteArray) (w : World) (hA : Strs w a la ca A) (hB : Strs w b lb cb B) (hC : Strs w c lc cc C) (ma : la ≤ 9223372036854775807) (mb : lb ≤ 9223372036854775807) (mc : lc ≤ 9223372036854775807) :
    Calls Try.prog 21 #[.slice a la ca, .slice b lb cb, .slice c lc cc] w fun e w' => IsBool e ∧ w' = w := by
  have HA : Hid (Strs w a la ca A) := hA
  have HB : Hid (Strs w b lb cb B) := hB
  have HC : Hid (Strs w c lc cc C) := hC
  clear hA hB hC
  go_enter Try.func21, Try.ntmps21
  go_wp2
  all_goals try (go_ret; exact ⟨IsBool.mk _, rfl⟩)
  go_loop [7, 8] (fun n i => ∃ k m : Nat, k ≤ la ∧ i = .int .i64 k ∧ n = .int .i64 m ∧ m ≤ 1048576) (fun _ i => la - (intOf i).toNat)
  case atStart => exact ⟨0, la, by omega, rfl, by go_num, by omega⟩
  case round =>
    obtain ⟨k1, m1, hk1, rfl, rfl, hm1⟩ := hrel
    by_cases hlt1 : k1 < la
    · obtain ⟨b, off, rfl, hb, hc⟩ := HA.out.cells (by omega)
      obtain ⟨x, hx, hcx⟩ := cell_at HA.out.hlen hc k1 hlt1
      clear hc hx
      go_wp2
      all_goals try (go_ret; exact ⟨IsBool.mk _, rfl⟩)
      go_round
      case rel => exact ⟨k1 + 1, m1 + x.size, by omega, by go_num, by go_num, by omega⟩
      case measure => simp [intOf]; omega
    · go_wp2
      all_goals try (go_ret; exact ⟨IsBool.mk _, rfl⟩)
      go_loop [7, 9] (fun n i => ∃ k m : Nat, k ≤ lb ∧ i = .int .i64 k ∧ n = .int .i64 m ∧ m ≤ 1048576) (fun _ i => lb - (intOf i).toNat)
      case atStart => exact ⟨0, m1 + lb, by omega, rfl, by go_num, by omega⟩
      case round =>
        obtain ⟨k2, m2, hk2, rfl, rfl, hm2⟩ := hrel
        by_cases hlt2 : k2 < lb
        · obtain ⟨b, off, rfl, hb, hc⟩ := HB.out.cells (by omega)
          obtain ⟨x, hx, hcx⟩ := cell_at HB.out.hlen hc k2 hlt2
          clear hc hx
          go_wp2
          all_goals try (go_ret; exact ⟨IsBool.mk _, rfl⟩)
          go_round
          case rel => exact ⟨k2 + 1, m2 + x.size, by omega, by go_num, by go_num, by omega⟩
          case measure => simp [intOf]; omega
        · go_wp2
          all_goals try (go_ret; exact ⟨IsBool.mk _, rfl⟩)
          go_loop [7, 10] (fun n i => ∃ k m : Nat, k ≤ lc ∧ i = .int .i64 k ∧ n = .int .i64 m ∧ m ≤ 1048576) (fun _ i => lc - (intOf i).toNat)
          case atStart => exact ⟨0, m2 + lc, by omega, rfl, by go_num, by omega⟩
          case round =>
            obtain ⟨k3, m3, hk3, rfl, rfl, hm3⟩ := hrel
            by_cases hlt3 : k3 < lc
            · obtain ⟨b, off, rfl, hb, hc⟩ := HC.out.cells (by omega)
              obtain ⟨x, hx, hcx⟩ := cell_at HC.out.hlen hc k3 hlt3
              clear hc hx
              go_wp2
              all_goals try (go_ret; exact ⟨IsBool.mk _, rfl⟩)
              go_round
              case rel => exact ⟨k3 + 1, m3 + x.size, by omega, by go_num, by go_num, by omega⟩
              case measure => simp [intOf]; omega
            · go_wp2
              all_goals try (go_ret; exact ⟨IsBool.mk _, rfl⟩)

end Go.Proofs.Qxb6604169a
