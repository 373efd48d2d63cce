/-
  (*reader).field AND ZZField: what they answer, and what they move.
-/
import Derived.Test.Qxb6600904aBase
namespace Go.Proofs.Qxb6600904a
set_option linter.unusedVariables false
open Go.RowKit

/-- A string's bytes, as numbers. -/
def nums (s : ByteArray) : List Int := s.data.toList.map fun b => (b.toNat : Int)
theorem nums_length (s : ByteArray) : (nums s).length = s.size := by
  unfold nums; rw [List.length_map, Array.length_toList]; rfl
/-- "name": -/
def tokTail (nm : List Int) : List Int := 34 :: (nm ++ [34, 58])
/-- The token. -/
def tok (first : Bool) (nm : List Int) : List Int := if first then tokTail nm else 44 :: tokTail nm
theorem tokTail_length (nm : List Int) : (tokTail nm).length = 3 + nm.length := by simp [tokTail]; omega

/-! ### The plain facts -/
theorem take_three (Q : List Int) (n : Nat) (h : n + 3 ≤ Q.length) : Q.take (n + 3) = (Q[0]'(by omega)) :: ((Q.drop 1).take n ++ [Q[1 + n]'(by omega), Q[2 + n]'(by omega)]) := by
  match Q, h with
  | x :: Q', h =>
    simp at h
    rw [show n + 3 = (n + 2) + 1 by omega, List.take_succ_cons]
    congr 1
    rw [List.take_add, List.drop_succ_cons, List.drop_zero]
    congr 1
    rw [List.drop_eq_getElem_cons (show n < Q'.length by omega), List.drop_eq_getElem_cons (show n + 1 < Q'.length by omega)]
    simp only [List.take_succ_cons, List.take_zero]
    congr 1
    · simp [show 1 + n = n + 1 by omega]
    · simp [show 2 + n = n + 1 + 1 by omega]
theorem tok_iff (Q nm : List Int) (h : nm.length + 3 ≤ Q.length) :
    preB Q (tokTail nm) = true ↔ (Q[0]'(by omega)) = 34 ∧ (Q.drop 1).take nm.length = nm ∧ (Q[1 + nm.length]'(by omega)) = 34 ∧ (Q[2 + nm.length]'(by omega)) = 58 := by
  rw [preB_iff, List.prefix_iff_eq_take, tokTail_length, Nat.add_comm 3, take_three Q nm.length h]
  unfold tokTail
  constructor
  · intro e
    injection e with e1 e2
    have e3 := List.append_inj e2 (by simp; omega)
    obtain ⟨e4, e5⟩ := e3
    injection e5 with e6 e7
    injection e7 with e8 e9
    exact ⟨e1.symm, e4.symm, e6.symm, e8.symm⟩
  · rintro ⟨e1, e2, e3, e4⟩
    rw [e1, e2, e3, e4]
theorem tok_short (Q nm : List Int) (h : Q.length < 3 + nm.length) : preB Q (tokTail nm) = false := (preB_short (by rw [tokTail_length]; omega)).symm
theorem pre_cons (x y : Int) (Q P : List Int) : preB (x :: Q) (y :: P) = (decide (y = x) && preB Q P) := by
  unfold preB; rw [List.isPrefixOf_cons_cons]; congr 1

theorem nums_eq {xs : List Int} (h : ∀ x ∈ xs, 0 ≤ x ∧ x ≤ 255) (s : ByteArray) : ((strOfNums xs).toList == s.toList) = decide (xs = nums s) := by
  rw [Bool.eq_iff_iff, beq_iff_eq, decide_eq_true_eq, ByteArray.toList_eq, ByteArray.toList_eq, strOfNums_data]
  unfold nums
  constructor
  · intro e
    rw [← e, List.map_map]
    conv => lhs; rw [← List.map_id xs]
    apply List.map_congr_left
    intro x hx
    have := h x hx
    simp
    omega
  · intro e
    rw [e, List.map_map]
    conv => rhs; rw [← List.map_id s.data.toList]
    apply List.map_congr_left
    intro x _
    simp

/-! ### The walks -/
/-- The reader's four fields, in their block. -/
structure Rdr (w : World) (R : Nat) (a : Option Addr) (len cap : Nat) (pos : Int) (failed first : Bool) : Prop where
  c0 : w.cell? ⟨R, 0, none⟩ = some (.slice a len cap)
  c1 : w.cell? ⟨R, 1, none⟩ = some (.int .i64 pos)
  c2 : w.cell? ⟨R, 2, none⟩ = some (.bool failed)
  c3 : w.cell? ⟨R, 3, none⟩ = some (.bool first)
  f1 : w.frozen? ⟨R, 1, none⟩ = false
  f3 : w.frozen? ⟨R, 3, none⟩ = false

set_option maxHeartbeats 400000 in
theorem field_failed (R : Nat) (a : Option Addr) (len cap : Nat) (pos : Int) (first : Bool) (name : ByteArray) (w : World) (h : Rdr w R a len cap pos true first) :
    Calls Try.prog 30 #[.pointer (some ⟨R, 0, none⟩), .string name] w fun e w' => e = .returned (.bool false) ∧ Drawn w w' := by
  have c2 := h.c2
  clear h
  go_enter Try.func30, Try.ntmps30
  go_wp2
  go_ret
  exact ⟨rfl, Drawn.refl _⟩

/-- 'string(rest[1:1+len(name)])' in the walk's own words. -/
theorem conv_name {w : World} {b off len : Nat} {L : List Int} (hL : L.length = len) (hc : ∀ i (h : i < L.length), w.cell? ⟨b, off + i, none⟩ = some (.int .u8 L[i])) (o n : Nat) (h : o + n ≤ len) (nq c : Nat) :
    (convert 22 9 (.slice (some ⟨b, off + o, none⟩) n c)).run Try.prog (w.drewN nq) = .ok (.string (strOfNums ((L.drop o).take n))) (w.drewN nq) := by
  refine run_convert_bytes_arg (P := Try.prog) (w.drewN nq) 22 5 Try.underlying22 Try.underlying5 b (off + o) n c ((L.drop o).take n) (by simp; omega) ?_ 9 Try.underlying9
  intro i hi
  show w.cell? _ = _
  rw [Nat.add_assoc, hc (o + i) (by omega)]
  simp [List.getD, hi, show o + i < L.length by omega]

theorem pre_comma_no {L : List Int} {len pos : Nat} {y : Int} {nm : List Int} (hL : L.length = len) (hy : ∃ g : pos < L.length, y = L[pos]) (e : y = 44) (h : preB (L.drop pos) (tok false nm) = false) : preB (L.drop (pos + 1)) (tokTail nm) = false := by
  obtain ⟨g, hy⟩ := hy
  rw [List.drop_eq_getElem_cons g, show tok false nm = 44 :: tokTail nm from rfl, pre_cons, ← hy, e] at h
  simpa using h
theorem pre_comma_yes {L : List Int} {len pos : Nat} {nm : List Int} (hL : L.length = len) (h : preB (L.drop pos) (tok false nm) = true) : pos < len ∧ (∀ g : pos < L.length, L[pos] = 44) ∧ preB (L.drop (pos + 1)) (tokTail nm) = true := by
  by_cases g : pos < L.length
  · rw [List.drop_eq_getElem_cons g, show tok false nm = 44 :: tokTail nm from rfl, pre_cons] at h
    simp at h
    exact ⟨by omega, fun _ => h.1.symm, h.2⟩
  · rw [List.drop_eq_nil_of_le (by omega)] at h
    cases h
theorem tok_long {L : List Int} {len o n : Nat} {nm : List Int} (hL : L.length = len) (hn : nm.length = n) (h : preB (L.drop o) (tokTail nm) = true) : o + (3 + n) ≤ len := by
  have := (preB_iff.1 h).length_le
  rw [tokTail_length, List.length_drop] at this
  omega
theorem tok_parts {L : List Int} {len o n : Nat} {nm xs : List Int} {x0 x1 x2 : Int} (hL : L.length = len) (hn : nm.length = n) (h0 : ∃ g : o < L.length, x0 = L[o]) (h1 : ∃ g : o + (1 + n) < L.length, x1 = L[o + (1 + n)]) (h2 : ∃ g : o + (2 + n) < L.length, x2 = L[o + (2 + n)]) (hxs : xs = (L.drop (o + 1)).take n) :
    preB (L.drop o) (tokTail nm) = true ↔ x0 = 34 ∧ xs = nm ∧ x1 = 34 ∧ x2 = 58 := by
  obtain ⟨g0, h0⟩ := h0
  obtain ⟨g1, h1⟩ := h1
  obtain ⟨g2, h2⟩ := h2
  subst hn
  rw [tok_iff (L.drop o) nm (by rw [List.length_drop]; omega)]
  rw [List.getElem_drop, List.getElem_drop, List.getElem_drop, List.drop_drop, ← hxs]
  rw [h0, h1, h2]
  exact Iff.rfl
theorem tok_all {L : List Int} {len o n : Nat} {nm xs : List Int} {x0 x1 x2 : Int} (hL : L.length = len) (hn : nm.length = n) (h0 : ∃ g : o < L.length, x0 = L[o]) (h1 : ∃ g : o + (1 + n) < L.length, x1 = L[o + (1 + n)]) (h2 : ∃ g : o + (2 + n) < L.length, x2 = L[o + (2 + n)]) (hxs : xs = (L.drop (o + 1)).take n)
    (e0 : x0 = 34) (e1 : xs = nm) (e2 : x1 = 34) (e3 : x2 = 58) (_ : o ≤ len) : preB (L.drop o) (tokTail nm) = true := (tok_parts hL hn h0 h1 h2 hxs).2 ⟨e0, e1, e2, e3⟩
theorem tok_each {L : List Int} {len o n : Nat} {nm xs : List Int} {x0 x1 x2 : Int} (hL : L.length = len) (hn : nm.length = n) (h0 : ∃ g : o < L.length, x0 = L[o]) (h1 : ∃ g : o + (1 + n) < L.length, x1 = L[o + (1 + n)]) (h2 : ∃ g : o + (2 + n) < L.length, x2 = L[o + (2 + n)]) (hxs : xs = (L.drop (o + 1)).take n)
    (h : preB (L.drop o) (tokTail nm) = true) : x0 = 34 ∧ xs = nm ∧ x1 = 34 ∧ x2 = 58 := (tok_parts hL hn h0 h1 h2 hxs).1 h

set_option maxHeartbeats 4000000 in
theorem fieldT_no (R : Nat) (a : Option Addr) (pos len cap : Nat) (L : List Int) (name : ByteArray) (w : World) (h : Rdr w R a len cap pos false true) (hB : Bys w a len cap L) (hpos : pos ≤ len) (hlen : len ≤ 1048576) (hn : name.size ≤ 1048576)
    (hm : preB (L.drop pos) (tok true (nums name)) = false) :
    Calls Try.prog 30 #[.pointer (some ⟨R, 0, none⟩), .string name] w fun e w' => e = .returned (.bool false) ∧ Drawn w w' := by
  have hcap := hB.hcap
  have HL := hide hB.hlen
  have HM := hide hm
  have HN := hide (nums_length name)
  have c0 := h.c0; have c1 := h.c1; have c2 := h.c2; have c3 := h.c3; have f1 := h.f1; have f3 := h.f3
  clear hm h
  have HM2 : Hid (preB (L.drop pos) (tokTail (nums name)) = false) := unhide HM
  clear HM
  by_cases hd0 : len < pos + (3 + name.size)
  · have hd0b : decide (((len - pos : Nat) : Int) < 3 + (name.size : Int)) = true := by simp; omega
    clear HM2 HL HN hB
    by_cases hcp : cap = pos
    all_goals
      cases a
      all_goals
        go_enter Try.func30, Try.ntmps30
        go_wp2
        go_quiet (fail)
        go_wp2
        all_goals (go_ret; exact ⟨rfl, Drawn.mk _ _⟩)
  obtain ⟨b, off, rfl, hb, hc⟩ := hB.cells (by omega)
  have HBY := hide hB.hby
  have hne : ¬ cap = pos := by omega
  clear hB
  obtain ⟨x0, hx0, hc0⟩ := cell_at (unhide HL) hc pos (by omega)
  obtain ⟨x1, hx1, hc1⟩ := cell_at (unhide HL) hc (pos + (1 + name.size)) (by omega)
  obtain ⟨x2, hx2, hc2⟩ := cell_at (unhide HL) hc (pos + (2 + name.size)) (by omega)
  have hcv := conv_name (unhide HL) hc (pos + 1) name.size (by omega)
  rw [← Nat.add_assoc] at hc1 hc2 hcv
  clear hc
  obtain ⟨xs, hxs⟩ : ∃ xs, xs = (L.drop (pos + 1)).take name.size := ⟨_, rfl⟩
  rw [← hxs] at hcv
  have HXS := hide hxs
  have hxb : ∀ x ∈ xs, 0 ≤ x ∧ x ≤ 255 := by intro x hx; rw [hxs] at hx; exact unhide HBY x (List.mem_of_mem_drop (List.mem_of_mem_take hx))
  have hcmp := nums_eq hxb name
  clear hxs hxb HBY
  by_cases e0 : x0 = 34
  · have E0 := hide e0
    have b0 : (x0 != 34) = false := by simp [e0]
    clear e0
    by_cases e1 : xs = nums name
    · have E1 := hide e1
      have b1 : (!(strOfNums xs).toList == name.toList) = false := by rw [hcmp]; simp [e1]
      clear e1 hcmp
      by_cases e2 : x1 = 34
      · have E2 := hide e2
        have b2 : (x1 != 34) = false := by simp [e2]
        clear e2
        by_cases e3 : x2 = 58
        · exact absurd (tok_all (unhide HL) (unhide HN) hx0.out hx1.out hx2.out (unhide HXS) (unhide E0) (unhide E1) (unhide E2) e3 (by omega)) (by rw [unhide HM2]; simp)
        · have b3 : (x2 != 58) = true := by simp [e3]
          clear e3 HM2 HL HN hx0 hx1 hx2 HXS E0 E1 E2
          go_enter Try.func30, Try.ntmps30
          go_wp2
          go_quiet (fail)
          go_wp2
          go_ret
          exact ⟨rfl, Drawn.mk _ _⟩
      · have b2 : (x1 != 34) = true := by simp [e2]
        clear e2 HM2 HL HN hx0 hx1 hx2 HXS E0 E1 hc2
        go_enter Try.func30, Try.ntmps30
        go_wp2
        go_quiet (fail)
        go_wp2
        go_ret
        exact ⟨rfl, Drawn.mk _ _⟩
    · have b1 : (!(strOfNums xs).toList == name.toList) = true := by rw [hcmp]; simp [e1]
      clear e1 hcmp HM2 HL HN hx0 hx1 hx2 HXS E0 hc2 hc1
      go_enter Try.func30, Try.ntmps30
      go_wp2
      go_quiet (fail)
      go_wp2
      go_ret
      exact ⟨rfl, Drawn.mk _ _⟩
  · have b0 : (x0 != 34) = true := by simp [e0]
    clear e0 hcmp HM2 HL HN hx0 hx1 hx2 HXS hc2 hc1 hcv
    go_enter Try.func30, Try.ntmps30
    go_wp2
    go_quiet (fail)
    go_wp2
    go_ret
    exact ⟨rfl, Drawn.mk _ _⟩
set_option maxHeartbeats 4000000 in
theorem fieldT_yes (R : Nat) (a : Option Addr) (pos len cap : Nat) (L : List Int) (name : ByteArray) (w : World) (h : Rdr w R a len cap pos false true) (hB : Bys w a len cap L) (hpos : pos ≤ len) (hlen : len ≤ 1048576) (hn : name.size ≤ 1048576)
    (hm : preB (L.drop pos) (tok true (nums name)) = true) :
    Calls Try.prog 30 #[.pointer (some ⟨R, 0, none⟩), .string name] w fun e w' => e = .returned (.bool true) ∧ ∃ n, w' = ((w.drewN n).setCell ⟨R, 1, none⟩ (.int .i64 ((pos : Int) + (tok true (nums name)).length))).setCell ⟨R, 3, none⟩ (.bool false) := by
  have hcap := hB.hcap
  have HL := hide hB.hlen
  have HM := hide hm
  have HN := hide (nums_length name)
  have c0 := h.c0; have c1 := h.c1; have c2 := h.c2; have c3 := h.c3; have f1 := h.f1; have f3 := h.f3
  clear hm h
  have HM2 : Hid (preB (L.drop pos) (tokTail (nums name)) = true) := unhide HM
  clear HM
  have hd0 : pos + (3 + name.size) ≤ len := tok_long (unhide HL) (unhide HN) (unhide HM2)
  obtain ⟨b, off, rfl, hb, hc⟩ := hB.cells (by omega)
  have HBY := hide hB.hby
  have hne : ¬ cap = pos := by omega
  clear hB
  obtain ⟨x0, hx0, hc0⟩ := cell_at (unhide HL) hc pos (by omega)
  obtain ⟨x1, hx1, hc1⟩ := cell_at (unhide HL) hc (pos + (1 + name.size)) (by omega)
  obtain ⟨x2, hx2, hc2⟩ := cell_at (unhide HL) hc (pos + (2 + name.size)) (by omega)
  have hcv := conv_name (unhide HL) hc (pos + 1) name.size (by omega)
  rw [← Nat.add_assoc] at hc1 hc2 hcv
  clear hc
  obtain ⟨xs, hxs⟩ : ∃ xs, xs = (L.drop (pos + 1)).take name.size := ⟨_, rfl⟩
  rw [← hxs] at hcv
  have hxb : ∀ x ∈ xs, 0 ≤ x ∧ x ≤ 255 := by intro x hx; rw [hxs] at hx; exact unhide HBY x (List.mem_of_mem_drop (List.mem_of_mem_take hx))
  have hcmp := nums_eq hxb name
  obtain ⟨e0, e1, e2, e3⟩ := tok_each (unhide HL) (unhide HN) hx0.out hx1.out hx2.out hxs (unhide HM2)
  have b0 : (x0 != 34) = false := by simp [e0]
  have b1 : (!(strOfNums xs).toList == name.toList) = false := by rw [hcmp]; simp [e1]
  have b2 : (x1 != 34) = false := by simp [e2]
  have b3 : (x2 != 58) = false := by simp [e3]
  have TL : Hid (((tok true (nums name)).length : Int) = 3 + (name.size : Int)) := by show _ = _; rw [show tok true (nums name) = tokTail (nums name) from rfl]; simp [tokTail_length, unhide HN]; try omega
  clear e0 e1 e2 e3 hcmp hxb hxs HM2 HL HN hx0 hx1 hx2 HBY
  go_enter Try.func30, Try.ntmps30
  go_wp2
  go_quiet (fail)
  go_wp2
  go_ret
  exact ⟨rfl, _, by rw [unhide TL]⟩

set_option maxHeartbeats 4000000 in
theorem fieldF_no (R : Nat) (a : Option Addr) (pos len cap : Nat) (L : List Int) (name : ByteArray) (w : World) (h : Rdr w R a len cap pos false false) (hB : Bys w a len cap L) (hpos : pos ≤ len) (hlen : len ≤ 1048576) (hn : name.size ≤ 1048576)
    (hm : preB (L.drop pos) (tok false (nums name)) = false) :
    Calls Try.prog 30 #[.pointer (some ⟨R, 0, none⟩), .string name] w fun e w' => e = .returned (.bool false) ∧ Drawn w w' := by
  have hcap := hB.hcap
  have HL := hide hB.hlen
  have HM := hide hm
  have HN := hide (nums_length name)
  have c0 := h.c0; have c1 := h.c1; have c2 := h.c2; have c3 := h.c3; have f1 := h.f1; have f3 := h.f3
  clear hm h
  by_cases hz : len ≤ pos
  · have hz0 : (((len - pos : Nat) : Int) == 0) = true := by simp; omega
    clear HM HL HN hB
    by_cases hcp : cap = pos
    all_goals
      cases a
      all_goals
        go_enter Try.func30, Try.ntmps30
        go_wp2
        go_quiet (fail)
        go_wp2
        all_goals (go_ret; exact ⟨rfl, Drawn.mk _ _⟩)
  have hz0 : (((len - pos : Nat) : Int) == 0) = false := by simp; omega
  obtain ⟨b, off, rfl, hb, hc⟩ := hB.cells (by omega)
  have HBY := hide hB.hby
  have hne : ¬ cap = pos := by omega
  obtain ⟨y, hy, hcy⟩ := cell_at (unhide HL) hc pos (by omega)
  clear hB
  by_cases hcomma : y = 44
  · have HC := hide hcomma
    have hyb : (y != 44) = false := by simp [hcomma]
    clear hcomma
    have HM2 : Hid (preB (L.drop (pos + 1)) (tokTail (nums name)) = false) := pre_comma_no (unhide HL) hy.out (unhide HC) (unhide HM)
    clear HM HC
    by_cases hd0 : len < (pos + 1) + (3 + name.size)
    · clear HM2 HL HN hc
      by_cases hcp : cap - pos = 1
      all_goals
        go_enter Try.func30, Try.ntmps30
        go_wp2
        go_quiet (fail)
        go_wp2
        all_goals (go_ret; exact ⟨rfl, Drawn.mk _ _⟩)
    have hne1 : ¬ cap - pos = 1 := by omega
    obtain ⟨x0, hx0, hc0⟩ := cell_at (unhide HL) hc (pos + 1) (by omega)
    obtain ⟨x1, hx1, hc1⟩ := cell_at (unhide HL) hc ((pos + 1) + (1 + name.size)) (by omega)
    obtain ⟨x2, hx2, hc2⟩ := cell_at (unhide HL) hc ((pos + 1) + (2 + name.size)) (by omega)
    have hcv := conv_name (unhide HL) hc ((pos + 1) + 1) name.size (by omega)
    rw [← Nat.add_assoc] at hc1 hc2 hcv
    rw [← Nat.add_assoc] at hc0
    rw [show off + (pos + 1) = off + pos + 1 by omega] at hc1 hc2 hcv
    clear hc
    obtain ⟨xs, hxs⟩ : ∃ xs, xs = (L.drop ((pos + 1) + 1)).take name.size := ⟨_, rfl⟩
    rw [← hxs] at hcv
    have HXS := hide hxs
    have hxb : ∀ x ∈ xs, 0 ≤ x ∧ x ≤ 255 := by intro x hx; rw [hxs] at hx; exact unhide HBY x (List.mem_of_mem_drop (List.mem_of_mem_take hx))
    have hcmp := nums_eq hxb name
    clear hxs hxb HBY
    by_cases e0 : x0 = 34
    · have E0 := hide e0
      have b0 : (x0 != 34) = false := by simp [e0]
      clear e0
      by_cases e1 : xs = nums name
      · have E1 := hide e1
        have b1 : (!(strOfNums xs).toList == name.toList) = false := by rw [hcmp]; simp [e1]
        clear e1 hcmp
        by_cases e2 : x1 = 34
        · have E2 := hide e2
          have b2 : (x1 != 34) = false := by simp [e2]
          clear e2
          by_cases e3 : x2 = 58
          · exact absurd (tok_all (unhide HL) (unhide HN) hx0.out hx1.out hx2.out (unhide HXS) (unhide E0) (unhide E1) (unhide E2) e3 (by omega)) (by rw [unhide HM2]; simp)
          · have b3 : (x2 != 58) = true := by simp [e3]
            clear e3 HM2 HL HN hx0 hx1 hx2 HXS E0 E1 E2 hy
            go_enter Try.func30, Try.ntmps30
            go_wp2
            go_quiet (fail)
            go_wp2
            go_ret
            exact ⟨rfl, Drawn.mk _ _⟩
        · have b2 : (x1 != 34) = true := by simp [e2]
          clear e2 HM2 HL HN hx0 hx1 hx2 HXS E0 E1 hc2 hy
          go_enter Try.func30, Try.ntmps30
          go_wp2
          go_quiet (fail)
          go_wp2
          go_ret
          exact ⟨rfl, Drawn.mk _ _⟩
      · have b1 : (!(strOfNums xs).toList == name.toList) = true := by rw [hcmp]; simp [e1]
        clear e1 hcmp HM2 HL HN hx0 hx1 hx2 HXS E0 hc2 hc1 hy
        go_enter Try.func30, Try.ntmps30
        go_wp2
        go_quiet (fail)
        go_wp2
        go_ret
        exact ⟨rfl, Drawn.mk _ _⟩
    · have b0 : (x0 != 34) = true := by simp [e0]
      clear e0 hcmp HM2 HL HN hx0 hx1 hx2 HXS hc2 hc1 hcv hy
      go_enter Try.func30, Try.ntmps30
      go_wp2
      go_quiet (fail)
      go_wp2
      go_ret
      exact ⟨rfl, Drawn.mk _ _⟩
  · have hyb : (y != 44) = true := by simp [hcomma]
    clear hcomma HM HL HN hy hc HBY
    go_enter Try.func30, Try.ntmps30
    go_wp2
    go_quiet (fail)
    go_wp2
    go_ret
    exact ⟨rfl, Drawn.mk _ _⟩
set_option maxHeartbeats 4000000 in
theorem fieldF_yes (R : Nat) (a : Option Addr) (pos len cap : Nat) (L : List Int) (name : ByteArray) (w : World) (h : Rdr w R a len cap pos false false) (hB : Bys w a len cap L) (hpos : pos ≤ len) (hlen : len ≤ 1048576) (hn : name.size ≤ 1048576)
    (hm : preB (L.drop pos) (tok false (nums name)) = true) :
    Calls Try.prog 30 #[.pointer (some ⟨R, 0, none⟩), .string name] w fun e w' => e = .returned (.bool true) ∧ ∃ n, w' = ((w.drewN n).setCell ⟨R, 1, none⟩ (.int .i64 ((pos : Int) + (tok false (nums name)).length))).setCell ⟨R, 3, none⟩ (.bool false) := by
  have hcap := hB.hcap
  have HL := hide hB.hlen
  have HM := hide hm
  have HN := hide (nums_length name)
  have c0 := h.c0; have c1 := h.c1; have c2 := h.c2; have c3 := h.c3; have f1 := h.f1; have f3 := h.f3
  clear hm h
  obtain ⟨hz, hmy, hmt⟩ := pre_comma_yes (unhide HL) (unhide HM)
  have HM2 := hide hmt
  have HMY := hide hmy
  have hz0 : (((len - pos : Nat) : Int) == 0) = false := by simp; omega
  clear hmt hmy HM
  have hd0 : pos + 1 + (3 + name.size) ≤ len := tok_long (unhide HL) (unhide HN) (unhide HM2)
  obtain ⟨b, off, rfl, hb, hc⟩ := hB.cells (by omega)
  have HBY := hide hB.hby
  have hne : ¬ cap = pos := by omega
  clear hB
  obtain ⟨y, hy, hcy⟩ := cell_at (unhide HL) hc pos (by omega)
  have hyb : (y != 44) = false := by obtain ⟨g, e⟩ := hy.out; have := unhide HMY g; simp [e, this]
  have hne1 : ¬ cap - pos = 1 := by omega
  obtain ⟨x0, hx0, hc0⟩ := cell_at (unhide HL) hc (pos + 1) (by omega)
  obtain ⟨x1, hx1, hc1⟩ := cell_at (unhide HL) hc ((pos + 1) + (1 + name.size)) (by omega)
  obtain ⟨x2, hx2, hc2⟩ := cell_at (unhide HL) hc ((pos + 1) + (2 + name.size)) (by omega)
  have hcv := conv_name (unhide HL) hc ((pos + 1) + 1) name.size (by omega)
  rw [← Nat.add_assoc] at hc1 hc2 hcv
  rw [← Nat.add_assoc] at hc0
  rw [show off + (pos + 1) = off + pos + 1 by omega] at hc1 hc2 hcv
  clear hc
  obtain ⟨xs, hxs⟩ : ∃ xs, xs = (L.drop ((pos + 1) + 1)).take name.size := ⟨_, rfl⟩
  rw [← hxs] at hcv
  have hxb : ∀ x ∈ xs, 0 ≤ x ∧ x ≤ 255 := by intro x hx; rw [hxs] at hx; exact unhide HBY x (List.mem_of_mem_drop (List.mem_of_mem_take hx))
  have hcmp := nums_eq hxb name
  obtain ⟨e0, e1, e2, e3⟩ := tok_each (unhide HL) (unhide HN) hx0.out hx1.out hx2.out hxs (unhide HM2)
  have b0 : (x0 != 34) = false := by simp [e0]
  have b1 : (!(strOfNums xs).toList == name.toList) = false := by rw [hcmp]; simp [e1]
  have b2 : (x1 != 34) = false := by simp [e2]
  have b3 : (x2 != 58) = false := by simp [e3]
  have TL : Hid (((tok false (nums name)).length : Int) = 3 + (name.size : Int) + 1) := by show _ = _; rw [show tok false (nums name) = 44 :: tokTail (nums name) from rfl]; simp [tokTail_length, unhide HN]; try omega
  clear e0 e1 e2 e3 hcmp hxb hxs HM2 HL HN hx0 hx1 hx2 HBY hy HMY hz
  go_enter Try.func30, Try.ntmps30
  go_wp2
  go_quiet (fail)
  go_wp2
  go_ret
  exact ⟨rfl, _, by rw [unhide TL]⟩

end Go.Proofs.Qxb6600904a
