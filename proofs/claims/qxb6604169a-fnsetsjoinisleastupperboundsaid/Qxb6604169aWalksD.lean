/-
  THE CONTRACTS OF (Sets).Join, b1Join.
-/
import Derived.Test.Qxb6604169aWalksC
namespace Go.Proofs.Qxb6604169a
open Go.RowKit

/-- The union. -/
def unionL (A B : List ByteArray) : List ByteArray := Plain.mrg sless A B

set_option maxHeartbeats 1000000 in
set_option maxRecDepth 100000 in
/-- One of the two is empty: the other comes back as it is. -/
theorem Join_a0 (a b : Option Addr) (ca lb cb : Nat) (w : World) :
    Calls Try.prog 26 #[.agg #[], .agg #[.slice a 0 ca], .agg #[.slice b lb cb]] w fun e w' => e = .returned (.agg #[.slice b lb cb]) ∧ Below w.heap.size w w' := by
  go_enter Try.func26, Try.ntmps26
  go_wp2
  refine bodyPost_ret (v := .agg #[.slice b lb cb]) (by simp [results, Try.results26, go_sem]) rfl ⟨rfl, ?_⟩
  exact ((((Below.refl _ _).alloc (Nat.le_refl _) _).alloc (by simp) _).alloc (by simp; omega) _).alloc (by simp; omega) _

set_option maxHeartbeats 1000000 in
set_option maxRecDepth 100000 in
theorem Join_b0 (a b : Option Addr) (la ca cb : Nat) (w : World) (h : 0 < la) :
    Calls Try.prog 26 #[.agg #[], .agg #[.slice a la ca], .agg #[.slice b 0 cb]] w fun e w' => e = .returned (.agg #[.slice a la ca]) ∧ Below w.heap.size w w' := by
  have hne : ((la : Int) == 0) = false := by simp; omega
  go_enter Try.func26, Try.ntmps26
  go_wp2
  refine bodyPost_ret (v := .agg #[.slice a la ca]) (by simp [results, Try.results26, go_sem]) rfl ⟨rfl, ?_⟩
  exact ((((Below.refl _ _).alloc (Nat.le_refl _) _).alloc (by simp) _).alloc (by simp; omega) _).alloc (by simp; omega) _

/-- An old cell behind four new blocks. -/
theorem below4 (w : World) (o1 o2 o3 o4 : Obj) : Below w.heap.size w ((((w.alloc o1).alloc o2).alloc o3).alloc o4) := ((((Below.refl _ _).alloc (Nat.le_refl _) _).alloc (by simp) _).alloc (by simp; omega) _).alloc (by simp; omega) _

theorem strs_oneCell (L : List ByteArray) : ∀ u ∈ L.map Value.string, u.oneCell' = true := by
  intro u hu
  obtain ⟨s, _, rfl⟩ := List.mem_map.1 hu
  rfl

/-- What stands in the call's own boxes while the loop goes. -/
structure Boxes (w wr : World) (va vb : Value) : Prop where
  bel : Below w.heap.size w wr
  ca : wr.cell? ⟨w.heap.size + 1, 0, none⟩ = some va
  cb : wr.cell? ⟨w.heap.size + 1 + 1, 0, none⟩ = some vb
  cr : wr.cell? ⟨w.heap.size + 1 + 1 + 1, 0, none⟩ = some (.slice none 0 0)
  fr : wr.frozen? ⟨w.heap.size + 1 + 1 + 1, 0, none⟩ = false
  size : w.heap.size + 4 ≤ wr.heap.size

theorem Boxes.on {w wr wr' : World} {va vb : Value} (h : Boxes w wr va vb) (hb : Below (w.heap.size + 4) wr wr') : Boxes w wr' va vb :=
  ⟨h.bel.trans (hb.mono (by omega)), (hb.cell (p := ⟨w.heap.size + 1, 0, none⟩) (show w.heap.size + 1 < w.heap.size + 4 by omega)).trans h.ca, (hb.cell (p := ⟨w.heap.size + 1 + 1, 0, none⟩) (show w.heap.size + 1 + 1 < w.heap.size + 4 by omega)).trans h.cb,
    (hb.cell (p := ⟨w.heap.size + 1 + 1 + 1, 0, none⟩) (show w.heap.size + 1 + 1 + 1 < w.heap.size + 4 by omega)).trans h.cr, (hb.frozen (p := ⟨w.heap.size + 1 + 1 + 1, 0, none⟩) (show w.heap.size + 1 + 1 + 1 < w.heap.size + 4 by omega)).trans h.fr, Nat.le_trans h.size hb.size⟩

theorem Boxes.start (w w0 : World) (va vb : Value) (hg : ((((w.alloc (.cells #[] 39)).alloc (.cells #[va] 37)).alloc (.cells #[vb] 37)).alloc (.cells #[.slice none 0 0] 37)).grownBy w0 none) : Boxes w w0 va vb := by
  refine Boxes.on (wr := (((w.alloc (.cells #[] 39)).alloc (.cells #[va] 37)).alloc (.cells #[vb] 37)).alloc (.cells #[.slice none 0 0] 37)) ⟨below4 _ _ _ _ _, ?_, ?_, ?_, ?_, by simp⟩ ((Below.refl _ _).grown hg (by simp) (fun k h => by cases h))
  all_goals simp [go_sem]

/-- Behind an append of one string into the call's own row. -/
theorem Boxes.pushed {w W w1 : World} {va vb : Value} {o : Obj} (h : Boxes w W va vb) (hg : (W.alloc o).grownBy w1 (some (w.heap.size + 1 + 1 + 1 + 1))) : Boxes w w1 va vb :=
  h.on (((Below.refl _ _).alloc h.size _).grown hg (by simp; have := h.size; omega) (fun k hk => by cases hk; omega))
theorem Boxes.laid {w W w1 : World} {va vb : Value} (h : Boxes w W va vb) (hg : W.grownBy w1 (some (w.heap.size + 1 + 1 + 1 + 1))) : Boxes w w1 va vb :=
  h.on ((Below.refl _ _).grown hg h.size (fun k hk => by cases hk; omega))
theorem row_snoc {w1 : World} {B g n cap : Nat} {xs : List ByteArray} {x : ByteArray} (h : w1.ownsRow B 9 1 (.slice (some ⟨g, 0, none⟩) (n + 1) cap) (n + 1) (xs.map Value.string ++ [.string x])) : w1.ownsRow B 9 1 (.slice (some ⟨g, 0, none⟩) (n + 1) cap) (n + 1) ((xs ++ [x]).map Value.string) := by
  simpa using h
theorem j_a {A B xs : List ByteArray} {i j : Nat} {x y : ByteArray} (hx : xs ++ Plain.mrg sless (A.drop i) (B.drop j) = Plain.mrg sless A B) (hi : i < A.length) (hj : j < B.length) (hX : x = A[i]) (hY : y = B[j]) (h : Op.bytesLess x.toList y.toList = true) :
    (xs ++ [x]) ++ Plain.mrg sless (A.drop (i + 1)) (B.drop j) = Plain.mrg sless A B := by
  subst hX hY; exact Plain.step_a hx hi hj h
theorem j_b {A B xs : List ByteArray} {i j : Nat} {x y : ByteArray} (hx : xs ++ Plain.mrg sless (A.drop i) (B.drop j) = Plain.mrg sless A B) (hi : i < A.length) (hj : j < B.length) (hX : x = A[i]) (hY : y = B[j]) (h1 : Op.bytesLess x.toList y.toList = false) (h2 : Op.bytesLess y.toList x.toList = true) :
    (xs ++ [y]) ++ Plain.mrg sless (A.drop i) (B.drop (j + 1)) = Plain.mrg sless A B := by
  subst hX hY; exact Plain.step_b hx hi hj h1 h2
theorem j_ab {A B xs : List ByteArray} {i j : Nat} {x y : ByteArray} (hx : xs ++ Plain.mrg sless (A.drop i) (B.drop j) = Plain.mrg sless A B) (hi : i < A.length) (hj : j < B.length) (hX : x = A[i]) (hY : y = B[j]) (h1 : Op.bytesLess x.toList y.toList = false) (h2 : Op.bytesLess y.toList x.toList = false) :
    (xs ++ [x]) ++ Plain.mrg sless (A.drop (i + 1)) (B.drop (j + 1)) = Plain.mrg sless A B := by
  subst hX hY; exact Plain.step_ab hx hi hj h1 h2
theorem j_end {A B xs : List ByteArray} {i j : Nat} (hx : xs ++ Plain.mrg sless (A.drop i) (B.drop j) = Plain.mrg sless A B) (h : ¬ (i < A.length ∧ j < B.length)) :
    xs.map Value.string ++ (A.drop i).map Value.string ++ (B.drop j).map Value.string = (unionL A B).map Value.string := by
  rw [unionL, ← Plain.step_end hx h]; simp

theorem j_fin {w w2 : World} {g n cap : Nat} {A B xs : List ByteArray} {i j : Nat} (h : w2.ownsRow (w.heap.size + 4) 9 1 (.slice (some ⟨g, 0, none⟩) n cap) n (xs.map Value.string ++ (A.drop i).map Value.string ++ (B.drop j).map Value.string))
    (hx : xs ++ Plain.mrg sless (A.drop i) (B.drop j) = Plain.mrg sless A B) (hnot : ¬ (i < A.length ∧ j < B.length)) (v : Value) : Strs (w2.setCell ⟨w.heap.size + 1 + 1 + 1, 0, none⟩ v) (some ⟨g, 0, none⟩) n cap (unionL A B) := by
  rw [j_end hx hnot] at h
  have h' := ownsRow_setCell_below h (a := ⟨w.heap.size + 1 + 1 + 1, 0, none⟩) (show w.heap.size + 1 + 1 + 1 < w.heap.size + 4 by omega) v
  refine Strs_of_row (by have := h.1; simpa using this) h' (fun k hk => by simp [hk])

/-- The cells of 'a[i:]', a slice of strings. -/
theorem cells_from_s {w : World} {b o l c i : Nat} {A : List ByteArray} (hA : A.length = l) (hlc : l ≤ c) (hcell : ∀ t (h : t < A.length), w.cell? ⟨b, o + t, none⟩ = some (.string A[t]))
    {ao : Option Addr} (hao : ¬ c = i → ao = some ⟨b, o + i, none⟩) : ∀ ad, ao = some ad → ∀ t u, ((A.drop i).map Value.string)[t]? = some u → w.cell? (ad.add t) = some u := by
  intro ad had t u hu
  have ht : t < l - i := by
    have := (List.getElem?_eq_some_iff.1 hu).1
    simpa [hA] using this
  rw [hao (by omega)] at had
  obtain rfl := Option.some.inj had
  rw [Addr.add_lit, Nat.add_assoc, hcell (i + t) (by omega), ← hu]
  simp [show i + t < A.length by omega]

set_option maxHeartbeats 4000000 in
set_option maxRecDepth 1000000 in
theorem Join_ab (ba oa la ca bb ob lb cb : Nat) (A B : List ByteArray) (w : World) (hra : la ≤ 1048576) (hrb : lb ≤ 1048576) (pa : 0 < la) (pb : 0 < lb) (hlca : la ≤ ca) (hlcb : lb ≤ cb) (hba : ba < w.heap.size) (hbb : bb < w.heap.size) (hA : A.length = la) (hB : B.length = lb)
    (hca : ∀ i (h : i < A.length), w.cell? ⟨ba, oa + i, none⟩ = some (.string A[i])) (hcb : ∀ i (h : i < B.length), w.cell? ⟨bb, ob + i, none⟩ = some (.string B[i])) :
    Calls Try.prog 26 #[.agg #[], .agg #[.slice (some ⟨ba, oa, none⟩) la ca], .agg #[.slice (some ⟨bb, ob, none⟩) lb cb]] w fun e w' =>
      ∃ r n cap, e = .returned (.agg #[.slice r n cap]) ∧ Strs w' r n cap (unionL A B) ∧ Below w.heap.size w w' := by
  have HA : Hid (A.length = la) := hA
  have HB : Hid (B.length = lb) := hB
  have hnea : ((la : Int) == 0) = false := by simp; omega
  have hneb : ((lb : Int) == 0) = false := by simp; omega
  clear hA hB
  obtain ⟨i0, hi, hz0, hz1, hz2⟩ := info_parts Try.info9
  go_enter Try.func26, Try.ntmps26
  go_wp2_with (at_make; refine wpList_make_own _ rfl _ _ 22 rfl (w.heap.size + 4) 9 i0 (.string ByteArray.empty) 1 Try.underlying22 hi hz0 hz1 _ _ _ (la + lb) rfl rfl (by omega) ?b2 ?b3 ?b4 ?_)
  case b2 => rw [hz2]; omega
  case b3 => unfold maxLen; omega
  case b4 => simp
  intro w0 hown0 hgrow0
  have hbx0 := Boxes.start w w0 _ _ hgrow0
  clear hgrow0
  go_wp2
  go_loopw [7, 8, 9] (fun out si sj wr => ∃ (i j n : Nat) (xs : List ByteArray), i ≤ la ∧ j ≤ lb ∧ n ≤ i + j ∧ si = .int .i64 i ∧ sj = .int .i64 j ∧ out = .slice (some ⟨w.heap.size + 1 + 1 + 1 + 1, 0, none⟩) n (la + lb) ∧
      wr.ownsRow (w.heap.size + 4) 9 1 (.slice (some ⟨w.heap.size + 1 + 1 + 1 + 1, 0, none⟩) n (la + lb)) n (xs.map Value.string) ∧ Hid (xs ++ Plain.mrg sless (A.drop i) (B.drop j) = Plain.mrg sless A B) ∧
      Boxes w wr (.slice (some ⟨ba, oa, none⟩) la ca) (.slice (some ⟨bb, ob, none⟩) lb cb))
    (fun _ si sj _ => (la - (intOf si).toNat) + (lb - (intOf sj).toNat))
  case atStart => exact ⟨0, 0, 0, [], Nat.zero_le _, Nat.zero_le _, Nat.le_refl _, rfl, rfl, rfl, hown0, rfl, hbx0⟩
  case round =>
    obtain ⟨i, j, n, xs, hil, hjl, hn, rfl, rfl, rfl, hown, hx, hbx⟩ := hrel
    clear hbx0 hown0
    have c1 := hbx.ca
    have c2 := hbx.cb
    by_cases hij : i < la ∧ j < lb
    · obtain ⟨hi', hj'⟩ := hij
      obtain ⟨x, hX, hcx0⟩ := cell_at HA.out hca i hi'
      obtain ⟨y, hY, hcy0⟩ := cell_at HB.out hcb j hj'
      have hcx := (hbx.bel.cell (p := ⟨ba, oa + i, none⟩) hba).trans hcx0
      have hcy := (hbx.bel.cell (p := ⟨bb, ob + j, none⟩) hbb).trans hcy0
      clear hca hcb hcx0 hcy0
      go_wp2
      go_quiet (fail)
      have hown' : (wr.drewN nq).ownsRow (w.heap.size + 4) 9 1 (.slice (some ⟨w.heap.size + 1 + 1 + 1 + 1, 0, none⟩) n (la + lb)) n (xs.map Value.string) := hown
      have hbx' : Boxes w (wr.drewN nq) (.slice (some ⟨ba, oa, none⟩) la ca) (.slice (some ⟨bb, ob, none⟩) lb cb) := hbx.on (Drawn.below (Drawn.mk wr nq) |>.mono hbx.size)
      clear hcx hcy c1 c2 hown hbx
      have HLA : Hid (i < A.length) := by have := HA.out; show i < A.length; omega
      have HLB : Hid (j < B.length) := by have := HB.out; show j < B.length; omega
      cases h1 : Op.bytesLess x.toList y.toList with
      | true =>
        go_wp2_with (at_builtin; refine wpList_append_fits _ rfl (.tmp 66) (.tmp 68) 22 rfl (w.heap.size + 4) 9 i0 1 Try.underlying22 hi hz1 (w.heap.size + 1 + 1 + 1 + 1) n (la + lb) _ rfl (hown'.alloc _) ⟨wr.heap.size, 0, none⟩ 1 1 [.string x] rfl rfl (cell_one_new _ _ _) (by intro u hu; simp at hu; subst hu; rfl) (by omega) ?_; intro w1 hown1 hgrow1)
        go_roundw
        case rel => exact ⟨i + 1, j, n + 1, xs ++ [x], by omega, by omega, by omega, by go_num, rfl, rfl, row_snoc hown1, j_a hx.out HLA.out HLB.out hX.out hY.out h1, hbx'.pushed hgrow1⟩
        case measure => simp [intOf]; omega
      | false =>
        cases h2 : Op.bytesLess y.toList x.toList with
        | true =>
          go_wp2_with (at_builtin; refine wpList_append_fits _ rfl (.tmp 76) (.tmp 78) 22 rfl (w.heap.size + 4) 9 i0 1 Try.underlying22 hi hz1 (w.heap.size + 1 + 1 + 1 + 1) n (la + lb) _ rfl (hown'.alloc _) ⟨wr.heap.size, 0, none⟩ 1 1 [.string y] rfl rfl (cell_one_new _ _ _) (by intro u hu; simp at hu; subst hu; rfl) (by omega) ?_; intro w1 hown1 hgrow1)
          go_roundw
          case rel => exact ⟨i, j + 1, n + 1, xs ++ [y], by omega, by omega, by omega, rfl, by go_num, rfl, row_snoc hown1, j_b hx.out HLA.out HLB.out hX.out hY.out h1 h2, hbx'.pushed hgrow1⟩
          case measure => simp [intOf]; omega
        | false =>
          go_wp2_with (at_builtin; refine wpList_append_fits _ rfl (.tmp 54) (.tmp 56) 22 rfl (w.heap.size + 4) 9 i0 1 Try.underlying22 hi hz1 (w.heap.size + 1 + 1 + 1 + 1) n (la + lb) _ rfl (hown'.alloc _) ⟨wr.heap.size, 0, none⟩ 1 1 [.string x] rfl rfl (cell_one_new _ _ _) (by intro u hu; simp at hu; subst hu; rfl) (by omega) ?_; intro w1 hown1 hgrow1)
          go_roundw
          case rel => exact ⟨i + 1, j + 1, n + 1, xs ++ [x], by omega, by omega, by omega, by go_num, by go_num, rfl, row_snoc hown1, j_ab hx.out HLA.out HLB.out hX.out hY.out h1 h2, hbx'.pushed hgrow1⟩
          case measure => simp [intOf]; omega
    · have hnot : Hid (¬ (i < A.length ∧ j < B.length)) := by have := HA.out; have := HB.out; show ¬ _; omega
      have ca' : ∀ t (h : t < A.length), wr.cell? ⟨ba, oa + t, none⟩ = some (.string A[t]) := fun t h => (hbx.bel.cell (p := ⟨ba, oa + t, none⟩) hba).trans (hca t h)
      have cb' : ∀ t (h : t < B.length), wr.cell? ⟨bb, ob + t, none⟩ = some (.string B[t]) := fun t h => (hbx.bel.cell (p := ⟨bb, ob + t, none⟩) hbb).trans (hcb t h)
      have CA : Hid (∀ t (h : t < A.length), wr.cell? ⟨ba, oa + t, none⟩ = some (.string A[t])) := ca'
      have CB : Hid (∀ t (h : t < B.length), wr.cell? ⟨bb, ob + t, none⟩ = some (.string B[t])) := cb'
      clear hca hcb ca' cb'
      by_cases hi' : i < la
      all_goals
        go_wp2_with (first
          | (at_builtin; refine wpList_append_fits_any _ rfl (.tmp 82) (.tmp 86) 22 rfl (w.heap.size + 4) 9 i0 1 Try.underlying22 hi hz1 (w.heap.size + 1 + 1 + 1 + 1) n (la + lb) _ rfl hown _ (la - i) _ ((A.drop i).map Value.string) rfl (by simp [HA.out]) (by intro h; first | cases h | (split at h <;> cases h)) (cells_from_s HA.out hlca CA.out (by intro h; first | rfl | simp [h])) (strs_oneCell _) (by omega) ?_; intro w1 hown1 hgrow1; have hbx1 := hbx.laid hgrow1; have d2 := hbx1.cb)
          | (at_builtin; refine wpList_append_fits_any _ rfl (.tmp 88) (.tmp 92) 22 rfl (w.heap.size + 4) 9 i0 1 Try.underlying22 hi hz1 (w.heap.size + 1 + 1 + 1 + 1) (n + (la - i)) (la + lb) _ rfl hown1 _ (lb - j) _ ((B.drop j).map Value.string) rfl (by simp [HB.out]) (by intro h; first | cases h | (split at h <;> cases h)) (cells_from_s HB.out hlcb (fun t h => hgrow1.cell (CB.out t h) (fun e => by have h2 : bb = w.heap.size + 1 + 1 + 1 + 1 := Option.some.inj e; omega)) (by intro h; first | rfl | simp [h])) (strs_oneCell _) (by omega) ?_; intro w2 hown2 hgrow2; have hbx2 := hbx1.laid hgrow2; have d3 := hbx2.cr; have d4 := hbx2.fr))
      all_goals exact bodyPost_ret (v := .agg #[.slice (some ⟨w.heap.size + 1 + 1 + 1 + 1, 0, none⟩) (n + (la - i) + (lb - j)) (la + lb)]) (by simp [results, Try.results26, go_sem, d3]) rfl ⟨_, _, _, rfl, j_fin hown2 hx.out hnot.out _, hbx2.bel.setCell (show w.heap.size ≤ w.heap.size + 1 + 1 + 1 by omega) _⟩

theorem union_nil_left (B : List ByteArray) : unionL [] B = B := Plain.mrg_nil_left B
theorem union_nil_right (A : List ByteArray) : unionL A [] = A := Plain.mrg_nil_right A

/-- (Sets).Join, whatever the two. -/
theorem Join_any (a b : Option Addr) (la ca lb cb : Nat) (A B : List ByteArray) (w : World) (hA : Strs w a la ca A) (hB : Strs w b lb cb B) (ma : la ≤ 1048576) (mb : lb ≤ 1048576) :
    Calls Try.prog 26 #[.agg #[], .agg #[.slice a la ca], .agg #[.slice b lb cb]] w fun e w' => ∃ r n cap, e = .returned (.agg #[.slice r n cap]) ∧ Strs w' r n cap (unionL A B) ∧ Below w.heap.size w w' := by
  rcases hA.part with ⟨pa, rfl⟩ | ⟨pa, ba, oa, rfl, hba, hca⟩
  · obtain rfl : la = 0 := by omega
    refine (Join_a0 a b ca lb cb w).mono ?_
    rintro e w' ⟨rfl, hb⟩
    exact ⟨_, _, _, rfl, by rw [union_nil_left]; exact hB.below hb, hb⟩
  · rcases hB.part with ⟨pb, rfl⟩ | ⟨pb, bb, ob, rfl, hbb, hcb⟩
    · obtain rfl : lb = 0 := by omega
      refine (Join_b0 _ b la ca cb w pa).mono ?_
      rintro e w' ⟨rfl, hb⟩
      exact ⟨_, _, _, rfl, by rw [union_nil_right]; exact hA.below hb, hb⟩
    · exact Join_ab ba oa la ca bb ob lb cb A B w ma mb pa pb hA.hcap hB.hcap hba hbb hA.hlen hB.hlen hca hcb

/-! ### b1Join -/
set_option maxHeartbeats 1000000 in
theorem join_any (a b : Option Addr) (la ca lb cb : Nat) (A B : List ByteArray) (w : World) (hA : Strs w a la ca A) (hB : Strs w b lb cb B) (ma : la ≤ 1048576) (mb : lb ≤ 1048576) :
    Calls Try.prog 14 #[.slice a la ca, .slice b lb cb] w fun e w' => ∃ r n cap, e = .returned (.slice r n cap) ∧ Strs w' r n cap (unionL A B) ∧ Below w.heap.size w w' := by
  go_enter Try.func14, Try.ntmps14
  go_wp2_with fail
  refine (mk_any a la ca _).mono ?_
  rintro e w1 ⟨rfl, hb1⟩
  go_wp2_with fail
  refine (mk_any b lb cb _).mono ?_
  rintro e w2 ⟨rfl, hb2⟩
  have hb12 : Below w.heap.size w w2 := hb1.trans (hb2.mono hb1.size)
  go_wp2_with fail
  refine (Join_any a b la ca lb cb A B w2 (hA.below hb12) (hB.below hb12) ma mb).mono ?_
  rintro e w3 ⟨r, n, cap, rfl, hU, hb3⟩
  go_wp2_with fail
  refine (elems_any r n cap _).mono ?_
  rintro e w4 ⟨rfl, hb4⟩
  go_wp2
  go_ret
  exact ⟨_, _, _, rfl, hU.below hb4, hb12.trans ((hb3.trans (hb4.mono hb3.size)).mono hb12.size)⟩

theorem union_asc {A B : List ByteArray} (hA : Plain.Asc sless A) (hB : Plain.Asc sless B) : Plain.Asc sless (unionL A B) := Plain.asc_mrg sto hA hB
theorem mem_union {A B : List ByteArray} {z : ByteArray} : z ∈ unionL A B ↔ z ∈ A ∨ z ∈ B := Plain.mem_mrg sto z A B
theorem union_len (A B : List ByteArray) : (unionL A B).length ≤ A.length + B.length := Plain.mrg_length_le A B

end Go.Proofs.Qxb6604169a
