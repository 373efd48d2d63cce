/-
  THE WALK OF FnFieldExact: the Go text returns true, and writes nothing that was there.
-/
import Derived.Test.Qxb6600904aZField
namespace Go.Proofs.Qxb6600904a
set_option linter.unusedVariables false
set_option linter.unusedSimpArgs false
open Go.RowKit

/-- 'data[at:]': a slice of what is left. -/
theorem Bys.drop {w : World} {a : Option Addr} {len cap : Nat} {L : List Int} (h : Bys w a len cap L) {b off : Nat} (ha : a = some ⟨b, off, none⟩) (pos : Nat) (hpos : pos ≤ len) {ao : Option Addr} (h1 : ¬ cap = pos → ao = some ⟨b, off + pos, none⟩) (h2 : cap = pos → ao ≠ none) : Bys w ao (len - pos) (cap - pos) (L.drop pos) := by
  have hl := h.hlen
  have hc := h.hcap
  refine ⟨by rw [List.length_drop, hl], by omega, fun e => ?_, fun x hx => h.hby x (List.mem_of_mem_drop hx), fun h0 => ?_⟩
  · by_cases hcp : cap = pos
    · exact absurd e (h2 hcp)
    · rw [h1 hcp] at e; cases e
  · obtain ⟨b', off', e, hlt, hcell⟩ := h.cells (by omega)
    rw [ha] at e
    injection e with e
    injection e with e1 e2
    subst e1 e2
    refine ⟨b, off + pos, h1 (by omega), hlt, fun i hi => ?_⟩
    rw [List.length_drop] at hi
    rw [Nat.add_assoc, hcell (pos + i) (by omega), List.getElem_drop]

/-- The token, once it is built. -/
theorem Bys_tok {w : World} {B n : Nat} {v : Value} {L : List Int} (h : w.ownsRow B 5 1 v n (L.map (Value.int .u8))) (hL : L.length = n) (h0 : 0 < n) (hby : ∀ x ∈ L, 0 ≤ x ∧ x ≤ 255) : ∃ g cap, v = .slice (some ⟨g, 0, none⟩) n cap ∧ Bys w (some ⟨g, 0, none⟩) n cap L := by
  rcases h.2 with ⟨h', h''⟩ | ⟨g, cap, cur, h', hb, hg, hnc, hcm, hcs, htake⟩
  · omega
  · subst h'
    exact ⟨g, cap, rfl, Bys_of_row hL hby h (fun j hj => by simp [hj])⟩

theorem shape_of {w : World} {B n : Nat} {v : Value} {xs : List Value} (h : w.ownsRow B 5 1 v n xs) (h0 : 0 < n) : ∃ g cap, v = .slice (some ⟨g, 0, none⟩) n cap := by
  rcases h.2 with ⟨h', h''⟩ | ⟨g, cap, cur, h', _⟩
  · omega
  · exact ⟨g, cap, h'⟩

theorem strCells_nums (s : ByteArray) : Lib.strCells s = (nums s).map (Value.int .u8) := by
  unfold Lib.strCells nums; rw [List.map_map]; rfl
theorem nums_by (s : ByteArray) : ∀ x ∈ nums s, 0 ≤ x ∧ x ≤ 255 := by
  intro x hx
  unfold nums at hx
  obtain ⟨b, _, rfl⟩ := List.mem_map.1 hx
  have := b.toNat_lt
  omega
theorem tok_by (first : Bool) (s : ByteArray) : ∀ x ∈ tok first (nums s), 0 ≤ x ∧ x ≤ 255 := by
  intro x hx
  have hn := nums_by s x
  cases first <;> simp [tok, tokTail] at hx <;> rcases hx with h | h | h | h <;> first | omega | exact hn h | skip
  all_goals (rcases h with h | h <;> first | omega | exact hn h)

theorem two_new (w : World) (x y : Value) (t : TypeId) : ∀ j u, ([x, y] : List Value)[j]? = some u → (w.alloc (.cells #[x, y] t)).cell? ((⟨w.heap.size, 0, none⟩ : Addr).add j) = some u := by
  intro j u hj
  match j, hj with
  | 0, hj => simp at hj; subst hj; simp [Addr.add]
  | 1, hj => simp at hj; subst hj; simp [Addr.add]
theorem Bys_zero {w : World} {ad : Addr} {L : List Int} {n : Nat} (h : L.length = n) : Bys w (some ad) 0 0 (L.drop n) :=
  ⟨by rw [List.length_drop, h, Nat.sub_self], Nat.le_refl _, fun e => (by cases e), fun x hx => (by rw [List.drop_eq_nil_of_le (by omega)] at hx; cases hx), fun h0 => absurd h0 (Nat.lt_irrefl 0)⟩
theorem one_cell1 (x : Int) : ∀ u ∈ ([.int .u8 x] : List Value), u.oneCell' = true := by
  intro u hu; simp at hu; subst hu; rfl
theorem one_cell2 (x y : Int) : ∀ u ∈ ([.int .u8 x, .int .u8 y] : List Value), u.oneCell' = true := by
  intro u hu; simp at hu; rcases hu with rfl | rfl <;> rfl
theorem tokT_cells (name : ByteArray) : [Value.int .u8 34] ++ Lib.strCells name ++ [.int .u8 34, .int .u8 58] = (tok true (nums name)).map (Value.int .u8) := by
  rw [strCells_nums]; simp [tok, tokTail]
theorem tokF_cells (name : ByteArray) : [Value.int .u8 44] ++ [Value.int .u8 34] ++ Lib.strCells name ++ [.int .u8 34, .int .u8 58] = (tok false (nums name)).map (Value.int .u8) := by
  rw [strCells_nums]; simp [tok, tokTail]

set_option maxHeartbeats 2000000 in
theorem law7 (a : Option Addr) (len cap : Nat) (L : List Int) (at' : Int) (failed first : Bool) (name : ByteArray) (w : World) (hB : Bys w a len cap L) (hm : len ≤ 9223372036854775807) (hn : name.size ≤ 9223372036854775807) (hat : -9223372036854775808 ≤ at' ∧ at' ≤ 9223372036854775807) :
    Calls Try.prog 7 #[.slice a len cap, .int .i64 at', .bool failed, .bool first, .string name] w fun e w' => e = .returned (.bool true) ∧ Below w.heap.size w w' := by
  obtain ⟨i0, hi, hz0, hz1, hz2⟩ := info_parts Try.info5
  go_enter Try.func7, Try.ntmps7
  go_wp2_with fail
  refine (bytes20 a len cap at' failed first name _ hm hn).mono ?_
  rintro e w ⟨⟨r, rfl⟩, rfl⟩
  cases r with
  | false =>
    go_wp2
    go_ret
    exact ⟨rfl, Below.refl _ _⟩
  | true =>
  by_cases t1 : 1048576 < len
  · go_wp2
    go_ret
    exact ⟨rfl, Below.refl _ _⟩
  by_cases t2 : 1048576 < name.size
  · go_wp2
    go_ret
    exact ⟨rfl, Below.refl _ _⟩
  by_cases t3 : 1048576 < len + name.size
  · go_wp2
    go_ret
    exact ⟨rfl, Below.refl _ _⟩
  by_cases t4 : at' < 0
  · go_wp2
    go_ret
    exact ⟨rfl, Below.refl _ _⟩
  by_cases t5 : (len : Int) < at'
  · go_wp2
    go_ret
    exact ⟨rfl, Below.refl _ _⟩
  obtain ⟨pos, rfl⟩ := Int.eq_ofNat_of_zero_le (show 0 ≤ at' by omega)
  have hpos : pos ≤ len := by omega
  clear hm hn hat t4 t5
  go_wp2_with fail
  refine (clone_any a len cap L _ hB (by omega)).mono ?_
  rintro e w1 ⟨a1, cap1, rfl, hB1, b1⟩
  clear hB
  cases hmm : matchB L pos failed first name with
  | true =>
    have HM := hide hmm
    clear hmm
    go_wp2_with fail
    refine (zfield_yes a1 pos len cap1 L failed first name _ hB1 hpos (by omega) (by omega) (unhide HM)).mono ?_
    rintro e w2 ⟨rfl, d2⟩
    have b2 : Below w.heap.size w w2 := b1.trans (d2.mono b1.size)
    have hB2 := hB1.below d2
    clear hB1 b1 d2
    have hfl : failed = false ∧ preB (L.drop pos) (tok first (nums name)) = true := by have := unhide HM; simpa [matchB] using this
    obtain ⟨rfl, hpre⟩ := hfl
    have HP := hide hpre
    have hlt : pos < len := by
      have h1 := (preB_iff.1 hpre).length_le
      have h2 : 0 < (tok first (nums name)).length := by cases first <;> simp [tok, tokTail]
      rw [List.length_drop, hB2.hlen] at h1
      omega
    clear hpre HM
    obtain ⟨b, off, ha, hblt, _⟩ := hB2.cells (by omega)
    subst ha
    have hcp : ¬ cap1 = pos := by have := hB2.hcap; omega
    cases first with
    | true =>
      go_wp2_with (first
        | (at_make; refine wpList_make_own _ rfl _ _ 22 rfl w2.heap.size 5 i0 (.int .u8 0) 1 Try.underlying22 hi hz0 hz1 _ _ _ (name.size + 4) rfl rfl (by omega) (by rw [hz2]; omega) (by unfold maxLen; omega) (Nat.le_refl _) ?_; intro w3 hown3 hgrow3)
        | (at_builtin; refine wpList_append_fits _ rfl (.tmp 70) (.tmp 71) 22 rfl w2.heap.size 5 i0 1 Try.underlying22 hi hz1 w2.heap.size 0 (name.size + 4) _ rfl (hown3.alloc _) ⟨w3.heap.size, 0, none⟩ 1 1 [.int .u8 34] rfl rfl (cell_one_new _ _ _) (one_cell1 _) (by omega) ?_; intro w4 hown4 hgrow4; simp only [Nat.zero_add, List.nil_append, Nat.reduceAdd] at hown4)
        | (at_builtin; refine Lib.wpList_append_own_string _ rfl (.tmp 73) (.tmp 74) 22 9 rfl w2.heap.size 5 i0 Try.underlying22 Try.underlying9 hi hz0 hz1 hz2 _ 1 _ rfl hown4 name rfl (by unfold maxLen; omega) (by omega) (by have q3 := hgrow3.size; have q4 := hgrow4.size; simp at q4; omega) ?_; intro v5 w5 hown5 hgrow5 _; obtain ⟨g5, cp5, rfl⟩ := shape_of hown5 (by omega))
        | (at_builtin; refine wpList_append_own _ rfl (.tmp 76) (.tmp 77) 22 rfl w2.heap.size 5 i0 (.int .u8 0) 1 1 Try.underlying22 hi hz0 hz1 hz2 rfl (by decide) _ _ _ rfl (hown5.alloc _) ⟨w5.heap.size, 0, none⟩ 2 2 [.int .u8 34, .int .u8 58] rfl rfl (two_new _ _ _ _) (one_cell2 _ _) (by unfold maxLen; omega) (by omega) (by have q3 := hgrow3.size; have q4 := hgrow4.size; simp at q4; have q5 := hgrow5.size; simp; omega) ?_; intro v6 w6 hown6 hgrow6 _; obtain ⟨g6, cp6, rfl⟩ := shape_of hown6 (by omega)))
      have b3 : Below w2.heap.size w2 w3 := (Below.refl _ _).grown hgrow3 (Nat.le_refl _) (fun k h => by cases h)
      have b4 : Below w2.heap.size w2 w4 := (b3.alloc b3.size _).grown hgrow4 (by simp; have := b3.size; omega) (fun k h => by cases h; exact Nat.le_refl _)
      have b5 : Below w2.heap.size w2 w5 := b4.grown hgrow5 b4.size (fun k h => by cases h; exact Nat.le_refl _)
      have b6 : Below w2.heap.size w2 w6 := (b5.alloc b5.size _).grown hgrow6 (by simp; have := b5.size; omega) (fun k h => by cases h; exact (hown5.lt _ rfl).1)
      have b26 : Below w.heap.size w w6 := b2.trans (b6.mono b2.size)
      have hB6 := hB2.below b6
      rw [tokT_cells] at hown6
      have HT : Hid ((tok true (nums name)).length = 1 + name.size + 2) := by have := nums_length name; show _ = _; simp [tok, tokTail, this]; try omega
      obtain ⟨g7, cp7, e7, hT⟩ := Bys_tok hown6 (unhide HT) (by omega) (tok_by true name)
      injection e7 with e7a e7b e7c
      subst e7c
      injection e7a with e7d
      injection e7d with e7e
      subst e7e
      clear hown3 hown4 hown5 hown6 hgrow3 hgrow4 hgrow5 hgrow6 b3 b4 b5 b6 b2 hB2
      refine (hasPrefix_any _ _ _ _ _ _ (L.drop pos) (tok true (nums name)) _ (hB6.drop rfl pos hpos (fun _ => rfl) (fun h => absurd h hcp)) hT (by omega) (by omega)).mono ?_
      rintro e w7 ⟨rfl, d7⟩
      rw [unhide HP]
      have hTL := unhide HT
      have b7 : Below w.heap.size w w7 := b26.trans (d7.below.mono b26.size)
      clear HP HT hT hB6 d7 b26
      go_wp2
      go_ret
      exact ⟨rfl, b7⟩
    | false =>
      go_wp2_with (first
        | (at_make; refine wpList_make_own _ rfl _ _ 22 rfl w2.heap.size 5 i0 (.int .u8 0) 1 Try.underlying22 hi hz0 hz1 _ _ _ (name.size + 4) rfl rfl (by omega) (by rw [hz2]; omega) (by unfold maxLen; omega) (Nat.le_refl _) ?_; intro w3 hown3 hgrow3)
        | (at_builtin; refine wpList_append_fits _ rfl (.tmp 67) (.tmp 68) 22 rfl w2.heap.size 5 i0 1 Try.underlying22 hi hz1 w2.heap.size 0 (name.size + 4) _ rfl (hown3.alloc _) ⟨w3.heap.size, 0, none⟩ 1 1 [.int .u8 44] rfl rfl (cell_one_new _ _ _) (one_cell1 _) (by omega) ?_; intro v3 hown3b hgrow3b; simp only [Nat.zero_add, List.nil_append] at hown3b)
        | (at_builtin; refine wpList_append_fits _ rfl (.tmp 70) (.tmp 71) 22 rfl w2.heap.size 5 i0 1 Try.underlying22 hi hz1 w2.heap.size 1 (name.size + 4) _ rfl (hown3b.alloc _) ⟨v3.heap.size, 0, none⟩ 1 1 [.int .u8 34] rfl rfl (cell_one_new _ _ _) (one_cell1 _) (by omega) ?_; intro w4 hown4 hgrow4; simp only [Nat.zero_add, List.nil_append, Nat.reduceAdd] at hown4)
        | (at_builtin; refine Lib.wpList_append_own_string _ rfl (.tmp 73) (.tmp 74) 22 9 rfl w2.heap.size 5 i0 Try.underlying22 Try.underlying9 hi hz0 hz1 hz2 _ 2 _ rfl hown4 name rfl (by unfold maxLen; omega) (by omega) (by have q3 := hgrow3.size; have q3b := hgrow3b.size; simp at q3b; have q4 := hgrow4.size; simp at q4; omega) ?_; intro v5 w5 hown5 hgrow5 _; obtain ⟨g5, cp5, rfl⟩ := shape_of hown5 (by omega))
        | (at_builtin; refine wpList_append_own _ rfl (.tmp 76) (.tmp 77) 22 rfl w2.heap.size 5 i0 (.int .u8 0) 1 1 Try.underlying22 hi hz0 hz1 hz2 rfl (by decide) _ _ _ rfl (hown5.alloc _) ⟨w5.heap.size, 0, none⟩ 2 2 [.int .u8 34, .int .u8 58] rfl rfl (two_new _ _ _ _) (one_cell2 _ _) (by unfold maxLen; omega) (by omega) (by have q3 := hgrow3.size; have q3b := hgrow3b.size; simp at q3b; have q4 := hgrow4.size; simp at q4; have q5 := hgrow5.size; simp; omega) ?_; intro v6 w6 hown6 hgrow6 _; obtain ⟨g6, cp6, rfl⟩ := shape_of hown6 (by omega)))
      have b3 : Below w2.heap.size w2 w3 := (Below.refl _ _).grown hgrow3 (Nat.le_refl _) (fun k h => by cases h)
      have b3b : Below w2.heap.size w2 v3 := (b3.alloc b3.size _).grown hgrow3b (by simp; have := b3.size; omega) (fun k h => by cases h; exact Nat.le_refl _)
      have b4 : Below w2.heap.size w2 w4 := (b3b.alloc b3b.size _).grown hgrow4 (by simp; have := b3b.size; omega) (fun k h => by cases h; exact Nat.le_refl _)
      have b5 : Below w2.heap.size w2 w5 := b4.grown hgrow5 b4.size (fun k h => by cases h; exact Nat.le_refl _)
      have b6 : Below w2.heap.size w2 w6 := (b5.alloc b5.size _).grown hgrow6 (by simp; have := b5.size; omega) (fun k h => by cases h; exact (hown5.lt _ rfl).1)
      have b26 : Below w.heap.size w w6 := b2.trans (b6.mono b2.size)
      have hB6 := hB2.below b6
      rw [tokF_cells] at hown6
      have HT : Hid ((tok false (nums name)).length = 2 + name.size + 2) := by have := nums_length name; show _ = _; simp [tok, tokTail, this]; try omega
      obtain ⟨g7, cp7, e7, hT⟩ := Bys_tok hown6 (unhide HT) (by omega) (tok_by false name)
      injection e7 with e7a e7b e7c
      subst e7c
      injection e7a with e7d
      injection e7d with e7e
      subst e7e
      clear hown3 hown4 hown5 hown6 hgrow3 hgrow4 hgrow5 hgrow6 b3 b4 b5 b6 b2 hB2 hown3b hgrow3b b3b
      refine (hasPrefix_any _ _ _ _ _ _ (L.drop pos) (tok false (nums name)) _ (hB6.drop rfl pos hpos (fun _ => rfl) (fun h => absurd h hcp)) hT (by omega) (by omega)).mono ?_
      rintro e w7 ⟨rfl, d7⟩
      rw [unhide HP]
      have hTL := unhide HT
      have b7 : Below w.heap.size w w7 := b26.trans (d7.below.mono b26.size)
      clear HP HT hT hB6 d7 b26
      go_wp2
      go_ret
      exact ⟨rfl, b7⟩
  | false =>
    have HM := hide hmm
    clear hmm
    go_wp2_with fail
    refine (zfield_no a1 pos len cap1 L failed first name _ hB1 hpos (by omega) (by omega) (unhide HM)).mono ?_
    rintro e w2 ⟨rfl, d2⟩
    have b2 : Below w.heap.size w w2 := b1.trans (d2.mono b1.size)
    have hB2 := hB1.below d2
    clear hB1 b1 d2
    cases failed with
    | true =>
      clear HM
      cases first with
      | true =>
        go_wp2_with (first
          | (at_make; refine wpList_make_own _ rfl _ _ 22 rfl w2.heap.size 5 i0 (.int .u8 0) 1 Try.underlying22 hi hz0 hz1 _ _ _ (name.size + 4) rfl rfl (by omega) (by rw [hz2]; omega) (by unfold maxLen; omega) (Nat.le_refl _) ?_; intro w3 hown3 hgrow3)
          | (at_builtin; refine wpList_append_fits _ rfl (.tmp 70) (.tmp 71) 22 rfl w2.heap.size 5 i0 1 Try.underlying22 hi hz1 w2.heap.size 0 (name.size + 4) _ rfl (hown3.alloc _) ⟨w3.heap.size, 0, none⟩ 1 1 [.int .u8 34] rfl rfl (cell_one_new _ _ _) (one_cell1 _) (by omega) ?_; intro w4 hown4 hgrow4; simp only [Nat.zero_add, List.nil_append, Nat.reduceAdd] at hown4)
          | (at_builtin; refine Lib.wpList_append_own_string _ rfl (.tmp 73) (.tmp 74) 22 9 rfl w2.heap.size 5 i0 Try.underlying22 Try.underlying9 hi hz0 hz1 hz2 _ 1 _ rfl hown4 name rfl (by unfold maxLen; omega) (by omega) (by have q3 := hgrow3.size; have q4 := hgrow4.size; simp at q4; omega) ?_; intro v5 w5 hown5 hgrow5 _; obtain ⟨g5, cp5, rfl⟩ := shape_of hown5 (by omega))
          | (at_builtin; refine wpList_append_own _ rfl (.tmp 76) (.tmp 77) 22 rfl w2.heap.size 5 i0 (.int .u8 0) 1 1 Try.underlying22 hi hz0 hz1 hz2 rfl (by decide) _ _ _ rfl (hown5.alloc _) ⟨w5.heap.size, 0, none⟩ 2 2 [.int .u8 34, .int .u8 58] rfl rfl (two_new _ _ _ _) (one_cell2 _ _) (by unfold maxLen; omega) (by omega) (by have q3 := hgrow3.size; have q4 := hgrow4.size; simp at q4; have q5 := hgrow5.size; simp; omega) ?_; intro v6 w6 hown6 hgrow6 _; obtain ⟨g6, cp6, rfl⟩ := shape_of hown6 (by omega)))
        have b3 : Below w2.heap.size w2 w3 := (Below.refl _ _).grown hgrow3 (Nat.le_refl _) (fun k h => by cases h)
        have b4 : Below w2.heap.size w2 w4 := (b3.alloc b3.size _).grown hgrow4 (by simp; have := b3.size; omega) (fun k h => by cases h; exact Nat.le_refl _)
        have b5 : Below w2.heap.size w2 w5 := b4.grown hgrow5 b4.size (fun k h => by cases h; exact Nat.le_refl _)
        have b6 : Below w2.heap.size w2 w6 := (b5.alloc b5.size _).grown hgrow6 (by simp; have := b5.size; omega) (fun k h => by cases h; exact (hown5.lt _ rfl).1)
        have b26 : Below w.heap.size w w6 := b2.trans (b6.mono b2.size)
        have hB6 := hB2.below b6
        rw [tokT_cells] at hown6
        have HT : Hid ((tok true (nums name)).length = 1 + name.size + 2) := by have := nums_length name; show _ = _; simp [tok, tokTail, this]; try omega
        obtain ⟨g7, cp7, e7, hT⟩ := Bys_tok hown6 (unhide HT) (by omega) (tok_by true name)
        injection e7 with e7a e7b e7c
        subst e7c
        injection e7a with e7d
        injection e7d with e7e
        subst e7e
        clear hown3 hown4 hown5 hown6 hgrow3 hgrow4 hgrow5 hgrow6 b3 b4 b5 b6 b2 hB2
        clear HT hT hB6
        go_wp2
        go_ret
        exact ⟨rfl, b26⟩
      | false =>
        go_wp2_with (first
          | (at_make; refine wpList_make_own _ rfl _ _ 22 rfl w2.heap.size 5 i0 (.int .u8 0) 1 Try.underlying22 hi hz0 hz1 _ _ _ (name.size + 4) rfl rfl (by omega) (by rw [hz2]; omega) (by unfold maxLen; omega) (Nat.le_refl _) ?_; intro w3 hown3 hgrow3)
          | (at_builtin; refine wpList_append_fits _ rfl (.tmp 67) (.tmp 68) 22 rfl w2.heap.size 5 i0 1 Try.underlying22 hi hz1 w2.heap.size 0 (name.size + 4) _ rfl (hown3.alloc _) ⟨w3.heap.size, 0, none⟩ 1 1 [.int .u8 44] rfl rfl (cell_one_new _ _ _) (one_cell1 _) (by omega) ?_; intro v3 hown3b hgrow3b; simp only [Nat.zero_add, List.nil_append] at hown3b)
          | (at_builtin; refine wpList_append_fits _ rfl (.tmp 70) (.tmp 71) 22 rfl w2.heap.size 5 i0 1 Try.underlying22 hi hz1 w2.heap.size 1 (name.size + 4) _ rfl (hown3b.alloc _) ⟨v3.heap.size, 0, none⟩ 1 1 [.int .u8 34] rfl rfl (cell_one_new _ _ _) (one_cell1 _) (by omega) ?_; intro w4 hown4 hgrow4; simp only [Nat.zero_add, List.nil_append, Nat.reduceAdd] at hown4)
          | (at_builtin; refine Lib.wpList_append_own_string _ rfl (.tmp 73) (.tmp 74) 22 9 rfl w2.heap.size 5 i0 Try.underlying22 Try.underlying9 hi hz0 hz1 hz2 _ 2 _ rfl hown4 name rfl (by unfold maxLen; omega) (by omega) (by have q3 := hgrow3.size; have q3b := hgrow3b.size; simp at q3b; have q4 := hgrow4.size; simp at q4; omega) ?_; intro v5 w5 hown5 hgrow5 _; obtain ⟨g5, cp5, rfl⟩ := shape_of hown5 (by omega))
          | (at_builtin; refine wpList_append_own _ rfl (.tmp 76) (.tmp 77) 22 rfl w2.heap.size 5 i0 (.int .u8 0) 1 1 Try.underlying22 hi hz0 hz1 hz2 rfl (by decide) _ _ _ rfl (hown5.alloc _) ⟨w5.heap.size, 0, none⟩ 2 2 [.int .u8 34, .int .u8 58] rfl rfl (two_new _ _ _ _) (one_cell2 _ _) (by unfold maxLen; omega) (by omega) (by have q3 := hgrow3.size; have q3b := hgrow3b.size; simp at q3b; have q4 := hgrow4.size; simp at q4; have q5 := hgrow5.size; simp; omega) ?_; intro v6 w6 hown6 hgrow6 _; obtain ⟨g6, cp6, rfl⟩ := shape_of hown6 (by omega)))
        have b3 : Below w2.heap.size w2 w3 := (Below.refl _ _).grown hgrow3 (Nat.le_refl _) (fun k h => by cases h)
        have b3b : Below w2.heap.size w2 v3 := (b3.alloc b3.size _).grown hgrow3b (by simp; have := b3.size; omega) (fun k h => by cases h; exact Nat.le_refl _)
        have b4 : Below w2.heap.size w2 w4 := (b3b.alloc b3b.size _).grown hgrow4 (by simp; have := b3b.size; omega) (fun k h => by cases h; exact Nat.le_refl _)
        have b5 : Below w2.heap.size w2 w5 := b4.grown hgrow5 b4.size (fun k h => by cases h; exact Nat.le_refl _)
        have b6 : Below w2.heap.size w2 w6 := (b5.alloc b5.size _).grown hgrow6 (by simp; have := b5.size; omega) (fun k h => by cases h; exact (hown5.lt _ rfl).1)
        have b26 : Below w.heap.size w w6 := b2.trans (b6.mono b2.size)
        have hB6 := hB2.below b6
        rw [tokF_cells] at hown6
        have HT : Hid ((tok false (nums name)).length = 2 + name.size + 2) := by have := nums_length name; show _ = _; simp [tok, tokTail, this]; try omega
        obtain ⟨g7, cp7, e7, hT⟩ := Bys_tok hown6 (unhide HT) (by omega) (tok_by false name)
        injection e7 with e7a e7b e7c
        subst e7c
        injection e7a with e7d
        injection e7d with e7e
        subst e7e
        clear hown3 hown4 hown5 hown6 hgrow3 hgrow4 hgrow5 hgrow6 b3 b4 b5 b6 b2 hB2 hown3b hgrow3b b3b
        clear HT hT hB6
        go_wp2
        go_ret
        exact ⟨rfl, b26⟩
    | false =>
      have hpre : preB (L.drop pos) (tok first (nums name)) = false := by have := unhide HM; simpa [matchB] using this
      have HP := hide hpre
      clear hpre HM
      by_cases h0 : len ≤ 0
      · obtain rfl : len = 0 := by omega
        obtain rfl : pos = 0 := by omega
        cases first with
        | true =>
          go_wp2_with (first
            | (at_make; refine wpList_make_own _ rfl _ _ 22 rfl w2.heap.size 5 i0 (.int .u8 0) 1 Try.underlying22 hi hz0 hz1 _ _ _ (name.size + 4) rfl rfl (by omega) (by rw [hz2]; omega) (by unfold maxLen; omega) (Nat.le_refl _) ?_; intro w3 hown3 hgrow3)
            | (at_builtin; refine wpList_append_fits _ rfl (.tmp 70) (.tmp 71) 22 rfl w2.heap.size 5 i0 1 Try.underlying22 hi hz1 w2.heap.size 0 (name.size + 4) _ rfl (hown3.alloc _) ⟨w3.heap.size, 0, none⟩ 1 1 [.int .u8 34] rfl rfl (cell_one_new _ _ _) (one_cell1 _) (by omega) ?_; intro w4 hown4 hgrow4; simp only [Nat.zero_add, List.nil_append, Nat.reduceAdd] at hown4)
            | (at_builtin; refine Lib.wpList_append_own_string _ rfl (.tmp 73) (.tmp 74) 22 9 rfl w2.heap.size 5 i0 Try.underlying22 Try.underlying9 hi hz0 hz1 hz2 _ 1 _ rfl hown4 name rfl (by unfold maxLen; omega) (by omega) (by have q3 := hgrow3.size; have q4 := hgrow4.size; simp at q4; omega) ?_; intro v5 w5 hown5 hgrow5 _; obtain ⟨g5, cp5, rfl⟩ := shape_of hown5 (by omega))
            | (at_builtin; refine wpList_append_own _ rfl (.tmp 76) (.tmp 77) 22 rfl w2.heap.size 5 i0 (.int .u8 0) 1 1 Try.underlying22 hi hz0 hz1 hz2 rfl (by decide) _ _ _ rfl (hown5.alloc _) ⟨w5.heap.size, 0, none⟩ 2 2 [.int .u8 34, .int .u8 58] rfl rfl (two_new _ _ _ _) (one_cell2 _ _) (by unfold maxLen; omega) (by omega) (by have q3 := hgrow3.size; have q4 := hgrow4.size; simp at q4; have q5 := hgrow5.size; simp; omega) ?_; intro v6 w6 hown6 hgrow6 _; obtain ⟨g6, cp6, rfl⟩ := shape_of hown6 (by omega)))
          have b3 : Below w2.heap.size w2 w3 := (Below.refl _ _).grown hgrow3 (Nat.le_refl _) (fun k h => by cases h)
          have b4 : Below w2.heap.size w2 w4 := (b3.alloc b3.size _).grown hgrow4 (by simp; have := b3.size; omega) (fun k h => by cases h; exact Nat.le_refl _)
          have b5 : Below w2.heap.size w2 w5 := b4.grown hgrow5 b4.size (fun k h => by cases h; exact Nat.le_refl _)
          have b6 : Below w2.heap.size w2 w6 := (b5.alloc b5.size _).grown hgrow6 (by simp; have := b5.size; omega) (fun k h => by cases h; exact (hown5.lt _ rfl).1)
          have b26 : Below w.heap.size w w6 := b2.trans (b6.mono b2.size)
          have hB6 := hB2.below b6
          rw [tokT_cells] at hown6
          have HT : Hid ((tok true (nums name)).length = 1 + name.size + 2) := by have := nums_length name; show _ = _; simp [tok, tokTail, this]; try omega
          obtain ⟨g7, cp7, e7, hT⟩ := Bys_tok hown6 (unhide HT) (by omega) (tok_by true name)
          injection e7 with e7a e7b e7c
          subst e7c
          injection e7a with e7d
          injection e7d with e7e
          subst e7e
          clear hown3 hown4 hown5 hown6 hgrow3 hgrow4 hgrow5 hgrow6 b3 b4 b5 b6 b2 hB2
          refine (hasPrefix_any _ _ _ _ _ _ (L.drop 0) (tok true (nums name)) _ (by simpa using hB6) hT (by omega) (by omega)).mono ?_
          rintro e w7 ⟨rfl, d7⟩
          rw [unhide HP]
          have b7 : Below w.heap.size w w7 := b26.trans (d7.below.mono b26.size)
          clear HP HT hT hB6 d7 b26
          go_wp2
          go_ret
          exact ⟨rfl, b7⟩
        | false =>
          go_wp2_with (first
            | (at_make; refine wpList_make_own _ rfl _ _ 22 rfl w2.heap.size 5 i0 (.int .u8 0) 1 Try.underlying22 hi hz0 hz1 _ _ _ (name.size + 4) rfl rfl (by omega) (by rw [hz2]; omega) (by unfold maxLen; omega) (Nat.le_refl _) ?_; intro w3 hown3 hgrow3)
            | (at_builtin; refine wpList_append_fits _ rfl (.tmp 67) (.tmp 68) 22 rfl w2.heap.size 5 i0 1 Try.underlying22 hi hz1 w2.heap.size 0 (name.size + 4) _ rfl (hown3.alloc _) ⟨w3.heap.size, 0, none⟩ 1 1 [.int .u8 44] rfl rfl (cell_one_new _ _ _) (one_cell1 _) (by omega) ?_; intro v3 hown3b hgrow3b; simp only [Nat.zero_add, List.nil_append] at hown3b)
            | (at_builtin; refine wpList_append_fits _ rfl (.tmp 70) (.tmp 71) 22 rfl w2.heap.size 5 i0 1 Try.underlying22 hi hz1 w2.heap.size 1 (name.size + 4) _ rfl (hown3b.alloc _) ⟨v3.heap.size, 0, none⟩ 1 1 [.int .u8 34] rfl rfl (cell_one_new _ _ _) (one_cell1 _) (by omega) ?_; intro w4 hown4 hgrow4; simp only [Nat.zero_add, List.nil_append, Nat.reduceAdd] at hown4)
            | (at_builtin; refine Lib.wpList_append_own_string _ rfl (.tmp 73) (.tmp 74) 22 9 rfl w2.heap.size 5 i0 Try.underlying22 Try.underlying9 hi hz0 hz1 hz2 _ 2 _ rfl hown4 name rfl (by unfold maxLen; omega) (by omega) (by have q3 := hgrow3.size; have q3b := hgrow3b.size; simp at q3b; have q4 := hgrow4.size; simp at q4; omega) ?_; intro v5 w5 hown5 hgrow5 _; obtain ⟨g5, cp5, rfl⟩ := shape_of hown5 (by omega))
            | (at_builtin; refine wpList_append_own _ rfl (.tmp 76) (.tmp 77) 22 rfl w2.heap.size 5 i0 (.int .u8 0) 1 1 Try.underlying22 hi hz0 hz1 hz2 rfl (by decide) _ _ _ rfl (hown5.alloc _) ⟨w5.heap.size, 0, none⟩ 2 2 [.int .u8 34, .int .u8 58] rfl rfl (two_new _ _ _ _) (one_cell2 _ _) (by unfold maxLen; omega) (by omega) (by have q3 := hgrow3.size; have q3b := hgrow3b.size; simp at q3b; have q4 := hgrow4.size; simp at q4; have q5 := hgrow5.size; simp; omega) ?_; intro v6 w6 hown6 hgrow6 _; obtain ⟨g6, cp6, rfl⟩ := shape_of hown6 (by omega)))
          have b3 : Below w2.heap.size w2 w3 := (Below.refl _ _).grown hgrow3 (Nat.le_refl _) (fun k h => by cases h)
          have b3b : Below w2.heap.size w2 v3 := (b3.alloc b3.size _).grown hgrow3b (by simp; have := b3.size; omega) (fun k h => by cases h; exact Nat.le_refl _)
          have b4 : Below w2.heap.size w2 w4 := (b3b.alloc b3b.size _).grown hgrow4 (by simp; have := b3b.size; omega) (fun k h => by cases h; exact Nat.le_refl _)
          have b5 : Below w2.heap.size w2 w5 := b4.grown hgrow5 b4.size (fun k h => by cases h; exact Nat.le_refl _)
          have b6 : Below w2.heap.size w2 w6 := (b5.alloc b5.size _).grown hgrow6 (by simp; have := b5.size; omega) (fun k h => by cases h; exact (hown5.lt _ rfl).1)
          have b26 : Below w.heap.size w w6 := b2.trans (b6.mono b2.size)
          have hB6 := hB2.below b6
          rw [tokF_cells] at hown6
          have HT : Hid ((tok false (nums name)).length = 2 + name.size + 2) := by have := nums_length name; show _ = _; simp [tok, tokTail, this]; try omega
          obtain ⟨g7, cp7, e7, hT⟩ := Bys_tok hown6 (unhide HT) (by omega) (tok_by false name)
          injection e7 with e7a e7b e7c
          subst e7c
          injection e7a with e7d
          injection e7d with e7e
          subst e7e
          clear hown3 hown4 hown5 hown6 hgrow3 hgrow4 hgrow5 hgrow6 b3 b4 b5 b6 b2 hB2 hown3b hgrow3b b3b
          refine (hasPrefix_any _ _ _ _ _ _ (L.drop 0) (tok false (nums name)) _ (by simpa using hB6) hT (by omega) (by omega)).mono ?_
          rintro e w7 ⟨rfl, d7⟩
          rw [unhide HP]
          have b7 : Below w.heap.size w w7 := b26.trans (d7.below.mono b26.size)
          clear HP HT hT hB6 d7 b26
          go_wp2
          go_ret
          exact ⟨rfl, b7⟩
      · obtain ⟨b, off, ha, hblt, _⟩ := hB2.cells (by omega)
        subst ha
        by_cases hcp : cap1 = pos
        · have hlp : len = pos := by have := hB2.hcap; omega
          subst hlp
          subst hcp
          cases first with
          | true =>
            go_wp2_with (first
              | (at_make; refine wpList_make_own _ rfl _ _ 22 rfl w2.heap.size 5 i0 (.int .u8 0) 1 Try.underlying22 hi hz0 hz1 _ _ _ (name.size + 4) rfl rfl (by omega) (by rw [hz2]; omega) (by unfold maxLen; omega) (Nat.le_refl _) ?_; intro w3 hown3 hgrow3)
              | (at_builtin; refine wpList_append_fits _ rfl (.tmp 70) (.tmp 71) 22 rfl w2.heap.size 5 i0 1 Try.underlying22 hi hz1 w2.heap.size 0 (name.size + 4) _ rfl (hown3.alloc _) ⟨w3.heap.size, 0, none⟩ 1 1 [.int .u8 34] rfl rfl (cell_one_new _ _ _) (one_cell1 _) (by omega) ?_; intro w4 hown4 hgrow4; simp only [Nat.zero_add, List.nil_append, Nat.reduceAdd] at hown4)
              | (at_builtin; refine Lib.wpList_append_own_string _ rfl (.tmp 73) (.tmp 74) 22 9 rfl w2.heap.size 5 i0 Try.underlying22 Try.underlying9 hi hz0 hz1 hz2 _ 1 _ rfl hown4 name rfl (by unfold maxLen; omega) (by omega) (by have q3 := hgrow3.size; have q4 := hgrow4.size; simp at q4; omega) ?_; intro v5 w5 hown5 hgrow5 _; obtain ⟨g5, cp5, rfl⟩ := shape_of hown5 (by omega))
              | (at_builtin; refine wpList_append_own _ rfl (.tmp 76) (.tmp 77) 22 rfl w2.heap.size 5 i0 (.int .u8 0) 1 1 Try.underlying22 hi hz0 hz1 hz2 rfl (by decide) _ _ _ rfl (hown5.alloc _) ⟨w5.heap.size, 0, none⟩ 2 2 [.int .u8 34, .int .u8 58] rfl rfl (two_new _ _ _ _) (one_cell2 _ _) (by unfold maxLen; omega) (by omega) (by have q3 := hgrow3.size; have q4 := hgrow4.size; simp at q4; have q5 := hgrow5.size; simp; omega) ?_; intro v6 w6 hown6 hgrow6 _; obtain ⟨g6, cp6, rfl⟩ := shape_of hown6 (by omega)))
            have b3 : Below w2.heap.size w2 w3 := (Below.refl _ _).grown hgrow3 (Nat.le_refl _) (fun k h => by cases h)
            have b4 : Below w2.heap.size w2 w4 := (b3.alloc b3.size _).grown hgrow4 (by simp; have := b3.size; omega) (fun k h => by cases h; exact Nat.le_refl _)
            have b5 : Below w2.heap.size w2 w5 := b4.grown hgrow5 b4.size (fun k h => by cases h; exact Nat.le_refl _)
            have b6 : Below w2.heap.size w2 w6 := (b5.alloc b5.size _).grown hgrow6 (by simp; have := b5.size; omega) (fun k h => by cases h; exact (hown5.lt _ rfl).1)
            have b26 : Below w.heap.size w w6 := b2.trans (b6.mono b2.size)
            have hB6 := hB2.below b6
            rw [tokT_cells] at hown6
            have HT : Hid ((tok true (nums name)).length = 1 + name.size + 2) := by have := nums_length name; show _ = _; simp [tok, tokTail, this]; try omega
            obtain ⟨g7, cp7, e7, hT⟩ := Bys_tok hown6 (unhide HT) (by omega) (tok_by true name)
            injection e7 with e7a e7b e7c
            subst e7c
            injection e7a with e7d
            injection e7d with e7e
            subst e7e
            clear hown3 hown4 hown5 hown6 hgrow3 hgrow4 hgrow5 hgrow6 b3 b4 b5 b6 b2 hB2
            refine (hasPrefix_any _ _ _ _ _ _ (L.drop _) (tok true (nums name)) _ (Bys_zero hB6.hlen) hT (by omega) (by omega)).mono ?_
            rintro e w7 ⟨rfl, d7⟩
            rw [unhide HP]
            have b7 : Below w.heap.size w w7 := b26.trans (d7.below.mono b26.size)
            clear HP HT hT hB6 d7 b26
            go_wp2
            go_ret
            exact ⟨rfl, b7⟩
          | false =>
            go_wp2_with (first
              | (at_make; refine wpList_make_own _ rfl _ _ 22 rfl w2.heap.size 5 i0 (.int .u8 0) 1 Try.underlying22 hi hz0 hz1 _ _ _ (name.size + 4) rfl rfl (by omega) (by rw [hz2]; omega) (by unfold maxLen; omega) (Nat.le_refl _) ?_; intro w3 hown3 hgrow3)
              | (at_builtin; refine wpList_append_fits _ rfl (.tmp 67) (.tmp 68) 22 rfl w2.heap.size 5 i0 1 Try.underlying22 hi hz1 w2.heap.size 0 (name.size + 4) _ rfl (hown3.alloc _) ⟨w3.heap.size, 0, none⟩ 1 1 [.int .u8 44] rfl rfl (cell_one_new _ _ _) (one_cell1 _) (by omega) ?_; intro v3 hown3b hgrow3b; simp only [Nat.zero_add, List.nil_append] at hown3b)
              | (at_builtin; refine wpList_append_fits _ rfl (.tmp 70) (.tmp 71) 22 rfl w2.heap.size 5 i0 1 Try.underlying22 hi hz1 w2.heap.size 1 (name.size + 4) _ rfl (hown3b.alloc _) ⟨v3.heap.size, 0, none⟩ 1 1 [.int .u8 34] rfl rfl (cell_one_new _ _ _) (one_cell1 _) (by omega) ?_; intro w4 hown4 hgrow4; simp only [Nat.zero_add, List.nil_append, Nat.reduceAdd] at hown4)
              | (at_builtin; refine Lib.wpList_append_own_string _ rfl (.tmp 73) (.tmp 74) 22 9 rfl w2.heap.size 5 i0 Try.underlying22 Try.underlying9 hi hz0 hz1 hz2 _ 2 _ rfl hown4 name rfl (by unfold maxLen; omega) (by omega) (by have q3 := hgrow3.size; have q3b := hgrow3b.size; simp at q3b; have q4 := hgrow4.size; simp at q4; omega) ?_; intro v5 w5 hown5 hgrow5 _; obtain ⟨g5, cp5, rfl⟩ := shape_of hown5 (by omega))
              | (at_builtin; refine wpList_append_own _ rfl (.tmp 76) (.tmp 77) 22 rfl w2.heap.size 5 i0 (.int .u8 0) 1 1 Try.underlying22 hi hz0 hz1 hz2 rfl (by decide) _ _ _ rfl (hown5.alloc _) ⟨w5.heap.size, 0, none⟩ 2 2 [.int .u8 34, .int .u8 58] rfl rfl (two_new _ _ _ _) (one_cell2 _ _) (by unfold maxLen; omega) (by omega) (by have q3 := hgrow3.size; have q3b := hgrow3b.size; simp at q3b; have q4 := hgrow4.size; simp at q4; have q5 := hgrow5.size; simp; omega) ?_; intro v6 w6 hown6 hgrow6 _; obtain ⟨g6, cp6, rfl⟩ := shape_of hown6 (by omega)))
            have b3 : Below w2.heap.size w2 w3 := (Below.refl _ _).grown hgrow3 (Nat.le_refl _) (fun k h => by cases h)
            have b3b : Below w2.heap.size w2 v3 := (b3.alloc b3.size _).grown hgrow3b (by simp; have := b3.size; omega) (fun k h => by cases h; exact Nat.le_refl _)
            have b4 : Below w2.heap.size w2 w4 := (b3b.alloc b3b.size _).grown hgrow4 (by simp; have := b3b.size; omega) (fun k h => by cases h; exact Nat.le_refl _)
            have b5 : Below w2.heap.size w2 w5 := b4.grown hgrow5 b4.size (fun k h => by cases h; exact Nat.le_refl _)
            have b6 : Below w2.heap.size w2 w6 := (b5.alloc b5.size _).grown hgrow6 (by simp; have := b5.size; omega) (fun k h => by cases h; exact (hown5.lt _ rfl).1)
            have b26 : Below w.heap.size w w6 := b2.trans (b6.mono b2.size)
            have hB6 := hB2.below b6
            rw [tokF_cells] at hown6
            have HT : Hid ((tok false (nums name)).length = 2 + name.size + 2) := by have := nums_length name; show _ = _; simp [tok, tokTail, this]; try omega
            obtain ⟨g7, cp7, e7, hT⟩ := Bys_tok hown6 (unhide HT) (by omega) (tok_by false name)
            injection e7 with e7a e7b e7c
            subst e7c
            injection e7a with e7d
            injection e7d with e7e
            subst e7e
            clear hown3 hown4 hown5 hown6 hgrow3 hgrow4 hgrow5 hgrow6 b3 b4 b5 b6 b2 hB2 hown3b hgrow3b b3b
            refine (hasPrefix_any _ _ _ _ _ _ (L.drop _) (tok false (nums name)) _ (Bys_zero hB6.hlen) hT (by omega) (by omega)).mono ?_
            rintro e w7 ⟨rfl, d7⟩
            rw [unhide HP]
            have b7 : Below w.heap.size w w7 := b26.trans (d7.below.mono b26.size)
            clear HP HT hT hB6 d7 b26
            go_wp2
            go_ret
            exact ⟨rfl, b7⟩
        · cases first with
          | true =>
            go_wp2_with (first
              | (at_make; refine wpList_make_own _ rfl _ _ 22 rfl w2.heap.size 5 i0 (.int .u8 0) 1 Try.underlying22 hi hz0 hz1 _ _ _ (name.size + 4) rfl rfl (by omega) (by rw [hz2]; omega) (by unfold maxLen; omega) (Nat.le_refl _) ?_; intro w3 hown3 hgrow3)
              | (at_builtin; refine wpList_append_fits _ rfl (.tmp 70) (.tmp 71) 22 rfl w2.heap.size 5 i0 1 Try.underlying22 hi hz1 w2.heap.size 0 (name.size + 4) _ rfl (hown3.alloc _) ⟨w3.heap.size, 0, none⟩ 1 1 [.int .u8 34] rfl rfl (cell_one_new _ _ _) (one_cell1 _) (by omega) ?_; intro w4 hown4 hgrow4; simp only [Nat.zero_add, List.nil_append, Nat.reduceAdd] at hown4)
              | (at_builtin; refine Lib.wpList_append_own_string _ rfl (.tmp 73) (.tmp 74) 22 9 rfl w2.heap.size 5 i0 Try.underlying22 Try.underlying9 hi hz0 hz1 hz2 _ 1 _ rfl hown4 name rfl (by unfold maxLen; omega) (by omega) (by have q3 := hgrow3.size; have q4 := hgrow4.size; simp at q4; omega) ?_; intro v5 w5 hown5 hgrow5 _; obtain ⟨g5, cp5, rfl⟩ := shape_of hown5 (by omega))
              | (at_builtin; refine wpList_append_own _ rfl (.tmp 76) (.tmp 77) 22 rfl w2.heap.size 5 i0 (.int .u8 0) 1 1 Try.underlying22 hi hz0 hz1 hz2 rfl (by decide) _ _ _ rfl (hown5.alloc _) ⟨w5.heap.size, 0, none⟩ 2 2 [.int .u8 34, .int .u8 58] rfl rfl (two_new _ _ _ _) (one_cell2 _ _) (by unfold maxLen; omega) (by omega) (by have q3 := hgrow3.size; have q4 := hgrow4.size; simp at q4; have q5 := hgrow5.size; simp; omega) ?_; intro v6 w6 hown6 hgrow6 _; obtain ⟨g6, cp6, rfl⟩ := shape_of hown6 (by omega)))
            have b3 : Below w2.heap.size w2 w3 := (Below.refl _ _).grown hgrow3 (Nat.le_refl _) (fun k h => by cases h)
            have b4 : Below w2.heap.size w2 w4 := (b3.alloc b3.size _).grown hgrow4 (by simp; have := b3.size; omega) (fun k h => by cases h; exact Nat.le_refl _)
            have b5 : Below w2.heap.size w2 w5 := b4.grown hgrow5 b4.size (fun k h => by cases h; exact Nat.le_refl _)
            have b6 : Below w2.heap.size w2 w6 := (b5.alloc b5.size _).grown hgrow6 (by simp; have := b5.size; omega) (fun k h => by cases h; exact (hown5.lt _ rfl).1)
            have b26 : Below w.heap.size w w6 := b2.trans (b6.mono b2.size)
            have hB6 := hB2.below b6
            rw [tokT_cells] at hown6
            have HT : Hid ((tok true (nums name)).length = 1 + name.size + 2) := by have := nums_length name; show _ = _; simp [tok, tokTail, this]; try omega
            obtain ⟨g7, cp7, e7, hT⟩ := Bys_tok hown6 (unhide HT) (by omega) (tok_by true name)
            injection e7 with e7a e7b e7c
            subst e7c
            injection e7a with e7d
            injection e7d with e7e
            subst e7e
            clear hown3 hown4 hown5 hown6 hgrow3 hgrow4 hgrow5 hgrow6 b3 b4 b5 b6 b2 hB2
            refine (hasPrefix_any _ _ _ _ _ _ (L.drop pos) (tok true (nums name)) _ (hB6.drop rfl pos hpos (fun _ => rfl) (fun h => absurd h hcp)) hT (by omega) (by omega)).mono ?_
            rintro e w7 ⟨rfl, d7⟩
            rw [unhide HP]
            have b7 : Below w.heap.size w w7 := b26.trans (d7.below.mono b26.size)
            clear HP HT hT hB6 d7 b26
            go_wp2
            go_ret
            exact ⟨rfl, b7⟩
          | false =>
            go_wp2_with (first
              | (at_make; refine wpList_make_own _ rfl _ _ 22 rfl w2.heap.size 5 i0 (.int .u8 0) 1 Try.underlying22 hi hz0 hz1 _ _ _ (name.size + 4) rfl rfl (by omega) (by rw [hz2]; omega) (by unfold maxLen; omega) (Nat.le_refl _) ?_; intro w3 hown3 hgrow3)
              | (at_builtin; refine wpList_append_fits _ rfl (.tmp 67) (.tmp 68) 22 rfl w2.heap.size 5 i0 1 Try.underlying22 hi hz1 w2.heap.size 0 (name.size + 4) _ rfl (hown3.alloc _) ⟨w3.heap.size, 0, none⟩ 1 1 [.int .u8 44] rfl rfl (cell_one_new _ _ _) (one_cell1 _) (by omega) ?_; intro v3 hown3b hgrow3b; simp only [Nat.zero_add, List.nil_append] at hown3b)
              | (at_builtin; refine wpList_append_fits _ rfl (.tmp 70) (.tmp 71) 22 rfl w2.heap.size 5 i0 1 Try.underlying22 hi hz1 w2.heap.size 1 (name.size + 4) _ rfl (hown3b.alloc _) ⟨v3.heap.size, 0, none⟩ 1 1 [.int .u8 34] rfl rfl (cell_one_new _ _ _) (one_cell1 _) (by omega) ?_; intro w4 hown4 hgrow4; simp only [Nat.zero_add, List.nil_append, Nat.reduceAdd] at hown4)
              | (at_builtin; refine Lib.wpList_append_own_string _ rfl (.tmp 73) (.tmp 74) 22 9 rfl w2.heap.size 5 i0 Try.underlying22 Try.underlying9 hi hz0 hz1 hz2 _ 2 _ rfl hown4 name rfl (by unfold maxLen; omega) (by omega) (by have q3 := hgrow3.size; have q3b := hgrow3b.size; simp at q3b; have q4 := hgrow4.size; simp at q4; omega) ?_; intro v5 w5 hown5 hgrow5 _; obtain ⟨g5, cp5, rfl⟩ := shape_of hown5 (by omega))
              | (at_builtin; refine wpList_append_own _ rfl (.tmp 76) (.tmp 77) 22 rfl w2.heap.size 5 i0 (.int .u8 0) 1 1 Try.underlying22 hi hz0 hz1 hz2 rfl (by decide) _ _ _ rfl (hown5.alloc _) ⟨w5.heap.size, 0, none⟩ 2 2 [.int .u8 34, .int .u8 58] rfl rfl (two_new _ _ _ _) (one_cell2 _ _) (by unfold maxLen; omega) (by omega) (by have q3 := hgrow3.size; have q3b := hgrow3b.size; simp at q3b; have q4 := hgrow4.size; simp at q4; have q5 := hgrow5.size; simp; omega) ?_; intro v6 w6 hown6 hgrow6 _; obtain ⟨g6, cp6, rfl⟩ := shape_of hown6 (by omega)))
            have b3 : Below w2.heap.size w2 w3 := (Below.refl _ _).grown hgrow3 (Nat.le_refl _) (fun k h => by cases h)
            have b3b : Below w2.heap.size w2 v3 := (b3.alloc b3.size _).grown hgrow3b (by simp; have := b3.size; omega) (fun k h => by cases h; exact Nat.le_refl _)
            have b4 : Below w2.heap.size w2 w4 := (b3b.alloc b3b.size _).grown hgrow4 (by simp; have := b3b.size; omega) (fun k h => by cases h; exact Nat.le_refl _)
            have b5 : Below w2.heap.size w2 w5 := b4.grown hgrow5 b4.size (fun k h => by cases h; exact Nat.le_refl _)
            have b6 : Below w2.heap.size w2 w6 := (b5.alloc b5.size _).grown hgrow6 (by simp; have := b5.size; omega) (fun k h => by cases h; exact (hown5.lt _ rfl).1)
            have b26 : Below w.heap.size w w6 := b2.trans (b6.mono b2.size)
            have hB6 := hB2.below b6
            rw [tokF_cells] at hown6
            have HT : Hid ((tok false (nums name)).length = 2 + name.size + 2) := by have := nums_length name; show _ = _; simp [tok, tokTail, this]; try omega
            obtain ⟨g7, cp7, e7, hT⟩ := Bys_tok hown6 (unhide HT) (by omega) (tok_by false name)
            injection e7 with e7a e7b e7c
            subst e7c
            injection e7a with e7d
            injection e7d with e7e
            subst e7e
            clear hown3 hown4 hown5 hown6 hgrow3 hgrow4 hgrow5 hgrow6 b3 b4 b5 b6 b2 hB2 hown3b hgrow3b b3b
            refine (hasPrefix_any _ _ _ _ _ _ (L.drop pos) (tok false (nums name)) _ (hB6.drop rfl pos hpos (fun _ => rfl) (fun h => absurd h hcp)) hT (by omega) (by omega)).mono ?_
            rintro e w7 ⟨rfl, d7⟩
            rw [unhide HP]
            have b7 : Below w.heap.size w w7 := b26.trans (d7.below.mono b26.size)
            clear HP HT hT hB6 d7 b26
            go_wp2
            go_ret
            exact ⟨rfl, b7⟩

end Go.Proofs.Qxb6600904a
