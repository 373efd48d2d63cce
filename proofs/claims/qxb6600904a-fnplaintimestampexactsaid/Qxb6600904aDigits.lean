/-
  DIGITS, PLAINLY: the number a run of digits makes, its decimal text, leading zeros struck; the shape of a timestamp.
-/
import Derived.Test.Qxb6600904aBase
namespace Go.Proofs.Qxb6600904a
set_option linter.unusedVariables false

/-- A decimal digit. -/
def isD (x : Int) : Bool := decide (48 ≤ x) && decide (x ≤ 57)
theorem isD_iff {x : Int} : isD x = true ↔ 48 ≤ x ∧ x ≤ 57 := by simp [isD]
theorem isD_no {x : Int} : isD x = false ↔ x < 48 ∨ 57 < x := by
  rw [← Bool.not_eq_true, isD_iff]; omega
def AllD (L : List Int) : Prop := ∀ x ∈ L, isD x = true
theorem AllD.nil : AllD [] := fun x h => by cases h
theorem AllD.snoc {L : List Int} {x : Int} (h : AllD L) (hx : isD x = true) : AllD (L ++ [x]) := by
  intro y hy
  rcases List.mem_append.1 hy with h1 | h1
  · exact h y h1
  · rw [List.mem_singleton.1 h1]; exact hx

/-- The number that digits make. -/
def val (L : List Int) : Nat := L.foldl (fun a x => a * 10 + (x - 48).toNat) 0
theorem val_snoc (L : List Int) (x : Int) : val (L ++ [x]) = val L * 10 + (x - 48).toNat := by simp [val]
theorem val_zero_cons (L : List Int) : val (48 :: L) = val L := by simp [val]

theorem snoc_ind {p : List Int → Prop} (h0 : p []) (h1 : ∀ L x, p L → p (L ++ [x])) (L : List Int) : p L := by
  have h : ∀ M : List Int, p M.reverse := by
    intro M
    induction M with
    | nil => exact h0
    | cons x M ih => rw [List.reverse_cons]; exact h1 _ _ ih
  have := h L.reverse
  rwa [List.reverse_reverse] at this

theorem val_lt (L : List Int) : AllD L → val L < 10 ^ L.length := by
  refine snoc_ind (p := fun L => AllD L → val L < 10 ^ L.length) (fun _ => by decide) ?_ L
  intro L x ih h
  have h1 := ih (fun y hy => h y (List.mem_append_left _ hy))
  have h2 := isD_iff.1 (h x (List.mem_append_right _ (List.mem_singleton.2 rfl)))
  rw [val_snoc, List.length_append, List.length_singleton, Nat.pow_succ]
  omega
theorem val_lt_of {L : List Int} {n : Nat} (h : AllD L) (hn : L.length ≤ n) : val L < 10 ^ n :=
  Nat.lt_of_lt_of_le (val_lt L h) (Nat.pow_le_pow_right (by omega) hn)

/-- The decimal text of a number. -/
def decF : Nat → Nat → List Int
  | 0, u => [48 + (u : Int)]
  | f + 1, u => if u < 10 then [48 + (u : Int)] else decF f (u / 10) ++ [48 + ((u % 10 : Nat) : Int)]
def dec (u : Nat) : List Int := decF u u
theorem decF_same : ∀ (f g u : Nat), u ≤ f → u ≤ g → decF f u = decF g u
  | 0, 0, u, _, _ => rfl
  | 0, g + 1, u, h, _ => by rw [decF, decF, if_pos (by omega)]
  | f + 1, 0, u, _, h => by rw [decF, decF, if_pos (by omega)]
  | f + 1, g + 1, u, h1, h2 => by
    rw [decF, decF]
    split
    · rfl
    · rw [decF_same f g (u / 10) (by omega) (by omega)]

theorem dec_small {u : Nat} (h : u < 10) : dec u = [48 + (u : Int)] := by
  unfold dec
  cases u with
  | zero => rfl
  | succ u => rw [decF, if_pos h]
theorem dec_big {u : Nat} (h : ¬ u < 10) : dec u = dec (u / 10) ++ [48 + ((u % 10 : Nat) : Int)] := by
  unfold dec
  cases u with
  | zero => omega
  | succ u => rw [decF, if_neg h, decF_same u ((u + 1) / 10) ((u + 1) / 10) (by omega) (by omega)]

theorem val_pos (L : List Int) : L ≠ [] → AllD L → L.head? ≠ some 48 → 0 < val L := by
  refine snoc_ind (p := fun L => L ≠ [] → AllD L → L.head? ≠ some 48 → 0 < val L) (fun h => absurd rfl h) ?_ L
  intro L x ih _ h h48
  have h2 := isD_iff.1 (h x (List.mem_append_right _ (List.mem_singleton.2 rfl)))
  rw [val_snoc]
  cases L with
  | nil =>
    simp at h48
    omega
  | cons y L =>
    have := ih (by simp) (fun z hz => h z (List.mem_append_left _ hz)) (by simpa using h48)
    omega

theorem dec_val (L : List Int) : L ≠ [] → AllD L → (L.length = 1 ∨ L.head? ≠ some 48) → dec (val L) = L := by
  refine snoc_ind (p := fun L => L ≠ [] → AllD L → (L.length = 1 ∨ L.head? ≠ some 48) → dec (val L) = L) (fun h => absurd rfl h) ?_ L
  intro L x ih _ h hd
  have h2 := isD_iff.1 (h x (List.mem_append_right _ (List.mem_singleton.2 rfl)))
  rw [val_snoc]
  cases L with
  | nil =>
    rw [show val [] = 0 from rfl, dec_small (by omega)]
    simp
    omega
  | cons y L =>
    have hd' : (y :: L).head? ≠ some 48 := by
      rcases hd with h | h
      · simp at h
      · simpa using h
    have hall : AllD (y :: L) := fun z hz => h z (List.mem_append_left _ hz)
    have hp := val_pos (y :: L) (by simp) hall hd'
    rw [dec_big (by omega), show (val (y :: L) * 10 + (x - 48).toNat) / 10 = val (y :: L) by omega, show (val (y :: L) * 10 + (x - 48).toNat) % 10 = (x - 48).toNat by omega, ih (by simp) hall (Or.inr hd')]
    congr 1
    simp
    omega

/-- Leading zeros struck, one digit kept. -/
def strip : List Int → List Int
  | [] => []
  | [x] => [x]
  | x :: y :: ys => if x = 48 then strip (y :: ys) else x :: y :: ys

theorem strip_dec (L : List Int) (h0 : L ≠ []) (h : AllD L) : strip L = dec (val L) := by
  induction L with
  | nil => exact absurd rfl h0
  | cons x L ih =>
    cases L with
    | nil => rw [strip]; exact (dec_val [x] (by simp) h (Or.inl rfl)).symm
    | cons y ys =>
      rw [strip]
      split
      · next e => subst e; rw [val_zero_cons]; exact ih (by simp) (fun z hz => h z (List.mem_cons_of_mem _ hz))
      · next e => exact (dec_val _ (by simp) h (Or.inr (by simpa using e))).symm

theorem strip_zero {L : List Int} {k : Nat} (hk : k + 1 < L.length) (h : L[k]'(by omega) = 48) : strip (L.drop k) = strip (L.drop (k + 1)) := by
  rw [List.drop_eq_getElem_cons (show k < L.length by omega), List.drop_eq_getElem_cons (show k + 1 < L.length by omega), h, strip, if_pos rfl]
theorem strip_last {L : List Int} {k : Nat} (hk : k + 1 = L.length) : strip (L.drop k) = L.drop k := by
  rw [List.drop_eq_getElem_cons (show k < L.length by omega), List.drop_eq_nil_of_le (by omega), strip]
theorem strip_stop {L : List Int} {k : Nat} (hk : k < L.length) (h : L[k] ≠ 48) : strip (L.drop k) = L.drop k := by
  rw [List.drop_eq_getElem_cons hk]
  cases L.drop (k + 1) with
  | nil => rw [strip]
  | cons y ys => rw [strip, if_neg h]

/-! ### Pieces -/
/-- From place 'f' up to place 'k'. -/
def seg (L : List Int) (f k : Nat) : List Int := (L.drop f).take (k - f)
theorem seg_self (L : List Int) (k : Nat) : seg L k k = [] := by simp [seg]
theorem seg_length {L : List Int} {f k : Nat} (h : f ≤ k) (hk : k ≤ L.length) : (seg L f k).length = k - f := by simp [seg]; omega
theorem seg_step {L : List Int} {f k : Nat} (h : f ≤ k) (hk : k < L.length) : seg L f (k + 1) = seg L f k ++ [L[k]] := by
  unfold seg
  rw [show k + 1 - f = (k - f) + 1 by omega, List.take_succ_eq_append_getElem (by simp; omega)]
  congr 1
  simp [show f + (k - f) = k by omega]
theorem drop_seg {L : List Int} {f k : Nat} (h : f ≤ k) : L.drop f = seg L f k ++ L.drop k := by
  unfold seg
  conv => lhs; rw [← List.take_append_drop (k - f) (L.drop f)]
  rw [List.drop_drop, show f + (k - f) = k by omega]

/-- The run of digits at place 'f'. -/
def digs (L : List Int) (f : Nat) : List Int := (L.drop f).takeWhile isD
theorem digs_all (L : List Int) (f : Nat) : AllD (digs L f) := fun x hx => by
  have := List.all_takeWhile (l := L.drop f) (p := isD)
  exact List.all_eq_true.1 this x hx
theorem takeWhile_of {X Y : List Int} (h : AllD X) (hY : Y = [] ∨ ∃ c Z, Y = c :: Z ∧ isD c = false) : (X ++ Y).takeWhile isD = X := by
  rw [List.takeWhile_append_of_pos h]
  rcases hY with rfl | ⟨c, Z, rfl, hc⟩
  · simp
  · simp [hc]
theorem digs_end {L : List Int} {f k : Nat} (hf : f ≤ k) (hk : k = L.length) (h : AllD (seg L f k)) : digs L f = seg L f k := by
  unfold digs
  rw [drop_seg hf]
  exact takeWhile_of h (Or.inl (List.drop_eq_nil_of_le (by omega)))
theorem digs_stop {L : List Int} {f k : Nat} (hf : f ≤ k) (hk : k < L.length) (hx : isD L[k] = false) (h : AllD (seg L f k)) : digs L f = seg L f k := by
  unfold digs
  rw [drop_seg hf]
  exact takeWhile_of h (Or.inr ⟨_, _, List.drop_eq_getElem_cons hk, hx⟩)
theorem digs_more {L : List Int} {f k : Nat} (hf : f ≤ k) (hk : k < L.length) (hx : isD L[k] = true) (h : AllD (seg L f k)) : k - f < (digs L f).length := by
  unfold digs
  rw [drop_seg hf (k := k), List.takeWhile_append_of_pos h, List.drop_eq_getElem_cons hk, List.takeWhile_cons, if_pos hx, List.length_append, seg_length hf (by omega), List.length_cons]
  omega

/-- What readDigits answers. -/
def RD (L : List Int) (f most n e : Nat) : Prop := ((digs L f).length ≤ most ∧ n = val (digs L f) ∧ e = f + (digs L f).length) ∨ (most < (digs L f).length ∧ n = 0 ∧ e = f)
theorem RD.upto {L : List Int} {f k most : Nat} (hf : f ≤ k) (hk : k ≤ L.length) (hm : k - f ≤ most) (e : digs L f = seg L f k) : RD L f most (val (seg L f k)) k :=
  Or.inl ⟨by rw [e, seg_length hf hk]; exact hm, by rw [e], by rw [e, seg_length hf hk]; omega⟩
theorem RD.many {L : List Int} {f k most : Nat} (hm : k - f = most) (h : k - f < (digs L f).length) : RD L f most 0 f := Or.inr ⟨by omega, rfl, rfl⟩
theorem RD.none {L : List Int} {f : Nat} {most : Nat} (hf : f = L.length) : RD L f most 0 f := by
  have e : digs L f = seg L f f := digs_end (Nat.le_refl _) hf (by rw [seg_self]; exact AllD.nil)
  have := RD.upto (most := most) (Nat.le_refl f) (by omega) (by omega) e
  rwa [seg_self] at this
theorem RD.le {L : List Int} {f most n e : Nat} (h : RD L f most n e) (hf : f ≤ L.length) : f ≤ e ∧ e ≤ L.length := by
  rcases h with ⟨_, _, h⟩ | ⟨_, _, h⟩
  · have : (digs L f).length ≤ (L.drop f).length := (List.takeWhile_prefix isD).length_le
    rw [List.length_drop] at this
    omega
  · omega
theorem RD.lt {L : List Int} {f most n e : Nat} (h : RD L f most n e) : n < 10 ^ most := by
  rcases h with ⟨h1, h2, _⟩ | ⟨_, h2, _⟩
  · rw [h2]; exact val_lt_of (digs_all L f) h1
  · rw [h2]; exact Nat.pow_pos (by omega)

/-! ### The shape of a timestamp -/
structure Shape (L A B N : List Int) : Prop where
  eq : L = A ++ 46 :: (B ++ 46 :: 110 :: N)
  dA : AllD A
  a1 : 1 ≤ A.length
  a2 : A.length ≤ 18
  dB : AllD B
  b1 : 1 ≤ B.length
  b2 : B.length ≤ 19
  dN : AllD N
  n1 : 1 ≤ N.length
  n2 : N.length ≤ 18
  n0 : N.head? ≠ some 48
def Shaped (L : List Int) : Prop := ∃ A B N, Shape L A B N

theorem not46 : isD 46 = false := by decide
theorem Shape.len {L A B N : List Int} (h : Shape L A B N) : L.length = A.length + 1 + B.length + 2 + N.length := by
  rw [h.eq]; simp; omega
theorem Shape.drop1 {L A B N : List Int} (h : Shape L A B N) : L.drop (A.length + 1) = B ++ 46 :: 110 :: N := by
  rw [h.eq, List.drop_append]; simp
theorem Shape.drop0 {L A B N : List Int} (h : Shape L A B N) : L.drop A.length = 46 :: (B ++ 46 :: 110 :: N) := by
  rw [h.eq, List.drop_append]; simp
theorem Shape.drop2 {L A B N : List Int} (h : Shape L A B N) : L.drop (A.length + 1 + B.length) = 46 :: 110 :: N := by
  rw [← List.drop_drop, h.drop1, List.drop_append]; simp
theorem Shape.drop3 {L A B N : List Int} (h : Shape L A B N) : L.drop (A.length + 1 + B.length + 1) = 110 :: N := by
  rw [← List.drop_drop, h.drop2]; rfl
theorem Shape.drop4 {L A B N : List Int} (h : Shape L A B N) : L.drop (A.length + 1 + B.length + 2) = N := by
  rw [← List.drop_drop, h.drop2]; rfl
theorem get_drop {L : List Int} {k : Nat} {x : Int} {Z : List Int} (h : L.drop k = x :: Z) (g : k < L.length) : L[k] = x := by
  rw [List.drop_eq_getElem_cons g] at h
  injection h
theorem Shape.g0 {L A B N : List Int} (h : Shape L A B N) (g : A.length < L.length) : L[A.length] = 46 := get_drop h.drop0 g
theorem Shape.g2 {L A B N : List Int} (h : Shape L A B N) (g : A.length + 1 + B.length < L.length) : L[A.length + 1 + B.length] = 46 := get_drop h.drop2 g
theorem Shape.g3 {L A B N : List Int} (h : Shape L A B N) (g : A.length + 1 + B.length + 1 < L.length) : L[A.length + 1 + B.length + 1] = 110 := get_drop h.drop3 g
theorem Shape.g4 {L A B N : List Int} (h : Shape L A B N) (g : A.length + 1 + B.length + 2 < L.length) : L[A.length + 1 + B.length + 2] ≠ 48 := by
  have h4 := h.drop4
  rw [List.drop_eq_getElem_cons g] at h4
  intro e
  have := h.n0
  rw [← h4, List.head?_cons, e] at this
  exact this rfl

theorem Shape.dig0 {L A B N : List Int} (h : Shape L A B N) : digs L 0 = A := by
  unfold digs; rw [List.drop_zero, h.eq]; exact takeWhile_of h.dA (Or.inr ⟨_, _, rfl, not46⟩)
theorem Shape.dig1 {L A B N : List Int} (h : Shape L A B N) : digs L (A.length + 1) = B := by
  unfold digs; rw [h.drop1]; exact takeWhile_of h.dB (Or.inr ⟨_, _, rfl, not46⟩)
theorem Shape.dig2 {L A B N : List Int} (h : Shape L A B N) : digs L (A.length + 1 + B.length + 2) = N := by
  unfold digs
  rw [h.drop4]
  have := takeWhile_of (Y := []) h.dN (Or.inl rfl)
  rwa [List.append_nil] at this

theorem Shape.i {L A B N : List Int} (h : Shape L A B N) {n i : Nat} (r : RD L 0 18 n i) : i = A.length ∧ n = val A := by
  have e := h.dig0
  have := h.a2
  rcases r with ⟨_, h2, h3⟩ | ⟨h1, _, _⟩
  · rw [e] at h2 h3; exact ⟨by omega, h2⟩
  · rw [e] at h1; omega
theorem Shape.j {L A B N : List Int} (h : Shape L A B N) {n i : Nat} (r : RD L (A.length + 1) 19 n i) : i = A.length + 1 + B.length ∧ n = val B := by
  have e := h.dig1
  have := h.b2
  rcases r with ⟨_, h2, h3⟩ | ⟨h1, _, _⟩
  · rw [e] at h2 h3; exact ⟨by omega, h2⟩
  · rw [e] at h1; omega
theorem Shape.k {L A B N : List Int} (h : Shape L A B N) {n i : Nat} (r : RD L (A.length + 1 + B.length + 2) 18 n i) : i = L.length ∧ n = val N := by
  have e := h.dig2
  have := h.n2
  have := h.len
  rcases r with ⟨_, h2, h3⟩ | ⟨h1, _, _⟩
  · rw [e] at h2 h3; exact ⟨by omega, h2⟩
  · rw [e] at h1; omega

theorem Shape.one {L A B N A' B' N' : List Int} (h : Shape L A B N) (h' : Shape L A' B' N') : A = A' ∧ B = B' ∧ N = N' := by
  have e1 : A = A' := h.dig0.symm.trans h'.dig0
  subst e1
  have e2 : B = B' := h.dig1.symm.trans h'.dig1
  subst e2
  exact ⟨rfl, rfl, h.dig2.symm.trans h'.dig2⟩

/-- An element, as the walks know it. -/
abbrev At (L : List Int) (k : Nat) (x : Int) : Prop := ∃ g : k < L.length, x = L[k]

/-! plainTimestamp's ways -/
theorem no1 {L : List Int} {n i : Nat} (r : RD L 0 18 n i) (h : i = 0) : ¬ Shaped L := by
  rintro ⟨A, B, N, s⟩; have := s.i r; have := s.a1; omega
theorem no2 {L : List Int} {n i : Nat} (r : RD L 0 18 n i) (h : i = L.length) : ¬ Shaped L := by
  rintro ⟨A, B, N, s⟩; have := s.i r; have := s.len; omega
theorem no3 {L : List Int} {n i : Nat} {x : Int} (r : RD L 0 18 n i) (hx : At L i x) (h : x ≠ 46) : ¬ Shaped L := by
  rintro ⟨A, B, N, s⟩
  obtain ⟨g, hx⟩ := hx
  obtain ⟨rfl, _⟩ := s.i r
  exact h (hx.trans (s.g0 g))
theorem no4 {L : List Int} {n i m j : Nat} (r : RD L 0 18 n i) (q : RD L (i + 1) 19 m j) (h : j = i + 1) : ¬ Shaped L := by
  rintro ⟨A, B, N, s⟩
  obtain ⟨rfl, _⟩ := s.i r
  have := s.j q; have := s.b1; omega
theorem no5 {L : List Int} {n i m j : Nat} (r : RD L 0 18 n i) (q : RD L (i + 1) 19 m j) (h : L.length ≤ j + 2) : ¬ Shaped L := by
  rintro ⟨A, B, N, s⟩
  obtain ⟨rfl, _⟩ := s.i r
  have := s.j q; have := s.n1; have := s.len; omega
theorem no6 {L : List Int} {n i m j : Nat} {x : Int} (r : RD L 0 18 n i) (q : RD L (i + 1) 19 m j) (hx : At L j x) (h : x ≠ 46) : ¬ Shaped L := by
  rintro ⟨A, B, N, s⟩
  obtain ⟨rfl, _⟩ := s.i r
  obtain ⟨rfl, _⟩ := s.j q
  obtain ⟨g, hx⟩ := hx
  exact h (hx.trans (s.g2 g))
theorem no7 {L : List Int} {n i m j : Nat} {x : Int} (r : RD L 0 18 n i) (q : RD L (i + 1) 19 m j) (hx : At L (j + 1) x) (h : x ≠ 110) : ¬ Shaped L := by
  rintro ⟨A, B, N, s⟩
  obtain ⟨rfl, _⟩ := s.i r
  obtain ⟨rfl, _⟩ := s.j q
  obtain ⟨g, hx⟩ := hx
  exact h (hx.trans (s.g3 g))
theorem no8 {L : List Int} {n i m j : Nat} {x : Int} (r : RD L 0 18 n i) (q : RD L (i + 1) 19 m j) (hx : At L (j + 2) x) (h : x = 48) : ¬ Shaped L := by
  rintro ⟨A, B, N, s⟩
  obtain ⟨rfl, _⟩ := s.i r
  obtain ⟨rfl, _⟩ := s.j q
  obtain ⟨g, hx⟩ := hx
  exact s.g4 g (hx.symm.trans h)
theorem no9 {L : List Int} {n i m j o k : Nat} (r : RD L 0 18 n i) (q : RD L (i + 1) 19 m j) (t : RD L (j + 2) 18 o k) (h : k = j + 2) : ¬ Shaped L := by
  rintro ⟨A, B, N, s⟩
  obtain ⟨rfl, _⟩ := s.i r
  obtain ⟨rfl, _⟩ := s.j q
  have := s.k t; have := s.n1; have := s.len; omega
theorem no10 {L : List Int} {n i m j o k : Nat} (r : RD L 0 18 n i) (q : RD L (i + 1) 19 m j) (t : RD L (j + 2) 18 o k) (h : k ≠ L.length) : ¬ Shaped L := by
  rintro ⟨A, B, N, s⟩
  obtain ⟨rfl, _⟩ := s.i r
  obtain ⟨rfl, _⟩ := s.j q
  exact h (s.k t).1
theorem RD.some {L : List Int} {f most n e : Nat} (h : RD L f most n e) (hf : e ≠ f) : (digs L f).length ≤ most ∧ n = val (digs L f) ∧ e = f + (digs L f).length := by
  rcases h with h | ⟨_, _, h⟩
  · exact h
  · exact absurd h hf
theorem digs_drop (L : List Int) (f : Nat) : L.drop f = digs L f ++ L.drop (f + (digs L f).length) := by
  have h1 : digs L f = (L.drop f).take (digs L f).length := List.prefix_iff_eq_take.1 (List.takeWhile_prefix isD)
  conv => lhs; rw [← List.take_append_drop (digs L f).length (L.drop f)]
  rw [← h1, List.drop_drop]
theorem yes {L : List Int} {n i m j o k : Nat} {x y z t : Int} (r : RD L 0 18 n i) (h1 : i ≠ 0) (hx : At L i x) (ex : x = 46) (q : RD L (i + 1) 19 m j) (h2 : j ≠ i + 1) (hy : At L j y) (ey : y = 46) (hz : At L (j + 1) z) (ez : z = 110)
    (ht : At L (j + 2) t) (et : t ≠ 48) (p : RD L (j + 2) 18 o k) (h3 : k ≠ j + 2) (h4 : k = L.length) : ∃ A B N, Shape L A B N ∧ n = val A ∧ m = val B ∧ o = val N := by
  obtain ⟨a1, a2, a3⟩ := r.some h1
  obtain ⟨b1, b2, b3⟩ := q.some h2
  obtain ⟨c1, c2, c3⟩ := p.some h3
  obtain ⟨gx, hx⟩ := hx
  obtain ⟨gy, hy⟩ := hy
  obtain ⟨gz, hz⟩ := hz
  obtain ⟨gt, ht⟩ := ht
  have d0 := digs_drop L 0
  have d1 := digs_drop L (i + 1)
  have d2 := digs_drop L (j + 2)
  rw [← a3, List.drop_zero, List.drop_eq_getElem_cons gx, ← hx, ex, d1, ← b3, List.drop_eq_getElem_cons gy, ← hy, ey, List.drop_eq_getElem_cons gz, ← hz, ez, d2, ← c3, h4, List.drop_length, List.append_nil] at d0
  have hN : digs L (j + 2) = L.drop (j + 2) := by rw [d2, ← c3, h4, List.drop_length, List.append_nil]
  refine ⟨digs L 0, digs L (i + 1), digs L (j + 2), ⟨d0, digs_all _ _, by omega, a1, digs_all _ _, by omega, b1, digs_all _ _, by omega, c1, ?_⟩, a2, b2, c2⟩
  rw [hN, List.drop_eq_getElem_cons gt, ← ht]
  simpa using et

/-! zzSplitTimestamp's ways -/
/-- What zzIndexByte answers. -/
def IB (L : List Int) (f : Nat) (d : Int) : Prop := (d = -1 ∧ ∀ x ∈ L.drop f, x ≠ 46) ∨ ∃ k : Nat, d = k ∧ f ≤ k ∧ (∃ g : k < L.length, L[k] = 46) ∧ ∀ x ∈ seg L f k, x ≠ 46
def No46 (L : List Int) : Prop := ∀ x ∈ L, x ≠ 46
def Dot (L : List Int) (f k : Nat) : Prop := f ≤ k ∧ (∃ g : k < L.length, L[k] = 46) ∧ No46 (seg L f k)
theorem AllD.no46 {L : List Int} (h : AllD L) : No46 L := fun x hx e => by
  have := h x hx
  rw [e] at this
  cases this
/-- The first dot is where the digits end. -/
theorem dot_one {X Z : List Int} {L : List Int} {f k : Nat} (hX : AllD X) (h : L.drop f = X ++ 46 :: Z) (hk : Dot L f k) : k = f + X.length := by
  obtain ⟨hf, ⟨g, hg⟩, hno⟩ := hk
  have hs := drop_seg (L := L) hf
  have hl := seg_length hf (Nat.le_of_lt g)
  rcases Nat.lt_trichotomy (k - f) X.length with hlt | heq | hgt
  · exfalso
    have e1 : (L.drop f)[k - f]'(by rw [List.length_drop]; omega) = 46 := by rw [List.getElem_drop]; simp [show f + (k - f) = k by omega, hg]
    have e2 : X[k - f] = 46 := by
      rw [← e1]
      simp [h, hlt]
    exact hX.no46 _ (List.getElem_mem hlt) e2
  · omega
  · exfalso
    have e1 : (seg L f k)[X.length]'(by omega) = 46 := by
      have e2 : (L.drop f)[X.length]'(by rw [List.length_drop]; omega) = 46 := by simp [h]
      rw [← e2]
      simp [seg]
    exact hno _ (List.getElem_mem (by omega)) e1
theorem Shape.d1 {L A B N : List Int} (h : Shape L A B N) {k : Nat} (hk : Dot L 0 k) : k = A.length := by
  have := dot_one h.dA (by rw [List.drop_zero]; exact h.eq) hk
  omega
theorem Shape.d2 {L A B N : List Int} (h : Shape L A B N) {k : Nat} (hk : Dot L (A.length + 1) k) : k = A.length + 1 + B.length := dot_one h.dB h.drop1 hk
theorem Shape.take1 {L A B N : List Int} (h : Shape L A B N) : L.take A.length = A := by rw [h.eq]; simp
theorem Shape.seg2 {L A B N : List Int} (h : Shape L A B N) : seg L (A.length + 1) (A.length + 1 + B.length) = B := by
  unfold seg; rw [h.drop1]; simp [show A.length + 1 + B.length - (A.length + 1) = B.length by omega]

theorem sno1 {L : List Int} (h : No46 (L.drop 0)) : ¬ Shaped L := by
  rintro ⟨A, B, N, s⟩
  rw [List.drop_zero, s.eq] at h
  exact h 46 (by simp) rfl
theorem sno2 {L : List Int} {k : Nat} (hk : Dot L 0 k) (h : No46 (L.drop (k + 1))) : ¬ Shaped L := by
  rintro ⟨A, B, N, s⟩
  obtain rfl := s.d1 hk
  rw [s.drop1] at h
  exact h 46 (by simp) rfl
theorem sno3 {L : List Int} {k : Nat} (hk : Dot L 0 k) (h : k < 1 ∨ 18 < k ∨ ¬ AllD (L.take k)) : ¬ Shaped L := by
  rintro ⟨A, B, N, s⟩
  obtain rfl := s.d1 hk
  have := s.a1
  have := s.a2
  rcases h with h | h | h
  · omega
  · omega
  · rw [s.take1] at h; exact h s.dA
theorem sno4 {L : List Int} {k m : Nat} (hk : Dot L 0 k) (hm : Dot L (k + 1) m) (h : m - (k + 1) < 1 ∨ 19 < m - (k + 1) ∨ ¬ AllD (seg L (k + 1) m)) : ¬ Shaped L := by
  rintro ⟨A, B, N, s⟩
  obtain rfl := s.d1 hk
  obtain rfl := s.d2 hm
  have := s.b1
  have := s.b2
  rcases h with h | h | h
  · omega
  · omega
  · rw [s.seg2] at h; exact h s.dB
theorem sno5 {L : List Int} {k m : Nat} (hk : Dot L 0 k) (hm : Dot L (k + 1) m) (h : L.length - (m + 1) < 2) : ¬ Shaped L := by
  rintro ⟨A, B, N, s⟩
  obtain rfl := s.d1 hk
  obtain rfl := s.d2 hm
  have := s.n1
  have := s.len
  omega
theorem sno6 {L : List Int} {k m : Nat} {x : Int} (hk : Dot L 0 k) (hm : Dot L (k + 1) m) (hx : At L (m + 1) x) (h : x ≠ 110) : ¬ Shaped L := by
  rintro ⟨A, B, N, s⟩
  obtain rfl := s.d1 hk
  obtain rfl := s.d2 hm
  obtain ⟨g, hx⟩ := hx
  exact h (hx.trans (s.g3 g))
theorem sno7 {L : List Int} {k m : Nat} (hk : Dot L 0 k) (hm : Dot L (k + 1) m) (h : 18 < L.length - (m + 2) ∨ ¬ AllD (L.drop (m + 2))) : ¬ Shaped L := by
  rintro ⟨A, B, N, s⟩
  obtain rfl := s.d1 hk
  obtain rfl := s.d2 hm
  have := s.n2
  have := s.len
  rcases h with h | h
  · omega
  · rw [s.drop4] at h; exact h s.dN
theorem sno8 {L : List Int} {k m : Nat} {x : Int} (hk : Dot L 0 k) (hm : Dot L (k + 1) m) (hx : At L (m + 2) x) (h : x = 48) : ¬ Shaped L := by
  rintro ⟨A, B, N, s⟩
  obtain rfl := s.d1 hk
  obtain rfl := s.d2 hm
  obtain ⟨g, hx⟩ := hx
  exact s.g4 g (hx.symm.trans h)
theorem syes {L : List Int} {k m : Nat} {x t : Int} (hk : Dot L 0 k) (hm : Dot L (k + 1) m) (a1 : 1 ≤ k) (a2 : k ≤ 18) (a3 : AllD (L.take k)) (b1 : 1 ≤ m - (k + 1)) (b2 : m - (k + 1) ≤ 19) (b3 : AllD (seg L (k + 1) m))
    (c1 : 2 ≤ L.length - (m + 1)) (hx : At L (m + 1) x) (ex : x = 110) (d1 : L.length - (m + 2) ≤ 18) (d2 : AllD (L.drop (m + 2))) (ht : At L (m + 2) t) (et : t ≠ 48) : Shape L (L.take k) (seg L (k + 1) m) (L.drop (m + 2)) := by
  obtain ⟨hf, ⟨g, hg⟩, hno⟩ := hk
  obtain ⟨hf2, ⟨g2, hg2⟩, hno2⟩ := hm
  obtain ⟨gx, hx⟩ := hx
  obtain ⟨gt, ht⟩ := ht
  refine ⟨?_, a3, by rw [List.length_take]; omega, by rw [List.length_take]; omega, b3, by rw [seg_length hf2 (by omega)]; omega, by rw [seg_length hf2 (by omega)]; omega, d2, by rw [List.length_drop]; omega, by rw [List.length_drop]; omega, ?_⟩
  · conv => lhs; rw [← List.take_append_drop k L]
    rw [List.drop_eq_getElem_cons g, hg, drop_seg (f := k + 1) hf2, List.drop_eq_getElem_cons g2, hg2, List.drop_eq_getElem_cons gx, ← hx, ex]
  · rw [List.drop_eq_getElem_cons gt, ← ht]
    simpa using et

end Go.Proofs.Qxb6600904a
