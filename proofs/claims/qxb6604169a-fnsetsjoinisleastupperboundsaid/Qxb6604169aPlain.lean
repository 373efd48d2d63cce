/-
  THE PLAIN LAWS of the sets: strictly ascending lists over a strict total order, merge, containment. No Go in sight.
-/
namespace Go.Proofs.Qxb6604169a.Plain

/-- A strict total order, given as a Bool function. -/
structure Sto {α : Type} (lt : α → α → Bool) : Prop where
  irr : ∀ a, lt a a = false
  tr : ∀ a b c, lt a b = true → lt b c = true → lt a c = true
  tri : ∀ a b, lt a b = false → lt b a = false → a = b

/-- Strictly ascending. -/
def Asc {α : Type} (lt : α → α → Bool) (l : List α) : Prop := l.Pairwise (fun a b => lt a b = true)

section
variable {α : Type} {lt : α → α → Bool}

theorem Sto.asym (S : Sto lt) {a b : α} (h : lt a b = true) : lt b a = false := by
  cases h2 : lt b a with
  | false => rfl
  | true => have := S.tr a b a h h2; rw [S.irr] at this; cases this

theorem Asc.nil : Asc lt ([] : List α) := List.Pairwise.nil
theorem Asc.head {x : α} {l : List α} (h : Asc lt (x :: l)) : ∀ y ∈ l, lt x y = true := (List.pairwise_cons.1 h).1
theorem Asc.tail {x : α} {l : List α} (h : Asc lt (x :: l)) : Asc lt l := (List.pairwise_cons.1 h).2
theorem Asc.cons {x : α} {l : List α} (h1 : ∀ y ∈ l, lt x y = true) (h2 : Asc lt l) : Asc lt (x :: l) := List.pairwise_cons.2 ⟨h1, h2⟩

/-- By index. -/
theorem Asc.at {l : List α} (h : Asc lt l) {i j : Nat} (hij : i < j) (hj : j < l.length) : lt (l[i]'(by omega)) l[j] = true :=
  List.pairwise_iff_getElem.1 h i j (by omega) hj hij

/-- From neighbours to all. -/
theorem asc_of_neighbours (S : Sto lt) {l : List α} (h : ∀ i (hi : i + 1 < l.length), lt (l[i]'(by omega)) (l[i + 1]'hi) = true) : Asc lt l := by
  refine List.pairwise_iff_getElem.2 ?_
  intro i j hi hj hij
  have main : ∀ d, ∀ (hd : i + 1 + d < l.length), lt (l[i]'hi) (l[i + 1 + d]'hd) = true := by
    intro d
    induction d with
    | zero => intro hd; exact h i hd
    | succ d ih =>
      intro hd
      have h1 := ih (by omega)
      have h2 := h (i + 1 + d) (by omega)
      exact S.tr _ _ _ h1 h2
  obtain ⟨d, rfl⟩ : ∃ d, j = i + 1 + d := ⟨j - i - 1, by omega⟩
  exact main d hj

/-- Two strictly ascending lists with the same members are one list. -/
theorem asc_ext (S : Sto lt) : ∀ {l m : List α}, Asc lt l → Asc lt m → (∀ z, z ∈ l ↔ z ∈ m) → l = m
  | [], [], _, _, _ => rfl
  | [], y :: ys, _, _, h => by have := (h y).2 (by simp); cases this
  | x :: xs, [], _, _, h => by have := (h x).1 (by simp); cases this
  | x :: xs, y :: ys, hl, hm, h => by
    have hxy : x = y := by
      rcases List.mem_cons.1 ((h x).1 (by simp)) with e | e
      · exact e
      · rcases List.mem_cons.1 ((h y).2 (by simp)) with e' | e'
        · exact e'.symm
        · have h1 := hm.head _ e
          have h2 := hl.head _ e'
          rw [S.asym h1] at h2; cases h2
    subst hxy
    have : xs = ys := by
      refine asc_ext S hl.tail hm.tail ?_
      intro z
      constructor
      · intro hz
        rcases List.mem_cons.1 ((h z).1 (List.mem_cons_of_mem _ hz)) with e | e
        · have := hl.head _ hz; rw [e, S.irr] at this; cases this
        · exact e
      · intro hz
        rcases List.mem_cons.1 ((h z).2 (List.mem_cons_of_mem _ hz)) with e | e
        · have := hm.head _ hz; rw [e, S.irr] at this; cases this
        · exact e
    rw [this]

/-- A strictly ascending list whose members lie in another list is no longer than it. -/
theorem asc_length_le (S : Sto lt) : ∀ {l m : List α}, Asc lt l → Asc lt m → (∀ z ∈ l, z ∈ m) → l.length ≤ m.length
  | [], _, _, _, _ => by simp
  | x :: xs, [], _, _, h => by have := h x (by simp); cases this
  | x :: xs, y :: ys, hl, hm, h => by
    have : xs.length ≤ ys.length := by
      refine asc_length_le S hl.tail hm.tail ?_
      intro z hz
      rcases List.mem_cons.1 (h z (List.mem_cons_of_mem _ hz)) with e | e
      · have h1 := hl.head _ hz
        rcases List.mem_cons.1 (h x (by simp)) with e' | e'
        · rw [e, e', S.irr] at h1; cases h1
        · have h2 := hm.head _ e'
          rw [e, S.asym h2] at h1; cases h1
      · exact e
    simp; omega

/-! ### The merge -/
def mrgIn (lt : α → α → Bool) (x : α) (xs : List α) (rest : List α → List α) : List α → List α
  | [] => x :: xs
  | y :: ys => if lt x y then x :: rest (y :: ys) else if lt y x then y :: mrgIn lt x xs rest ys else x :: rest ys

def mrg (lt : α → α → Bool) : List α → List α → List α
  | [] => fun b => b
  | x :: xs => mrgIn lt x xs (mrg lt xs)

theorem mrg_nil_left (b : List α) : mrg lt [] b = b := rfl
theorem mrg_nil_right (a : List α) : mrg lt a [] = a := by cases a <;> rfl
theorem mrg_cons (x y : α) (xs ys : List α) : mrg lt (x :: xs) (y :: ys) = if lt x y then x :: mrg lt xs (y :: ys) else if lt y x then y :: mrg lt (x :: xs) ys else x :: mrg lt xs ys := rfl

theorem mem_mrg (S : Sto lt) (z : α) : ∀ (a b : List α), z ∈ mrg lt a b ↔ z ∈ a ∨ z ∈ b
  | [], b => by simp [mrg_nil_left]
  | x :: xs, b => by
    have ih := mem_mrg S z xs
    induction b with
    | nil => simp [mrg_nil_right]
    | cons y ys ihy =>
      rw [mrg_cons]
      cases h1 : lt x y with
      | true => simp [ih (y :: ys)]; grind
      | false =>
        cases h2 : lt y x with
        | true => simp [ihy]; grind
        | false =>
          have := S.tri _ _ h1 h2
          subst this
          simp [ih ys]; grind

theorem asc_mrg (S : Sto lt) : ∀ {a b : List α}, Asc lt a → Asc lt b → Asc lt (mrg lt a b)
  | [], b, _, hb => hb
  | x :: xs, b, ha, hb => by
    have ih : ∀ {b : List α}, Asc lt b → Asc lt (mrg lt xs b) := fun hb => asc_mrg S ha.tail hb
    induction b with
    | nil => rw [mrg_nil_right]; exact ha
    | cons y ys ihy =>
      rw [mrg_cons]
      cases h1 : lt x y with
      | true =>
        refine Asc.cons ?_ (ih hb)
        intro z hz
        rcases (mem_mrg S z _ _).1 hz with h | h
        · exact ha.head _ h
        · rcases List.mem_cons.1 h with e | e
          · rw [e]; exact h1
          · exact S.tr _ _ _ h1 (hb.head _ e)
      | false =>
        cases h2 : lt y x with
        | true =>
          refine Asc.cons ?_ (ihy hb.tail)
          intro z hz
          rcases (mem_mrg S z _ _).1 hz with h | h
          · rcases List.mem_cons.1 h with e | e
            · rw [e]; exact h2
            · exact S.tr _ _ _ h2 (ha.head _ e)
          · exact hb.head _ h
        | false =>
          have := S.tri _ _ h1 h2
          subst this
          refine Asc.cons ?_ (ih hb.tail)
          intro z hz
          rcases (mem_mrg S z _ _).1 hz with h | h
          · exact ha.head _ h
          · exact hb.head _ h

theorem mrg_length_le : ∀ (a b : List α), (mrg lt a b).length ≤ a.length + b.length
  | [], b => by simp [mrg_nil_left]
  | x :: xs, b => by
    have ih := mrg_length_le xs
    induction b with
    | nil => simp [mrg_nil_right]
    | cons y ys ihy =>
      rw [mrg_cons]
      have h1 := ih (y :: ys)
      have h2 := ih ys
      simp at h1 ihy ⊢
      split
      · simp; omega
      · split
        · simp; omega
        · simp; omega

/-! ### The merge, a round of the loop at a time -/
theorem drop_cons (l : List α) (i : Nat) (h : i < l.length) : l.drop i = l[i] :: l.drop (i + 1) := List.drop_eq_getElem_cons h

theorem step_a {a b xs : List α} {i j : Nat} (hx : xs ++ mrg lt (a.drop i) (b.drop j) = mrg lt a b) (hi : i < a.length) (hj : j < b.length) (h : lt a[i] b[j] = true) :
    (xs ++ [a[i]]) ++ mrg lt (a.drop (i + 1)) (b.drop j) = mrg lt a b := by
  rw [← hx, drop_cons a i hi, drop_cons b j hj, mrg_cons, if_pos h]; simp
theorem step_b {a b xs : List α} {i j : Nat} (hx : xs ++ mrg lt (a.drop i) (b.drop j) = mrg lt a b) (hi : i < a.length) (hj : j < b.length) (h1 : lt a[i] b[j] = false) (h2 : lt b[j] a[i] = true) :
    (xs ++ [b[j]]) ++ mrg lt (a.drop i) (b.drop (j + 1)) = mrg lt a b := by
  rw [← hx, drop_cons a i hi, drop_cons b j hj, mrg_cons, if_neg (by rw [h1]; simp), if_pos h2]; simp
theorem step_ab {a b xs : List α} {i j : Nat} (hx : xs ++ mrg lt (a.drop i) (b.drop j) = mrg lt a b) (hi : i < a.length) (hj : j < b.length) (h1 : lt a[i] b[j] = false) (h2 : lt b[j] a[i] = false) :
    (xs ++ [a[i]]) ++ mrg lt (a.drop (i + 1)) (b.drop (j + 1)) = mrg lt a b := by
  rw [← hx, drop_cons a i hi, drop_cons b j hj, mrg_cons, if_neg (by rw [h1]; simp), if_neg (by rw [h2]; simp)]; simp
theorem step_end {a b xs : List α} {i j : Nat} (hx : xs ++ mrg lt (a.drop i) (b.drop j) = mrg lt a b) (h : ¬ (i < a.length ∧ j < b.length)) :
    xs ++ a.drop i ++ b.drop j = mrg lt a b := by
  rw [← hx]
  by_cases hi : i < a.length
  · have hj : b.length ≤ j := by omega
    rw [List.drop_eq_nil_of_le hj, mrg_nil_right, List.append_nil]
  · rw [List.drop_eq_nil_of_le (by omega : a.length ≤ i), mrg_nil_left]; simp

/-! ### The laws -/
theorem mrg_comm (S : Sto lt) {a b : List α} (ha : Asc lt a) (hb : Asc lt b) : mrg lt a b = mrg lt b a :=
  asc_ext S (asc_mrg S ha hb) (asc_mrg S hb ha) (fun z => by rw [mem_mrg S, mem_mrg S]; exact Or.comm)
theorem mrg_assoc (S : Sto lt) {a b c : List α} (ha : Asc lt a) (hb : Asc lt b) (hc : Asc lt c) : mrg lt (mrg lt a b) c = mrg lt a (mrg lt b c) :=
  asc_ext S (asc_mrg S (asc_mrg S ha hb) hc) (asc_mrg S ha (asc_mrg S hb hc)) (fun z => by rw [mem_mrg S, mem_mrg S, mem_mrg S, mem_mrg S]; exact or_assoc)
theorem mrg_self (S : Sto lt) {a : List α} (ha : Asc lt a) : mrg lt a a = a :=
  asc_ext S (asc_mrg S ha ha) ha (fun z => by rw [mem_mrg S]; simp)
theorem mrg_again (S : Sto lt) {a b : List α} (ha : Asc lt a) (hb : Asc lt b) : mrg lt (mrg lt a b) a = mrg lt a b :=
  asc_ext S (asc_mrg S (asc_mrg S ha hb) ha) (asc_mrg S ha hb) (fun z => by rw [mem_mrg S, mem_mrg S]; grind)
theorem sub_iff_mrg (S : Sto lt) {a b : List α} (ha : Asc lt a) (hb : Asc lt b) : (∀ z ∈ a, z ∈ b) ↔ mrg lt a b = b := by
  constructor
  · intro h
    exact asc_ext S (asc_mrg S ha hb) hb (fun z => by rw [mem_mrg S]; exact ⟨fun h' => h'.elim (h z) id, Or.inr⟩)
  · intro h z hz
    rw [← h]
    exact (mem_mrg S z _ _).2 (Or.inl hz)

/-! ### The binary search and the containment's loop, by index -/
/-- Behind the search: below 'lo' all are less, from 'lo' on none is. -/
theorem search_end (S : Sto lt) {l : List α} (_hl : Asc lt l) {x : α} {lo : Nat} (h1 : ∀ t (ht : t < l.length), t < lo → lt l[t] x = true) (h2 : ∀ t (ht : t < l.length), lo ≤ t → lt l[t] x = false) :
    x ∈ l ↔ ∃ h : lo < l.length, l[lo] = x := by
  constructor
  · intro hx
    obtain ⟨t, ht, rfl⟩ := List.getElem_of_mem hx
    have e1 : lo ≤ t := by
      rcases Nat.lt_or_ge t lo with h | h
      · have := h1 t ht h; rw [S.irr] at this; cases this
      · exact h
    refine ⟨by omega, ?_⟩
    rcases Nat.lt_or_ge lo t with h | h
    · have h3 := _hl.at h ht
      rw [h2 lo (by omega) (Nat.le_refl _)] at h3; cases h3
    · have : lo = t := by omega
      subst this; rfl
  · rintro ⟨h, rfl⟩
    exact List.getElem_mem h

/-- A member's place cannot lie below 'j' when all below are less, nor above it when the one at 'j' is greater. -/
theorem not_mem_of (S : Sto lt) {l : List α} (hl : Asc lt l) {x : α} {j : Nat} (h1 : ∀ t (ht : t < l.length), t < j → lt l[t] x = true) (h2 : ∀ (h : j < l.length), lt l[j] x = false ∧ l[j] ≠ x) : x ∉ l := by
  intro hx
  obtain ⟨t, ht, rfl⟩ := List.getElem_of_mem hx
  rcases Nat.lt_or_ge t j with h | h
  · have := h1 t ht h; rw [S.irr] at this; cases this
  · obtain ⟨g1, g2⟩ := h2 (by omega)
    rcases Nat.lt_or_ge j t with h' | h'
    · rw [hl.at h' ht] at g1; cases g1
    · have : j = t := by omega
      subst this; exact g2 rfl

end
end Go.Proofs.Qxb6604169a.Plain
