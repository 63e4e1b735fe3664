import Derived.Test.YbulkcmoqDoorPlain
namespace Go.Proofs.YbulkcmoqDoor
namespace SideW

/-- A relation among the first n numbers. -/
def Within (n : Nat) (r : Nat → Nat → Bool) : Prop := ∀ a b, r a b = true → a < n ∧ b < n

/-- The relation with one pair more. -/
def put2 (r : Nat → Nat → Bool) (i j : Nat) : Nat → Nat → Bool := fun a b => if a = i ∧ b = j then true else r a b

theorem within_put {n i j : Nat} {r : Nat → Nat → Bool} (h : Within n r) (hi : i < n) (hj : j < n) : Within n (put2 r i j) := by
  intro a b hab
  unfold put2 at hab
  by_cases e : a = i ∧ b = j
  · obtain ⟨rfl, rfl⟩ := e; exact ⟨hi, hj⟩
  · rw [if_neg e] at hab; exact h a b hab

/-- Transitive through the pivots below k. -/
def Trans (k : Nat) (r : Nat → Nat → Bool) : Prop := ∀ m, m < k → ∀ i j, r i m = true → r m j = true → r i j = true

/-- The pass of pivot k, up to row i, column j. -/
def pass (R : Nat → Nat → Bool) (k i j : Nat) : Nat → Nat → Bool := fun a b => R a b || (R a k && R k b && (decide (a < i) || (decide (a = i) && decide (b < j))))

theorem pass_ik (R : Nat → Nat → Bool) (k i j a : Nat) : pass R k i j a k = R a k := by
  unfold pass
  cases R a k <;> simp
theorem pass_kj (R : Nat → Nat → Bool) (k i j b : Nat) : pass R k i j k b = R k b := by
  unfold pass
  cases R k b <;> simp

theorem pass_start (R : Nat → Nat → Bool) (k : Nat) : pass R k 0 0 = R := by
  funext a b
  simp [pass]

theorem pass_yes {R : Nat → Nat → Bool} {k i j : Nat} (h1 : R i k = true) (h2 : R k j = true) : pass R k i (j + 1) = put2 (pass R k i j) i j := by
  funext a b
  unfold put2 pass
  by_cases e : a = i ∧ b = j
  · obtain ⟨rfl, rfl⟩ := e
    simp [h1, h2]
  · rw [if_neg e]
    by_cases ea : a = i
    · have eb : b ≠ j := fun e' => e ⟨ea, e'⟩
      subst ea
      have : (decide (b < j + 1)) = decide (b < j) := by
        rw [decide_eq_decide]; omega
      simp [this]
    · simp [ea]

theorem pass_no {R : Nat → Nat → Bool} {k i j : Nat} (h : (R i k && R k j) = false) : pass R k i (j + 1) = pass R k i j := by
  funext a b
  unfold pass
  by_cases ea : a = i
  · subst ea
    by_cases eb : b = j
    · subst eb
      rw [h]
      simp
    · have : (decide (b < j + 1)) = decide (b < j) := by
        rw [decide_eq_decide]; omega
      simp [this]
  · simp [ea]

theorem pass_row {R : Nat → Nat → Bool} {n k i : Nat} (h : Within n R) : pass R k i n = pass R k (i + 1) 0 := by
  funext a b
  unfold pass
  cases hk : R k b with
  | false => simp
  | true =>
    have hb := (h k b hk).2
    by_cases ea : a = i
    · subst ea; simp [hb]
    · have : (decide (a < i + 1)) = decide (a < i) := by
        rw [decide_eq_decide]; omega
      simp [ea, this]

theorem pass_within {R : Nat → Nat → Bool} {n k i j : Nat} (h : Within n R) : Within n (pass R k i j) := by
  intro a b hab
  simp only [pass, Bool.or_eq_true, Bool.and_eq_true] at hab
  rcases hab with hab | ⟨⟨h1, h2⟩, _⟩
  · exact h a b hab
  · exact ⟨(h a k h1).1, (h k b h2).2⟩

theorem pass_end {R : Nat → Nat → Bool} {n k : Nat} (h : Within n R) (ht : Trans k R) : Trans (k + 1) (pass R k n 0) := by
  have hp : ∀ a b, pass R k n 0 a b = true ↔ R a b = true ∨ (R a k = true ∧ R k b = true) := by
    intro a b
    simp only [pass, Bool.or_eq_true, Bool.and_eq_true]
    constructor
    · rintro (h1 | ⟨⟨h1, h2⟩, _⟩)
      · exact .inl h1
      · exact .inr ⟨h1, h2⟩
    · rintro (h1 | ⟨h1, h2⟩)
      · exact .inl h1
      · exact .inr ⟨⟨h1, h2⟩, .inl (by simpa using (h a k h1).1)⟩
  intro m hm i j h1 h2
  rw [hp] at h1 h2 ⊢
  by_cases e : m = k
  · subst e
    have h1' : R i m = true := by rcases h1 with h1 | ⟨h1, _⟩ <;> exact h1
    have h2' : R m j = true := by rcases h2 with h2 | ⟨_, h2⟩ <;> exact h2
    exact .inr ⟨h1', h2'⟩
  · have hmk : m < k := by omega
    rcases h1 with h1 | ⟨h1, h1'⟩ <;> rcases h2 with h2 | ⟨h2, h2'⟩
    · exact .inl (ht m hmk i j h1 h2)
    · exact .inr ⟨ht m hmk i k h1 h2, h2'⟩
    · exact .inr ⟨h1, ht m hmk k j h1' h2⟩
    · exact .inr ⟨h1, h2'⟩

/-- What lies above i. -/
def abOf (n : Nat) (r : Nat → Nat → Bool) (i : Nat) : List Nat := (List.range n).filter (fun j => r i j)

theorem mem_ab {n : Nat} {r : Nat → Nat → Bool} (h : Within n r) {i j : Nat} : j ∈ abOf n r i ↔ r i j = true := by
  unfold abOf
  rw [List.mem_filter]
  constructor
  · exact fun h => h.2
  · exact fun h' => ⟨by simpa using (h i j h').2, h'⟩

theorem ab_len (n : Nat) (r : Nat → Nat → Bool) (i : Nat) : (abOf n r i).length ≤ n := by
  have := List.length_filter_le (fun j => r i j) (List.range n)
  simpa [abOf] using this

theorem ab_tr {n : Nat} {r : Nat → Nat → Bool} (h : Within n r) (ht : Trans n r) : ∀ x y z, y ∈ abOf n r x → z ∈ abOf n r y → z ∈ abOf n r x := by
  intro x y z h1 h2
  rw [mem_ab h] at h1 h2 ⊢
  exact ht y (h x y h1).2 x z h1 h2

/-- How many of the first n are in. -/
def card (n : Nat) (I : Nat → Bool) : Nat := ((List.range n).filter I).length

theorem card_le (n : Nat) (I : Nat → Bool) : card n I ≤ n := by
  have := List.length_filter_le I (List.range n)
  simpa [card] using this

theorem card_succ (n : Nat) (I : Nat → Bool) : card (n + 1) I = card n I + if I n then 1 else 0 := by
  unfold card
  rw [List.range_succ, List.filter_append]
  cases h : I n <;> simp [h]

theorem card_mono {I J : Nat → Bool} (h : ∀ i, I i = true → J i = true) : ∀ n, card n I ≤ card n J
  | 0 => Nat.le_refl _
  | n + 1 => by
    rw [card_succ, card_succ]
    have := card_mono h n
    cases hI : I n with
    | false => simp; omega
    | true => simp [h n hI]; omega

theorem card_lt {I J : Nat → Bool} (h : ∀ i, I i = true → J i = true) : ∀ n i, i < n → I i = false → J i = true → card n I < card n J
  | 0, i, hi, _, _ => by omega
  | n + 1, i, hi, h1, h2 => by
    rw [card_succ, card_succ]
    by_cases e : i = n
    · subst e
      have := card_mono h i
      simp [h1, h2]
      omega
    · have := card_lt h n i (by omega) h1 h2
      cases hI : I n with
      | false => simp; omega
      | true => simp [h n hI]; omega

/-- The reference set on its way. -/
structure InHalf (n : Nat) (ab : Nat → List Nat) (es : List (Nat × Nat)) (m : Nat) (I : Nat → Bool) : Prop where
  m_ : I m = true
  least : ∀ T, Closed ab es T → T m = true → ∀ i, I i = true → T i = true
  lt : ∀ i, I i = true → i < n

def put1 (I : Nat → Bool) (j : Nat) : Nat → Bool := fun t => if t = j then true else I t

theorem inhalf_put {n : Nat} {ab : Nat → List Nat} {es : List (Nat × Nat)} {m : Nat} {I : Nat → Bool} (h : InHalf n ab es m I) {j : Nat} (hj : j < n) (hl : ∀ T, Closed ab es T → T m = true → T j = true) : InHalf n ab es m (put1 I j) := by
  refine ⟨?_, ?_, ?_⟩
  · unfold put1; split
    · rfl
    · exact h.m_
  · intro T hT hm i hi
    unfold put1 at hi
    by_cases e : i = j
    · subst e; exact hl T hT hm
    · rw [if_neg e] at hi; exact h.least T hT hm i hi
  · intro i hi
    unfold put1 at hi
    by_cases e : i = j
    · subst e; exact hj
    · rw [if_neg e] at hi; exact h.lt i hi

theorem put1_le (I : Nat → Bool) (j i : Nat) (h : I i = true) : put1 I j i = true := by
  unfold put1; split
  · rfl
  · exact h

/-- If nothing has turned by the store, the place was in already. -/
theorem put1_same {I0 I : Nat → Bool} {j : Nat} (hle : ∀ i, I0 i = true → I i = true) (h : put1 I j = I0) : I = I0 ∧ I0 j = true := by
  have hj : I0 j = true := by rw [← h]; simp [put1]
  refine ⟨?_, hj⟩
  funext i
  cases hi : I0 i with
  | true => exact hle i hi
  | false =>
    have h1 : put1 I j i = false := by rw [h]; exact hi
    unfold put1 at h1
    by_cases e : i = j
    · subst e; simp at h1
    · rw [if_neg e] at h1; exact h1

/-- A round's end: closed, or more are in. -/
theorem round_end {n : Nat} {ab : Nat → List Nat} {es : List (Nat × Nat)} {m t : Nat} {I0 I : Nat → Bool} (hle : ∀ i, I0 i = true → I i = true) (h : InHalf n ab es m I) (hm : I0 m = true) (h0 : Closed ab es I0 ∨ t + 1 ≤ card n I0) (hc : I = I0 → Closed ab es I0) :
    Closed ab es I ∨ (t + 1) + 1 ≤ card n I := by
  by_cases e : I = I0
  · exact .inl (by rw [e]; exact hc e)
  · obtain ⟨i, hi⟩ : ∃ i, I i ≠ I0 i := by
      apply Classical.byContradiction
      intro hn
      exact e (funext fun i => Classical.byContradiction fun h => hn ⟨i, h⟩)
    have h1 : I0 i = false := by
      cases hb : I0 i with
      | false => rfl
      | true => exact absurd ((hle i hb).trans hb.symm) hi
    have h2 : I i = true := by
      cases hb : I i with
      | true => rfl
      | false => exact absurd (hb.trans h1.symm) hi
    rcases h0 with h0 | h0
    · exact absurd (h.least I0 h0 hm i h2) (by rw [h1]; simp)
    · exact .inr (by have := card_lt hle n i (h.lt i h2) h1 h2; omega)

/-- The side is the reference set and MaxRole. -/
theorem side_eq {n : Nat} {ab : Nat → List Nat} {es : List (Nat × Nat)} {m maxR S : Nat} {I : Nat → Bool} (hs : Side ab es m maxR S) (hi : InHalf n ab es m I) (hc : Closed ab es I) (i : Nat) : S.testBit i = put1 I maxR i := by
  obtain ⟨T, hh, hgo, rfl⟩ := hs.ex
  have hT : Closed ab es (fun i => T.testBit i) := ⟨hh.up, hgo⟩
  have e : T.testBit i = I i := by
    cases h1 : T.testBit i with
    | true => exact (hh.least I hc hi.m_ i h1).symm
    | false =>
      cases h2 : I i with
      | false => rfl
      | true =>
        have := hi.least _ hT hh.m_ i h2
        rw [h1] at this
        cases this
  rw [bit_add, e]
  unfold put1
  by_cases h : i = maxR
  · subst h; simp
  · have h' : ¬ maxR = i := fun e => h e.symm
    simp [h, h']

theorem card_ext {F G : Nat → Bool} (h : ∀ i, F i = G i) (n : Nat) : card n F = card n G := by
  have : F = G := funext h
  rw [this]

theorem card_big {F : Nat → Bool} {n : Nat} (h : ∀ i, F i = true → i < n) : ∀ d, card (n + d) F = card n F
  | 0 => rfl
  | d + 1 => by
    show card (n + d + 1) F = card n F
    rw [card_succ, card_big h d]
    cases hF : F (n + d) with
    | false => simp
    | true => have := h _ hF; omega

theorem pop_card {n S : Nat} {F : Nat → Bool} (hn : n ≤ 8) (h : ∀ i, S.testBit i = F i) (hF : ∀ i, F i = true → i < n) : pop S = card n F := by
  have h1 : pop S = card 8 (fun i => S.testBit i) := rfl
  rw [h1, card_ext h]
  obtain ⟨d, hd⟩ : ∃ d, 8 = n + d := ⟨8 - n, by omega⟩
  rw [hd]
  exact card_big hF d
end SideW
end Go.Proofs.YbulkcmoqDoor
