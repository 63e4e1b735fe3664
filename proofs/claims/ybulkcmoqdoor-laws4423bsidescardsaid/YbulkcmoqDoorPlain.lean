import Derived.Test.YbulkcmoqDoorSets
namespace Go.Proofs.YbulkcmoqDoor
namespace SideW

theorem bit_two_pow (i j : Nat) : (2 ^ i).testBit j = decide (i = j) := Nat.testBit_two_pow

theorem bit_add (S r i : Nat) : (S ||| 2 ^ r).testBit i = (S.testBit i || decide (r = i)) := by
  rw [Nat.testBit_or, bit_two_pow]

theorem bit_mask (ms : List Nat) : ∀ (S i : Nat), (mask S ms).testBit i = (S.testBit i || decide (i ∈ ms)) := by
  induction ms with
  | nil => intro S i; simp [mask]
  | cons m r ih =>
    intro S i
    show (mask (S ||| 2 ^ m) r).testBit i = _
    rw [ih, bit_add]
    by_cases h : m = i
    · subst h; simp
    · have h' : ¬ i = m := fun e => h e.symm
      simp [h, h']

theorem bit_lt {S i : Nat} (h : S < 256) (hb : S.testBit i = true) : i < 8 := by
  by_cases hi : i < 8
  · exact hi
  · have : S < 2 ^ i := Nat.lt_of_lt_of_le h (by
      have : 2 ^ 8 ≤ 2 ^ i := Nat.pow_le_pow_right (by omega) (by omega)
      omega)
    rw [Nat.testBit_lt_two_pow this] at hb
    cases hb

/-- A set that holds what lies above its members and what its members' edges lead to. -/
structure Closed (ab : Nat → List Nat) (es : List (Nat × Nat)) (T : Nat → Bool) : Prop where
  up : ∀ x, T x = true → ∀ j ∈ ab x, T j = true
  go : ∀ e ∈ es, T e.1 = true → T e.2 = true

/-- On the way to the least such set with m in it. -/
structure Half (ab : Nat → List Nat) (es : List (Nat × Nat)) (m S : Nat) : Prop where
  m_ : S.testBit m = true
  least : ∀ T, Closed ab es T → T m = true → ∀ i, S.testBit i = true → T i = true
  up : ∀ x, S.testBit x = true → ∀ j ∈ ab x, S.testBit j = true

/-- 'reach(r)'. -/
def reach (ab : Nat → List Nat) (S r : Nat) : Nat := mask (S ||| 2 ^ r) (ab r)

theorem bit_reach (ab : Nat → List Nat) (S r i : Nat) : (reach ab S r).testBit i = (S.testBit i || decide (r = i) || decide (i ∈ ab r)) := by
  rw [reach, bit_mask, bit_add]

theorem half_start {ab : Nat → List Nat} {es : List (Nat × Nat)} {m : Nat} (htr : ∀ x y z, y ∈ ab x → z ∈ ab y → z ∈ ab x) : Half ab es m (reach ab 0 m) := by
  refine ⟨?_, ?_, ?_⟩
  · rw [bit_reach]; simp
  · intro T hT hm i hi
    rw [bit_reach] at hi
    simp at hi
    rcases hi with rfl | hi
    · exact hm
    · exact hT.up m hm i hi
  · intro x hx j hj
    rw [bit_reach] at hx ⊢
    simp at hx ⊢
    rcases hx with rfl | hx
    · exact .inr hj
    · exact .inr (htr m x j hx hj)

theorem half_step {ab : Nat → List Nat} {es : List (Nat × Nat)} {m S : Nat} (htr : ∀ x y z, y ∈ ab x → z ∈ ab y → z ∈ ab x) (h : Half ab es m S) {e : Nat × Nat} (he : e ∈ es) (h1 : S.testBit e.1 = true) : Half ab es m (reach ab S e.2) := by
  refine ⟨?_, ?_, ?_⟩
  · rw [bit_reach, h.m_]; simp
  · intro T hT hm i hi
    have h2 := hT.go e he (h.least T hT hm _ h1)
    rw [bit_reach] at hi
    simp at hi
    rcases hi with (hi | rfl) | hi
    · exact h.least T hT hm i hi
    · exact h2
    · exact hT.up _ h2 i hi
  · intro x hx j hj
    rw [bit_reach] at hx ⊢
    simp at hx ⊢
    rcases hx with (hx | rfl) | hx
    · exact .inl (.inl (h.up x hx j hj))
    · exact .inr hj
    · exact .inr (htr _ x j hx hj)

theorem reach_gt {ab : Nat → List Nat} {S r : Nat} (h : S.testBit r = false) : S < reach ab S r := by
  have hle : ∀ (ms : List Nat) (S : Nat), S ≤ mask S ms := by
    intro ms
    induction ms with
    | nil => intro S; exact Nat.le_refl _
    | cons m r ih => intro S; exact Nat.le_trans Nat.left_le_or (ih (S ||| 2 ^ m))
  have h1 : S ≤ reach ab S r := Nat.le_trans Nat.left_le_or (hle _ _)
  have h2 : S ≠ reach ab S r := fun e => by
    have : (reach ab S r).testBit r = true := by rw [bit_reach]; simp
    rw [← e, h] at this
    cases this
  omega

theorem mask_lt {ms : List Nat} (h8 : ∀ m ∈ ms, m < 8) : ∀ {S : Nat}, S < 256 → mask S ms < 256 := by
  induction ms with
  | nil => intro S h; exact h
  | cons m r ih =>
    intro S h
    exact ih (fun x hx => h8 x (by simp [hx])) (or_lt h (h8 m (by simp)))

/-- What 'activators' gives. -/
structure Side (ab : Nat → List Nat) (es : List (Nat × Nat)) (m maxR S : Nat) : Prop where
  ex : ∃ T, Half ab es m T ∧ (∀ e ∈ es, T.testBit e.1 = true → T.testBit e.2 = true) ∧ S = T ||| 2 ^ maxR

theorem pop_pos {S m : Nat} (hm : m < 8) (h : S.testBit m = true) : 0 < pop S := by
  unfold pop
  exact List.length_pos_of_mem (List.mem_filter.2 ⟨by simpa using hm, h⟩)
end SideW
end Go.Proofs.YbulkcmoqDoor
