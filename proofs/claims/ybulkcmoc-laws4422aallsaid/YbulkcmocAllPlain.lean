import Derived.Test.YbulkcmocAll
namespace Go.Proofs.Ybulkcmoc
namespace AllW
open Go.RowKit Go.Maps

/-- Is i the last place at which its id stands? -/
def isLast (ids : Nat → Int) (m i : Nat) : Bool := (List.range m).all fun l => decide (l ≤ i) || decide (ids l ≠ ids i)

theorem isLast_true {ids : Nat → Int} {m i : Nat} : isLast ids m i = true ↔ ∀ l, l < m → i < l → ids l ≠ ids i := by
  unfold isLast
  rw [List.all_eq_true]
  constructor
  · intro h l hl hi
    have := h l (by simpa using hl)
    simp only [Bool.or_eq_true, decide_eq_true_eq] at this
    rcases this with h1 | h1
    · omega
    · exact h1
  · intro h l hl
    simp only [Bool.or_eq_true, decide_eq_true_eq]
    by_cases h1 : l ≤ i
    · exact .inl h1
    · exact .inr (h l (by simpa using hl) (by omega))

theorem isLast_false {ids : Nat → Int} {m i l : Nat} (hl : l < m) (hi : i < l) (he : ids l = ids i) : isLast ids m i = false := by
  cases h : isLast ids m i with
  | false => rfl
  | true => exact absurd he (isLast_true.1 h l hl hi)

/-- How many of the first i places are last ones. -/
def cnt (ids : Nat → Int) (m i : Nat) : Nat := ((List.range i).filter (isLast ids m)).length

theorem cnt_succ (ids : Nat → Int) (m i : Nat) : cnt ids m (i + 1) = cnt ids m i + if isLast ids m i then 1 else 0 := by
  unfold cnt
  rw [List.range_succ, List.filter_append]
  cases h : isLast ids m i <;> simp [h]

theorem cnt_le (ids : Nat → Int) (m i : Nat) : cnt ids m i ≤ i := by
  have := List.length_filter_le (isLast ids m) (List.range i)
  simpa [cnt] using this

/-- The map after i rounds. -/
def Dm (ids : Nat → Int) (C : Nat) : Nat → DataW Unit
  | 0 => .map []
  | i + 1 => (Dm ids C i).put (.int .u32 (ids i)) (.lit (.int .u64 ((C + i : Nat) : Int)))

theorem key_int (a : Int) : WideAt.IsKeyLit (Lit.int .u32 a) := trivial

theorem tidy_Dm (ids : Nat → Int) (C : Nat) : ∀ i, Tidy (Dm ids C i)
  | 0 => tidy_empty
  | i + 1 => (tidy_Dm ids C i).put (key_int _) _

theorem has_Dm (ids : Nat → Int) (C : Nat) : ∀ i k, has (Dm ids C i) k = true ↔ ∃ j, j < i ∧ k = .int .u32 (ids j)
  | 0, k => by simp [Dm, has]
  | i + 1, k => by
    by_cases e : k = .int .u32 (ids i)
    · subst e
      simp only [Dm, has_put_same (tidy_Dm ids C i).isMap (key_int _), true_iff]
      exact ⟨i, by omega, rfl⟩
    · rw [Dm, has_put_other e, has_Dm ids C i k]
      constructor
      · rintro ⟨j, hj, rfl⟩; exact ⟨j, by omega, rfl⟩
      · rintro ⟨j, hj, rfl⟩
        refine ⟨j, ?_, rfl⟩
        by_cases h : j = i
        · subst h; exact absurd rfl e
        · omega

theorem at_Dm (ids : Nat → Int) (C : Nat) : ∀ i j, j < i → ∃ J, J < i ∧ ids J = ids j ∧ (∀ l, J < l → l < i → ids l ≠ ids J) ∧ ∀ z, (Dm ids C i).atKey (.int .u32 (ids j)) z = .lit (.int .u64 ((C + J : Nat) : Int))
  | 0, j, hj => by omega
  | i + 1, j, hj => by
    by_cases e : ids j = ids i
    · refine ⟨i, by omega, e.symm, fun l h1 h2 => by omega, fun z => ?_⟩
      rw [e, Dm, atKey_put_same (tidy_Dm ids C i).isMap (key_int _)]
    · have hji : j < i := by
        by_cases h : j = i
        · subst h; exact absurd rfl e
        · omega
      obtain ⟨J, h1, h2, h3, h4⟩ := at_Dm ids C i j hji
      refine ⟨J, by omega, h2, fun l hl1 hl2 => ?_, fun z => ?_⟩
      · by_cases h : l = i
        · subst h; rw [h2]; exact fun e' => e e'.symm
        · exact h3 l hl1 (by omega)
      · rw [Dm, atKey_put_other (by simpa using e)]
        exact h4 z

theorem nodup_le {α : Type} [DecidableEq α] : ∀ (l₁ l₂ : List α), l₁.Nodup → (∀ x ∈ l₁, x ∈ l₂) → l₁.length ≤ l₂.length
  | [], _, _, _ => Nat.zero_le _
  | a :: r, l₂, hn, hs => by
    obtain ⟨h1, h2⟩ := List.nodup_cons.1 hn
    have ha := hs a (by simp)
    have := nodup_le r (l₂.erase a) h2 (fun x hx => by
      have hxa : x ≠ a := fun e => h1 (e ▸ hx)
      exact (List.mem_erase_of_ne hxa).2 (hs x (by simp [hx])))
    rw [List.length_erase_of_mem ha] at this
    have hp : 0 < l₂.length := List.length_pos_of_mem ha
    simp
    omega

theorem nodup_eq {α : Type} [DecidableEq α] {l₁ l₂ : List α} (h1 : l₁.Nodup) (h2 : l₂.Nodup) (h : ∀ x, x ∈ l₁ ↔ x ∈ l₂) : l₁.length = l₂.length :=
  Nat.le_antisymm (nodup_le _ _ h1 fun x hx => (h x).1 hx) (nodup_le _ _ h2 fun x hx => (h x).2 hx)

theorem size_of_keys {es : List (Lit × DataW Unit)} (hp : es.Pairwise (fun p q => p.1 ≠ q.1)) (hk : ∀ p ∈ es, WideAt.IsKeyLit p.1) {L : List Lit} (hn : L.Nodup) (h : ∀ k, has (.map es) k = true ↔ k ∈ L) : es.length = L.length := by
  have hn1 : (es.map (·.1)).Nodup := by
    rw [List.Nodup, List.pairwise_map]
    exact hp
  have : (es.map (·.1)).length = L.length := by
    refine @nodup_eq Lit (fun a b => Classical.propDecidable (a = b)) _ _ hn1 hn fun k => ?_
    rw [← h k, has_eq, List.any_eq_true, List.mem_map]
    constructor
    · rintro ⟨p, hp', rfl⟩
      exact ⟨p, hp', WideAt.sameKey_self (hk p hp')⟩
    · rintro ⟨p, hp', he⟩
      exact ⟨p, hp', WideAt.sameKey_eq he⟩
  simpa using this

/-- What the law asks of what 'all' told. -/
theorem plain_law {ids : Nat → Int} {C m : Nat} {ps : List (Int × Nat)} (h : Told (Dm ids C m) (fun _ => false) ps)
    (he : ∃ es, Dm ids C m = .map es ∧ es.Pairwise (fun p q => p.1 ≠ q.1) ∧ ∀ p ∈ es, WideAt.IsKeyLit p.1) :
    ∃ idx : List Nat, ps.map (fun p => ptr p.2) = idx.map (fun J => ptr (C + J)) ∧ idx.Nodup ∧ (∀ J ∈ idx, J < m ∧ isLast ids m J = true) ∧ idx.length = cnt ids m m ∧ ps.length = idx.length ∧ size (Dm ids C m) = idx.length := by
  have hJ : ∀ p ∈ ps, ∃ J, J < m ∧ ids J = p.1 ∧ isLast ids m J = true ∧ p.2 = C + J := by
    intro p hp
    have hin := h.in_ p.1 (List.mem_map.2 ⟨p, hp, rfl⟩)
    obtain ⟨j, hj, ej⟩ := (has_Dm ids C m _).1 hin
    simp at ej
    obtain ⟨J, h1, h2, h3, h4⟩ := at_Dm ids C m j hj
    refine ⟨J, h1, by rw [h2, ej], isLast_true.2 (fun l hl hi => h3 l hi hl), ?_⟩
    have e1 := h4 .nil
    rw [← ej, h.at_ p hp .nil] at e1
    simp at e1
    omega
  have hdup : (ps.map (fun p => p.2 - C)).Nodup := by
    have h1 := h.nodup
    rw [List.Nodup, List.pairwise_map] at h1 ⊢
    refine List.Pairwise.imp_of_mem ?_ h1
    intro a b ha hb hne e
    obtain ⟨J, _, j2, _, j4⟩ := hJ a ha
    obtain ⟨J', _, k2, _, k4⟩ := hJ b hb
    have : J = J' := by omega
    subst this
    exact hne (j2.symm.trans k2)
  have hmem : ∀ J ∈ ps.map (fun p => p.2 - C), J < m ∧ isLast ids m J = true := by
    intro J hJ'
    obtain ⟨p, hp, rfl⟩ := List.mem_map.1 hJ'
    obtain ⟨J, j1, _, j3, j4⟩ := hJ p hp
    rw [show p.2 - C = J from by omega]
    exact ⟨j1, j3⟩
  refine ⟨ps.map (fun p => p.2 - C), ?_, hdup, hmem, ?_, by simp, ?_⟩
  · rw [List.map_map]
    refine List.map_congr_left fun p hp => ?_
    obtain ⟨J, _, _, _, j4⟩ := hJ p hp
    show ptr p.2 = ptr (C + (p.2 - C))
    rw [show C + (p.2 - C) = p.2 from by omega]
  · unfold cnt
    refine nodup_eq hdup (List.nodup_range.sublist List.filter_sublist) fun J => ?_
    constructor
    · intro hJ'
      obtain ⟨j1, j2⟩ := hmem J hJ'
      exact List.mem_filter.2 ⟨by simpa using j1, j2⟩
    · intro hJ'
      obtain ⟨j1, j2⟩ := List.mem_filter.1 hJ'
      have j1 : J < m := by simpa using j1
      have hh : has (Dm ids C m) (.int .u32 (ids J)) = true := (has_Dm ids C m _).2 ⟨J, j1, rfl⟩
      rcases h.has_ (ids J) hh with h1 | h1
      · cases h1
      · obtain ⟨p, hp, ep⟩ := List.mem_map.1 h1
        obtain ⟨J', k1, k2, k3, k4⟩ := hJ p hp
        have : J' = J := by
          rcases Nat.lt_trichotomy J' J with hlt | heq | hgt
          · exact absurd (by rw [k2, ep]) (isLast_true.1 k3 J j1 hlt)
          · exact heq
          · exact absurd (by rw [k2, ep]) (isLast_true.1 j2 J' k1 hgt)
        subst this
        exact List.mem_map.2 ⟨p, hp, by omega⟩
  · obtain ⟨es, e1, e2, e3⟩ := he
    rw [e1, size_eq]
    have hn : (ps.map (fun p => Lit.int .u32 p.1)).Nodup := by
      have h1 := h.nodup
      rw [List.Nodup, List.pairwise_map] at h1 ⊢
      exact List.Pairwise.imp_of_mem (fun {a b} _ _ hne e => hne (by simpa using e)) h1
    have := size_of_keys e2 e3 hn (fun k => by
      rw [← e1, has_Dm]
      constructor
      · rintro ⟨j, hj, rfl⟩
        have hh : has (Dm ids C m) (.int .u32 (ids j)) = true := (has_Dm ids C m _).2 ⟨j, hj, rfl⟩
        rcases h.has_ (ids j) hh with h1 | h1
        · cases h1
        · obtain ⟨p, hp, ep⟩ := List.mem_map.1 h1
          exact List.mem_map.2 ⟨p, hp, by rw [ep]⟩
      · intro hk
        obtain ⟨p, hp, rfl⟩ := List.mem_map.1 hk
        exact (has_Dm ids C m _).1 (h.in_ p.1 (List.mem_map.2 ⟨p, hp, rfl⟩)))
    simpa using this
end AllW
end Go.Proofs.Ybulkcmoc
