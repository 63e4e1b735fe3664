import Derived.Test.YbulkcmoqDoorMem5
namespace Go.Proofs.YbulkcmoqDoor
namespace SideW
open Go.RowKit Go.Maps

theorem inm_start1 (w0 : World) (i : Nat) : InM w0 w0.heap.size (put1 (fun _ => false) i)
    (w0.alloc (.cells ([Value.bool false, Value.bool false, Value.bool false, Value.bool false, Value.bool false, Value.bool false, Value.bool false, Value.bool false].set i (.bool true)).toArray 24)) := by
  have h := (inm_start w0).put i
  rw [World.setCell_alloc_at _ _ _ _ _ rfl] at h
  simpa [inCells] using h

theorem InM.drewN {w0 : World} {I : Nat} {J : Nat → Bool} {wr : World} (h : InM w0 I J wr) (q : Nat) : InM w0 I J (wr.drewN q) :=
  ⟨h.row.of_block rfl, h.be.trans ⟨rfl, rfl, rfl, Nat.le_refl _, fun _ _ => rfl⟩⟩

theorem edge_cell {w : World} {B : Nat} {r : Nat → Nat → Bool} {n A : Nat} {f : Nat → Value} {C G mx : Nat} {ix : Nat → Nat} {lP E nE : Nat} {ev : Nat → Nat} {wr : World} (h : M5 w B r n A f C G mx ix lP E nE ev nE wr) {q : Nat} (hq : q < nE) :
    wr.cell? ⟨E, q * 2, none⟩ = some (.int .i64 ((ev (2 * q) : Nat) : Int)) ∧ wr.cell? ⟨E, q * 2 + 1, none⟩ = some (.int .i64 ((ev (2 * q + 1) : Nat) : Int)) := by
  have h1 := h.edg.cell (i := q * 2) (by omega)
  have h2 := h.edg.cell (i := q * 2 + 1) (by omega)
  rw [if_pos (by omega)] at h1 h2
  refine ⟨?_, ?_⟩
  · rw [h1, Nat.mul_comm q 2]
  · rw [h2, Nat.mul_comm q 2]

theorem put1_lt {n : Nat} {ab : Nat → List Nat} {es : List (Nat × Nat)} {m : Nat} {J : Nat → Bool} {mx : Nat} (h : InHalf n ab es m J) (hm : mx < n) : ∀ i, put1 J mx i = true → i < n := by
  intro i hi
  unfold put1 at hi
  by_cases e : i = mx
  · omega
  · rw [if_neg e] at hi; exact h.lt i hi

theorem zero8 {i : Nat} (h : i < 8) : [Value.bool false, Value.bool false, Value.bool false, Value.bool false, Value.bool false, Value.bool false, Value.bool false, Value.bool false][i]? = some (.bool false) := by
  match i, h with
  | 0, _ => rfl
  | 1, _ => rfl
  | 2, _ => rfl
  | 3, _ => rfl
  | 4, _ => rfl
  | 5, _ => rfl
  | 6, _ => rfl
  | 7, _ => rfl

/-- The row x of the upward pass: what stands so far. -/
structure P13 (n : Nat) (r : Nat → Nat → Bool) (es : List (Nat × Nat)) (m : Nat) (J0 : Nat → Bool) (x : Nat) (J : Nat → Bool) : Prop where
  half : InHalf n (abOf n r) es m J
  le : ∀ i, J0 i = true → J i = true
  up : J = J0 → ∀ y, y < x → J0 y = true → ∀ j, r y j = true → J0 j = true

structure P14 (n : Nat) (r : Nat → Nat → Bool) (es : List (Nat × Nat)) (m : Nat) (J0 : Nat → Bool) (x j : Nat) (J : Nat → Bool) : Prop where
  p : P13 n r es m J0 x J
  at_ : J x = true
  row : J = J0 → ∀ l, l < j → r x l = true → J0 l = true

structure P15 (n : Nat) (r : Nat → Nat → Bool) (nE : Nat) (ev : Nat → Nat) (m : Nat) (J0 : Nat → Bool) (k : Nat) (J : Nat → Bool) : Prop where
  half : InHalf n (abOf n r) (esOf nE ev) m J
  le : ∀ i, J0 i = true → J i = true
  up : J = J0 → ∀ y, J0 y = true → ∀ j, r y j = true → J0 j = true
  go : J = J0 → ∀ e, e < k → J0 (ev (2 * e)) = true → J0 (ev (2 * e + 1)) = true

variable {n : Nat} {r : Nat → Nat → Bool} {nE : Nat} {ev : Nat → Nat} {es : List (Nat × Nat)} {m : Nat} {J0 J : Nat → Bool} {x j k t : Nat}

theorem p13_start (h : InHalf n (abOf n r) es m J) : P13 n r es m J 0 J := ⟨h, fun _ h => h, fun _ y hy => by omega⟩
theorem P13.skip (h : P13 n r es m J0 x J) (hx : J x = false) : P13 n r es m J0 (x + 1) J := by
  refine ⟨h.half, h.le, fun e y hy h0 => ?_⟩
  by_cases e1 : y = x
  · subst e1; rw [← e, hx] at h0; cases h0
  · exact h.up e y (by omega) h0
theorem P13.enter (h : P13 n r es m J0 x J) (hx : J x = true) : P14 n r es m J0 x 0 J := ⟨h, hx, fun _ l hl => by omega⟩
theorem P14.no (h : P14 n r es m J0 x j J) (hx : r x j = false) : P14 n r es m J0 x (j + 1) J := by
  refine ⟨h.p, h.at_, fun e l hl h0 => ?_⟩
  by_cases e1 : l = j
  · subst e1; rw [hx] at h0; cases h0
  · exact h.row e l (by omega) h0
theorem P14.yes (hr : Within n r) (h : P14 n r es m J0 x j J) (hx : r x j = true) : P14 n r es m J0 x (j + 1) (put1 J j) := by
  refine ⟨⟨inhalf_put h.p.half (hr x j hx).2 (fun T hT hm => hT.up x (h.p.half.least T hT hm x h.at_) j ((mem_ab hr).2 hx)), fun i hi => put1_le _ _ _ (h.p.le i hi), fun e => ?_⟩, put1_le _ _ _ h.at_, fun e l hl h0 => ?_⟩
  · exact h.p.up (put1_same h.p.le e).1
  · obtain ⟨e1, e2⟩ := put1_same h.p.le e
    by_cases e3 : l = j
    · rw [e3]; exact e2
    · exact h.row e1 l (by omega) h0
theorem P14.leave (hr : Within n r) (h : P14 n r es m J0 x n J) : P13 n r es m J0 (x + 1) J := by
  refine ⟨h.p.half, h.p.le, fun e y hy h0 j hj => ?_⟩
  by_cases e1 : y = x
  · subst e1; exact h.row e j (hr y j hj).2 hj
  · exact h.p.up e y (by omega) h0 j hj
theorem P13.leave (hr : Within n r) (h : P13 n r (esOf nE ev) m J0 n J) : P15 n r nE ev m J0 0 J :=
  ⟨h.half, h.le, fun e y h0 j hj => h.up e y (hr y j hj).1 h0 j hj, fun _ e he => by omega⟩
theorem P15.no (h : P15 n r nE ev m J0 k J) (hx : J (ev (2 * k)) = false) : P15 n r nE ev m J0 (k + 1) J := by
  refine ⟨h.half, h.le, h.up, fun e l hl h0 => ?_⟩
  by_cases e1 : l = k
  · subst e1; rw [← e, hx] at h0; cases h0
  · exact h.go e l (by omega) h0
theorem P15.yes (h : P15 n r nE ev m J0 k J) (hk : k < nE) (hn : ev (2 * k + 1) < n) (hx : J (ev (2 * k)) = true) : P15 n r nE ev m J0 (k + 1) (put1 J (ev (2 * k + 1))) := by
  refine ⟨inhalf_put h.half hn (fun T hT hm => hT.go (ev (2 * k), ev (2 * k + 1)) (List.mem_map.2 ⟨k, by simpa using hk, rfl⟩) (h.half.least T hT hm _ hx)), fun i hi => put1_le _ _ _ (h.le i hi), fun e => ?_, fun e l hl h0 => ?_⟩
  · exact h.up (put1_same h.le e).1
  · obtain ⟨e1, e2⟩ := put1_same h.le e
    by_cases e3 : l = k
    · rw [e3]; exact e2
    · exact h.go e1 l (by omega) h0
theorem P15.leave (hr : Within n r) (h : P15 n r nE ev m J0 nE J) (hm : J0 m = true) (h0 : Closed (abOf n r) (esOf nE ev) J0 ∨ t + 1 ≤ card n J0) :
    Closed (abOf n r) (esOf nE ev) J ∨ (t + 1) + 1 ≤ card n J := by
  refine round_end h.le h.half hm h0 fun e => ⟨fun y hy j hj => h.up e y hy j ((mem_ab hr).1 hj), fun p hp h1 => ?_⟩
  obtain ⟨l, hl, rfl⟩ := List.mem_map.1 hp
  exact h.go e l (by simpa using hl) h1
theorem closed_end (h : Closed (abOf n r) (esOf nE ev) J ∨ (n + 1) + 1 ≤ card n J) : Closed (abOf n r) (esOf nE ev) J := by
  rcases h with h | h
  · exact h
  · have := card_le n J; omega
theorem card_one (h : InHalf n (abOf n r) es m J) : 0 + 1 ≤ card n J := by
  unfold card
  exact List.length_pos_of_mem (List.mem_filter.2 ⟨by simpa using h.lt m h.m_, h.m_⟩)
theorem inhalf_start (hm : m < n) : InHalf n (abOf n r) es m (put1 (fun _ => false) m) := by
  refine ⟨by simp [put1], fun T _ hT i hi => ?_, fun i hi => ?_⟩
  · unfold put1 at hi
    by_cases e : i = m
    · rw [e]; exact hT
    · rw [if_neg e] at hi; cases hi
  · unfold put1 at hi
    by_cases e : i = m
    · omega
    · rw [if_neg e] at hi; cases hi
end SideW
end Go.Proofs.YbulkcmoqDoor
