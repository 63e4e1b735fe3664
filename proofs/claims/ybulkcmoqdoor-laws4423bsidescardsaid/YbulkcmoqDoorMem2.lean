import Derived.Test.YbulkcmoqDoorMem
import Derived.StringKeys
namespace Go.Proofs.YbulkcmoqDoor
namespace SideW
open Go.RowKit Go.Maps

theorem M1.of_blocks {w : World} {B : Nat} {r : Nat → Nat → Bool} {wr wx : World} (h : M1 w B r wr) (h0 : wx.heap[B]? = wr.heap[B]?) (h1 : wx.heap[B + 1]? = wr.heap[B + 1]?) (hb : Below B w wx) : M1 w B r wx :=
  ⟨h.nm.of_block h0, h.rel.of_block h1, hb⟩

/-- A finished row: a slice of the list's numbers in a block between A and Bi. -/
def Row1 (A Bi : Nat) (w : World) (v : Value) (l : List Nat) : Prop :=
  ∃ a cap, v = .slice a l.length cap ∧ (l = [] ∨ ∃ b, a = some ⟨b, 0, none⟩ ∧ A < b ∧ b < Bi ∧ ∀ j, (h : j < l.length) → w.cell? ⟨b, j, none⟩ = some (.int .i64 ((l[j] : Nat) : Int)))

theorem Row1.keep {A Bi Bj : Nat} {w wx : World} {v : Value} {l : List Nat} (h : Row1 A Bi w v l) (hb : ∀ k, A < k → k < Bi → wx.heap[k]? = w.heap[k]?) (hj : Bi ≤ Bj) : Row1 A Bj wx v l := by
  obtain ⟨a, cap, h1, h2⟩ := h
  refine ⟨a, cap, h1, ?_⟩
  rcases h2 with h2 | ⟨b, h2, h3, h4, h5⟩
  · exact .inl h2
  · exact .inr ⟨b, h2, h3, by omega, fun j hj => (World.cell?_of_block (hb b h3 h4)).trans (h5 j hj)⟩

theorem Row1.ints {A Bi : Nat} {w : World} {v : Value} {l : List Nat} (h : Row1 A Bi w v l) : ∃ a cap, v = .slice a l.length cap ∧ Ints Bi w a l := by
  obtain ⟨a, cap, h1, h2⟩ := h
  refine ⟨a, cap, h1, ?_⟩
  rcases h2 with h2 | ⟨b, h2, _, h4, h5⟩
  · exact .inl h2
  · exact .inr ⟨b, 0, h2, h4, fun j hj => by rw [Nat.zero_add]; exact h5 j hj⟩

/-- The sets above each role, under way: row i is being filled; its cells lie from Bi on. -/
structure M2 (w : World) (B : Nat) (r : Nat → Nat → Bool) (n A i Bi : Nat) (f : Nat → Value) (wr : World) : Prop where
  m1 : M1 w B r wr
  row : wr.rowIs A 29 n f
  aB : B + 1 < A
  done : ∀ x, x < i → Row1 A Bi wr (f x) (abOf n r x)
  lo : A < Bi
  hi : Bi ≤ wr.heap.size

/-- The numbers of a list as cells. -/
def intCells (l : List Nat) : List Value := l.map fun x => .int .i64 ((x : Nat) : Int)

theorem m2_step {w : World} {B : Nat} {r : Nat → Nat → Bool} {n A i Bi : Nat} {f : Nat → Value} {wr w1 : World} {v' : Value} {l : List Nat} {m : Nat} {o : Obj} (h : M2 w B r n A i Bi f wr)
    (hown : wr.ownsRow Bi 3 1 (f i) l.length (intCells l)) (hg : (wr.alloc o).grownBy w1 (f i).ownBlock) (hown' : w1.ownsRow Bi 3 1 v' (l.length + 1) (intCells l ++ [.int .i64 ((m : Nat) : Int)])) :
    M2 w B r n A i Bi (fun x => if x = i then v' else f x) (w1.setCell ⟨A, i, none⟩ v') ∧ (w1.setCell ⟨A, i, none⟩ v').ownsRow Bi 3 1 v' (l ++ [m]).length (intCells (l ++ [m])) := by
  have hlo := h.lo
  have hhi := h.hi
  have haB := h.aB
  have blk : ∀ k, k < Bi → w1.heap[k]? = wr.heap[k]? := fun k hk => by
    rw [hg.block k (by simp; omega) (fun e => by have := (hown.lt k e.symm).1; omega), Below.heap_alloc _ _ _ (by omega)]
  have blk2 : ∀ k, k < Bi → k ≠ A → (w1.setCell ⟨A, i, none⟩ v').heap[k]? = wr.heap[k]? := fun k hk hne => by
    rw [Below.heap_setCell _ _ _ _ (by simpa using hne)]; exact blk k hk
  have hsz : wr.heap.size ≤ w1.heap.size := by have := hg.size; simp at this; omega
  have hbel : Below B w (w1.setCell ⟨A, i, none⟩ v') := ((h.m1.be.alloc (by omega) o).grown hg (by simp; omega) (fun k hk => by have := (hown.lt k hk).1; omega)).setCell (by show B ≤ A; omega) _
  refine ⟨⟨h.m1.of_blocks (blk2 B (by omega) (by omega)) (blk2 (B + 1) (by omega) (by omega)) hbel, (h.row.of_block (blk A hlo)).set i v', haB, ?_, hlo, by simp; omega⟩, ?_⟩
  · intro x hx
    simp only [show ¬ x = i from by omega, if_false]
    exact (h.done x hx).keep (fun k h1 h2 => blk2 k h2 (by omega)) (Nat.le_refl _)
  · have := ownsRow_setCell_below hown' (a := ⟨A, i, none⟩) hlo v'
    simpa [intCells] using this

/-- A row is done. -/
theorem m2_next {w : World} {B : Nat} {r : Nat → Nat → Bool} {n A i Bi : Nat} {f : Nat → Value} {wr : World} (h : M2 w B r n A i Bi f wr) (hown : wr.ownsRow Bi 3 1 (f i) (abOf n r i).length (intCells (abOf n r i))) : M2 w B r n A (i + 1) wr.heap.size f wr := by
  have hlo := h.lo
  have hhi := h.hi
  refine ⟨h.m1, h.row, h.aB, ?_, by omega, Nat.le_refl _⟩
  intro x hx
  by_cases e : x = i
  · subst e
    obtain ⟨hl, hc⟩ := hown
    rcases hc with ⟨h1, h2⟩ | ⟨g, cap, cur, h1, hg, hcur, _, _, _, hts⟩
    · exact ⟨none, 0, by rw [h1, h2], .inl (List.length_eq_zero_iff.1 h2)⟩
    · refine ⟨_, _, h1, .inr ⟨g, rfl, by omega, (Array.getElem?_eq_some_iff.1 hcur).1, fun j hj => ?_⟩⟩
      have : cur.toList[j]? = some (.int .i64 (((abOf n r x)[j] : Nat) : Int)) := by
        have h3 := congrArg (fun l => l[j]?) hts
        rw [Nat.mul_one] at h3
        simp only [List.getElem?_take_of_lt hj] at h3
        rw [h3]
        simp [intCells, hj]
      simp [World.cell?, hcur]
      simpa using this
  · exact (h.done x (by omega)).keep (fun k _ _ => rfl) hhi

theorem ab_step (r : Nat → Nat → Bool) (i j : Nat) : abOf (j + 1) r i = abOf j r i ++ if r i j then [j] else [] := by
  unfold abOf
  rw [List.range_succ, List.filter_append]
  cases h : r i j <;> simp [h]

theorem info29 : (Ybad.prog.info? 29).map (fun i => (i.zero, i.size, i.bytes)) = some (some (.slice none 0 0), 1, 24) := by kernel_rfl

/-- Nothing below Bi has turned. -/
theorem M2.later {w : World} {B : Nat} {r : Nat → Nat → Bool} {n A i Bi : Nat} {f : Nat → Value} {wr wx : World} (h : M2 w B r n A i Bi f wr) (hb : Below Bi wr wx) : M2 w B r n A i Bi f wx := by
  have hlo := h.lo
  have haB := h.aB
  refine ⟨h.m1.of_blocks (hb.block _ (by omega)) (hb.block _ (by omega)) (h.m1.be.trans (hb.mono (by omega))), h.row.of_block (hb.block _ hlo), haB, ?_, hlo, Nat.le_trans h.hi hb.size⟩
  intro x hx
  exact (h.done x hx).keep (fun k _ h2 => hb.block k h2) (Nat.le_refl _)

/-- The index after k rounds. -/
def Dn : Nat → DataW Unit
  | 0 => .map []
  | k + 1 => (Dn k).put (.string (nmB k).data.toList) (.lit (.int .i64 ((k : Nat) : Int)))

theorem dn_isMap : ∀ k, IsMap (Dn k)
  | 0 => isMap_empty
  | k + 1 => (dn_isMap k).put _ _

theorem nm_ne : (List.range 9).all (fun i => (List.range 9).all fun j => decide (i = j) || decide ((nmB i).data.toList ≠ (nmB j).data.toList)) = true := by kernel_rfl
theorem nm_inj {i j : Nat} (hi : i < 9) (hj : j < 9) (h : (nmB i).data.toList = (nmB j).data.toList) : i = j := by
  have := List.all_eq_true.1 (List.all_eq_true.1 nm_ne i (by simpa using hi)) j (by simpa using hj)
  simp only [Bool.or_eq_true, decide_eq_true_eq] at this
  rcases this with h1 | h1
  · exact h1
  · exact absurd h h1

theorem dn_at : ∀ k, k ≤ 9 → ∀ i, i < 9 → (Dn k).atKey (.string (nmB i).data.toList) (.lit (.int .i64 0)) = .lit (.int .i64 (((if i < k then i else 0) : Nat) : Int))
  | 0, _, i, _ => by simp [Dn, DataW.atKey]
  | k + 1, hk, i, hi => by
    by_cases e : i = k
    · subst e
      rw [Dn, atKey_put_same (k := .string (nmB i).data.toList) (dn_isMap i) trivial]
      simp
    · have hne : Lit.string (nmB i).data.toList ≠ Lit.string (nmB k).data.toList := fun h => e (nm_inj hi (by omega) (by simpa using h))
      rw [Dn, atKey_put_other hne, dn_at k (by omega) i hi]
      by_cases e1 : i < k
      · simp [e1, show i < k + 1 from by omega]
      · simp [e1, show ¬ i < k + 1 from by omega]

theorem nm_key {i : Nat} (hi : i < 9) : keyOf Ybad.prog 9 (.string (nmB i)) = some (.string (nmB i).data.toList) := by
  have h : (List.range 9).all (fun i => decide ((nmB i).size ≤ 10)) = true := by kernel_rfl
  have := List.all_eq_true.1 h i (by simpa using hi)
  exact Go.WideMaps.keyOf_string_mk Ybad.underlying9 (by unfold maxLen; simp at this; omega)
theorem info9 : (Ybad.prog.info? 9).map (fun i => (i.zero, i.size, i.bytes)) = some (some (.string ByteArray.empty), 1, 16) := by kernel_rfl
end SideW
end Go.Proofs.YbulkcmoqDoor
