/-
  LawS4423CFresh: the law's walk.
-/
import Derived.Test.YbulkcmoqFreshBuild
import Derived.Sort.Walk0
namespace Go.Proofs.Ybulkcmoq
namespace FreshW
open Go.Maps Go.Sort Go.RowKit

/-- Sorted names that are all different rise. -/
theorem rise {L : List Ent} (hs : (L.map Ent.key).Pairwise (fun a b => decide (a ≤ b) = true)) (hn : (L.map Ent.key).Nodup) {i : Nat} (hi : i + 1 < L.length) : (L[i]!).key < (L[i + 1]!).key := by
  have h1 := List.pairwise_iff_getElem.1 hs i (i + 1) (by simp; omega) (by simpa using hi) (by omega)
  have h2 := List.pairwise_iff_getElem.1 hn i (i + 1) (by simp; omega) (by simpa using hi) (by omega)
  simp only [List.getElem_map, decide_eq_true_eq] at h1 h2
  rw [getElem!_pos L i (by omega), getElem!_pos L (i + 1) hi]
  exact List.not_le.1 (fun h => h2 (List.le_antisymm h1 h))

theorem less_of {a b : ByteArray} (h : a.data.toList < b.data.toList) : Op.bytesLess a.toList b.toList = true := by
  rw [bytesLess_eq, ByteArray.toList_eq, ByteArray.toList_eq]
  simpa using h
theorem BytesIn.later {w w' : World} {a : Option Addr} {len : Nat} {f : Nat → Int} (h : BytesIn w a len f) (hb : Below w.heap.size w w') : BytesIn w' a len f := fun i hi => by
  obtain ⟨b, off, h1, h2⟩ := h i hi
  exact ⟨b, off, h1, fun j hj => ⟨cell_on hb (h2 j hj).1, (h2 j hj).2⟩⟩
theorem StrsIn.later {w w' : World} {a : Option Addr} {len : Nat} {f : Nat → ByteArray} (h : StrsIn w a len f) (hb : Below w.heap.size w w') : StrsIn w' a len f := fun i hi => by
  obtain ⟨b, off, h1, h2⟩ := h i hi
  exact ⟨b, off, h1, fun j hj => cell_on hb (h2 j hj)⟩
theorem UsersIn.later {w w' : World} {a : Option Addr} {len : Nat} {nm : Nat → ByteArray} {ra : Nat → Option Addr} {rl rc : Nat → Nat} {rf : Nat → Nat → Int} (h : UsersIn w a len nm ra rl rc rf) (hb : Below w.heap.size w w') : UsersIn w' a len nm ra rl rc rf := fun i hi => by
  obtain ⟨b, off, h1, h2⟩ := h i hi
  exact ⟨b, off, h1, fun j hj => ⟨cell_on hb (h2 j hj).1, cell_on hb (h2 j hj).2.1, (h2 j hj).2.2.1, (h2 j hj).2.2.2.later hb⟩⟩
end FreshW
end Go.Proofs.Ybulkcmoq
