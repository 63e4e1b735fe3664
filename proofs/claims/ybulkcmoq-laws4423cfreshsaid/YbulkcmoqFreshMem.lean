/-
  LawS4423CFresh: the policy in memory.
-/
import Derived.Test.YbulkcmoqFreshPlain
import Derived.WalkKit
import Derived.Maps.OwnSet
import Derived.Maps.Keyed
import Derived.Deep.OwnRows
import Derived.Below
import Derived.Sort.OwnSorted
import Derived.Sort.EncStr
namespace Go.Proofs.Ybulkcmoq
namespace FreshW
open Go.Maps Go.Sort Go.RowKit

theorem law9 : Keyed Yba.prog 9 := string_keyed Yba.underlying9

/-- How a map's element, a slice, is told: by its place, its length, its room. -/
def Rs : Value → Option (DataW Unit × List MemPlace)
  | .slice (some ⟨b, 0, none⟩) n c => some (.agg [.lit (.int .u64 b), .lit (.int .u64 n), .lit (.int .u64 c)], [])
  | .slice none 0 0 => some (.nil, [])
  | _ => none

def encV (v : Value) : DataW Unit := ((Rs v).getD (.nil, [])).1

theorem Rs_slice (b n c : Nat) : Rs (.slice (some ⟨b, 0, none⟩) n c) = some (encV (.slice (some ⟨b, 0, none⟩) n c), []) := rfl
theorem Rs_inj {v : Value} {ps : List MemPlace} {b n c : Nat} (h : Rs v = some (encV (.slice (some ⟨b, 0, none⟩) n c), ps)) : v = .slice (some ⟨b, 0, none⟩) n c := by
  unfold Rs at h
  split at h
  · rename_i b' n' c'
    simp [encV, Rs] at h
    obtain ⟨⟨h1, h2, h3⟩, _⟩ := h
    obtain rfl : b' = b := by omega
    obtain rfl : n' = n := by omega
    obtain rfl : c' = c := by omega
    rfl
  · simp [encV, Rs] at h
  · cases h

/-- An entry's slots in memory. -/
structure SlotsAt (w : World) (k : Nat) (e : Ent) : Prop where
  ex : ∃ b c, e.sv = .slice (some ⟨b, 0, none⟩) e.sl.length c ∧ ∀ j (h : j < e.sl.length), w.cell? ⟨b, j, none⟩ = some (.int .i64 ((e.sl[j] : Nat) : Int))
  lt : ∀ i ∈ e.sl, i < k
  ne : e.sl ≠ []
  le : e.sl.length ≤ 1000
  nm : e.nm.size ≤ maxLen

theorem cell_on {w w' : World} {a : Addr} {v : Value} (hb : Below w.heap.size w w') (h : w.cell? a = some v) : w'.cell? a = some v :=
  (World.cell?_of_block (hb.block _ (World.block_lt_of_cell? w a h))).trans h

theorem SlotsAt.later {w w' : World} {k : Nat} {e : Ent} (h : SlotsAt w k e) (hb : Below w.heap.size w w') : SlotsAt w' k e := by
  obtain ⟨b, c, h1, h2⟩ := h.ex
  exact ⟨⟨b, c, h1, fun j hj => cell_on hb (h2 j hj)⟩, h.lt, h.ne, h.le, h.nm⟩

/-- The policy. -/
structure Pol (pb rb mb k cap : Nat) (Rn : Nat → ByteArray) (L : List Ent) (w : World) : Prop where
  p0 : w.cell? ⟨pb, 0, none⟩ = some (.slice (some ⟨rb, 0, none⟩) k cap)
  p8 : w.cell? ⟨pb, 8, none⟩ = some (.map (some mb))
  rol : ∀ i, i < k → w.cell? ⟨rb, i * 5, none⟩ = some (.string (Rn i))
  map : ∃ n D, w.ownsMap Yba.prog 9 Rs mb n D ∧ MapOf encV D L
  slots : ∀ e ∈ L, SlotsAt w k e
  few : L.length ≤ 1000

theorem map_on {w w' : World} {mb n : Nat} {D : DataW Unit} (hb : Below w.heap.size w w') (h : w.ownsMap Yba.prog 9 Rs mb n D) : w'.ownsMap Yba.prog 9 Rs mb n D := by
  have hl := h.lt
  obtain ⟨es, clock, hm, F, hs, hD⟩ := h
  exact ⟨es, clock, (hb.block _ hl).trans hm, F, hs, hD⟩

theorem Pol.later {pb rb mb k cap : Nat} {Rn : Nat → ByteArray} {L : List Ent} {w w' : World} (h : Pol pb rb mb k cap Rn L w) (hb : Below w.heap.size w w') : Pol pb rb mb k cap Rn L w' := by
  obtain ⟨n, D, h1, h2⟩ := h.map
  exact ⟨cell_on hb h.p0, cell_on hb h.p8, fun i hi => cell_on hb (h.rol i hi), ⟨n, D, map_on hb h1, h2⟩, fun e he => (h.slots e he).later hb, h.few⟩

/-- The names of some slots, sorted. -/
def names (Rn : Nat → ByteArray) (sl : List Nat) : List (List UInt8) := (sl.map fun i => (Rn i).data.toList).mergeSort fun x y => decide (x ≤ y)

theorem names_len (Rn : Nat → ByteArray) (sl : List Nat) : (names Rn sl).length = sl.length := by
  unfold names
  rw [(List.mergeSort_perm _ _).length_eq]
  simp

theorem info9 : (Yba.prog.info? 9).map (fun i => (i.zero, i.size, i.bytes)) = some (some (.string ByteArray.empty), 1, 16) := by kernel_rfl

theorem key9 {s : ByteArray} (h : s.size ≤ maxLen) : keyOf Yba.prog 9 (.string s) = some (.string s.data.toList) := Go.WideMaps.keyOf_string_mk Yba.underlying9 h

/-- A row of strings, sorted in place: what lies in it then. -/
theorem row_sorted {w : World} {g n : Nat} {os : Array Obj} {ss : List (List UInt8)} {f : Nat → Value} (h : w.rowIs g 9 ss.length f) :
    (grow (putRow encStr (Sort.ahead w n) g 0 (ss.mergeSort fun x y => decide (x ≤ y)).toArray) os).rowIs g 9 ss.length (fun j => encStr ((ss.mergeSort fun x y => decide (x ≤ y)).getD j [])) := by
  obtain ⟨c, hb, hs, _⟩ := h
  have hl : (ss.mergeSort fun x y => decide (x ≤ y)).length = ss.length := (List.mergeSort_perm _ _).length_eq
  refine ⟨_, heap_sorted _ hb, by simp [putCells, hs], fun i hi => ?_⟩
  have h1 := take_putCells c (ss.mergeSort fun x y => decide (x ≤ y)) (by omega)
  have h2 : (putCells encStr 0 (ss.mergeSort fun x y => decide (x ≤ y)).toArray c).toList[i]? = some (encStr ((ss.mergeSort fun x y => decide (x ≤ y)).getD i [])) := by
    have h3 : ((putCells encStr 0 (ss.mergeSort fun x y => decide (x ≤ y)).toArray c).toList.take (ss.mergeSort fun x y => decide (x ≤ y)).length)[i]? = ((ss.mergeSort fun x y => decide (x ≤ y)).map encStr)[i]? := by rw [h1]
    rw [List.getElem?_take_of_lt (by omega)] at h3
    rw [h3]
    simp [List.getD, hl, hi]
  simpa using h2

theorem holds_row {w : World} {g : Nat} {ss : List (List UInt8)} (h : w.rowIs g 9 ss.length (fun j => encStr (ss.getD j []))) : Holds encStr w g 0 ss.toArray := by
  intro j hj
  have hj' : j < ss.length := by simpa using hj
  refine ⟨?_, by simpa using h.frozen j⟩
  have := h.cell hj'
  simp only [Nat.zero_add]
  rw [this]
  simp [List.getD, hj']

/-- A sort of a row of the call's own turns nothing below it. -/
theorem below_sorted {w0 w : World} {B g n : Nat} {os : Array Obj} {d : Array (List UInt8)} (h : Below B w0 w) (hg : B ≤ g) (hl : g < w.heap.size) : Below B w0 (grow (putRow encStr (Sort.ahead w n) g 0 d) os) :=
  h.grown (grownBy_sorted d) (by omega) (fun k hk => by cases hk; exact hg)
end FreshW
end Go.Proofs.Ybulkcmoq
