import Derived.Test.YbulkcmoqDoorMem4
namespace Go.Proofs.YbulkcmoqDoor
namespace SideW
open Go.RowKit Go.Maps

theorem M5.later {w : World} {B : Nat} {r : Nat → Nat → Bool} {n A : Nat} {f : Nat → Value} {C G mx : Nat} {ix : Nat → Nat} {lP E nE : Nat} {ev : Nat → Nat} {k : Nat} {wr wx : World} (h : M5 w B r n A f C G mx ix lP E nE ev k wr) (hb : Below wr.heap.size wr wx) : M5 w B r n A f C G mx ix lP E nE ev k wx := by
  have h1 := h.edg.lt
  have h2 := h.ge
  exact ⟨h.m4.later (hb.mono (by omega)), h.edg.of_block (hb.block _ h1), h2⟩

theorem pk_lt {n : Nat} {ix : Nat → Nat} {t : Nat} (hn : n ≤ 8) (h : ix t ≤ n) : pk n ix t < 9 := by
  unfold pk; split <;> omega
theorem sl_lt {n : Nat} {ix : Nat → Nat} {t : Nat} (hn : 1 ≤ n) (h : ix t ≤ n) : sl n ix t < n := by
  unfold sl; split <;> omega
theorem pk_sl {n : Nat} {ix : Nat → Nat} {t : Nat} (hn : n ≤ 8) (h : ix t ≤ n) : (if pk n ix t < n then pk n ix t else 0) = sl n ix t := by
  unfold pk sl
  by_cases e : ix t = n
  · simp [e]; omega
  · simp [e]; omega

/-- The memory behind the call of setSides. -/
structure M6 (w : World) (B : Nat) (r : Nat → Nat → Bool) (n A : Nat) (f : Nat → Value) (C G mx : Nat) (ix : Nat → Nat) (lP E nE : Nat) (ev : Nat → Nat) (Sb : Nat) (g : Nat → Value) (wr : World) : Prop where
  m5 : M5 w B r n A f C G mx ix lP E nE ev nE wr
  row : wr.rowIs Sb 67 lP g
  side : ∀ k, k < lP → SideAt (abOf n r) (esOf nE ev) mx Sb wr (g k) (sl n ix k)

theorem M6.later {w : World} {B : Nat} {r : Nat → Nat → Bool} {n A : Nat} {f : Nat → Value} {C G mx : Nat} {ix : Nat → Nat} {lP E nE : Nat} {ev : Nat → Nat} {Sb : Nat} {g : Nat → Value} {wr wx : World} (h : M6 w B r n A f C G mx ix lP E nE ev Sb g wr) (hb : Below wr.heap.size wr wx) : M6 w B r n A f C G mx ix lP E nE ev Sb g wx :=
  ⟨h.m5.later hb, h.row.of_block (hb.block _ h.row.lt), fun k hk => (h.side k hk).later hb⟩

theorem sides_call {w : World} {r : Nat → Nat → Bool} {n A : Nat} {f : Nat → Value} {C G mx : Nat} {ix : Nat → Nat} {lP E nE : Nat} {ev : Nat → Nat} {wr : World} (h : M5 w w.heap.size r n A f C G mx ix lP E nE ev nE wr) (ht : Tab w) (hn1 : 1 ≤ n) (hn : n ≤ 8) (hr : Within n r) (htr : Trans n r) (hm : mx < n) (hlP : lP < 100000) (hnE : nE < 100000)
    (hix : ∀ t, t < lP → ix t ≤ n) (hev : ∀ t, t < 2 * nE → ev t < n) :
    Calls Ybad.prog 4 #[.pointer (some ⟨G + 1, 0, none⟩), .slice (some ⟨G + 1 + 1, 0, none⟩) lP lP, .slice (some ⟨E, 0, none⟩) nE nE] wr fun e w' => ∃ g, e = .returned (.slice (some ⟨wr.heap.size, 0, none⟩) lP lP) ∧ M6 w w.heap.size r n A f C G mx ix lP E nE ev wr.heap.size g w' ∧ Below wr.heap.size wr w' := by
  have hc := sides_any (G + 1) (G + 1 + 1) lP C n n G A mx (some ⟨E, 0, none⟩) nE (abOf n r) (esOf nE ev) (fun t => nmB (pk n ix t)) (sl n ix) (Dn n) wr (small_of hn hr htr hm) h.m4.m3.p1 h.m4.m3.p6 h.m4.m3.graph (ht.later h.m4.m3.m2.m1.be) h.edges
    (fun e he => by
      obtain ⟨j, hj, rfl⟩ := List.mem_map.1 he
      have hj' : j < nE := by simpa using hj
      exact ⟨hev _ (by omega), hev _ (by omega)⟩)
    (by rw [esOf_len]; exact hnE) hlP (h.m4.rol.congr fun t ht => by rw [if_pos ht]) h.m4.m3.map
    (fun k hk => by
      have h1 := hix k hk
      have h2 := pk_lt hn h1
      refine ⟨nm_key h2, ?_, sl_lt hn1 h1⟩
      rw [dn_at n (by omega) _ h2, pk_sl hn h1])
  rw [esOf_len] at hc
  refine hc.mono ?_
  rintro e w' ⟨g, rfl, hrow, hside, hB⟩
  exact ⟨g, rfl, ⟨h.later hB, hrow, hside⟩, hB⟩

/-- The reference set in memory: block I, newer than all of w0. -/
structure InM (w0 : World) (I : Nat) (J : Nat → Bool) (wr : World) : Prop where
  row : wr.rowIs I 24 8 (fun t => .bool (J t))
  be : Below I w0 wr

theorem InM.put {w0 : World} {I : Nat} {J : Nat → Bool} {wr : World} (h : InM w0 I J wr) (j : Nat) : InM w0 I (put1 J j) (wr.setCell ⟨I, j, none⟩ (.bool true)) :=
  ⟨(h.row.set j (.bool true)).congr fun t _ => by unfold put1; by_cases e : t = j <;> simp [e], h.be.setCell (Nat.le_refl _) _⟩

theorem InM.alloc {w0 : World} {I : Nat} {J : Nat → Bool} {wr : World} (h : InM w0 I J wr) (o : Obj) : InM w0 I J (wr.alloc o) := ⟨h.row.alloc o, h.be.alloc (by have := h.row.lt; omega) o⟩

def inCells : Array Value := #[Value.bool false, Value.bool false, Value.bool false, Value.bool false, Value.bool false, Value.bool false, Value.bool false, Value.bool false]

theorem inm_start (w0 : World) : InM w0 w0.heap.size (fun _ => false) (w0.alloc (.cells inCells 24)) := by
  refine ⟨?_, (Below.refl _ _).alloc (Nat.le_refl _) _⟩
  have h : inCells = Array.replicate 8 (Value.bool false) := rfl
  have := World.rowIs_alloc w0 inCells 24 (fun _ => .bool false) (fun i hi => by
    rw [h] at hi ⊢
    simp at hi
    simp [hi])
  have e : inCells.size = 8 := rfl
  rw [e] at this
  exact this
end SideW
end Go.Proofs.YbulkcmoqDoor
