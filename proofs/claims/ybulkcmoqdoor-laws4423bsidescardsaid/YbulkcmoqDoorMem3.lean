import Derived.Test.YbulkcmoqDoorMem2
namespace Go.Proofs.YbulkcmoqDoor
namespace SideW
open Go.RowKit Go.Maps

/-- The graph and the policy laid: block G, block G + 1. -/
structure M3 (w : World) (B : Nat) (r : Nat → Nat → Bool) (n A : Nat) (f : Nat → Value) (C G mx : Nat) (wr : World) : Prop where
  m2 : M2 w B r n A n C f wr
  map : wr.ownsMap Ybad.prog 9 (plainElem Ybad.prog 3) C n (Dn n)
  g10 : wr.cell? ⟨G, 10, none⟩ = some (.slice (some ⟨A, 0, none⟩) n n)
  g4 : wr.cell? ⟨G, 4, none⟩ = some (.int .i64 ((mx : Nat) : Int))
  p1 : wr.cell? ⟨G + 1, 1, none⟩ = some (.map (some C))
  p6 : wr.cell? ⟨G + 1, 6, none⟩ = some (.pointer (some ⟨G, 0, none⟩))
  cg : C < G
  sz : G + 1 < wr.heap.size

theorem M3.later {w : World} {B : Nat} {r : Nat → Nat → Bool} {n A : Nat} {f : Nat → Value} {C G mx : Nat} {wr wx : World} (h : M3 w B r n A f C G mx wr) (hb : Below (G + 1 + 1) wr wx) : M3 w B r n A f C G mx wx := by
  have hcg := h.cg
  have hc : ∀ k o, k < G + 1 + 1 → wx.cell? ⟨k, o, none⟩ = wr.cell? ⟨k, o, none⟩ := fun k o hk => hb.cell (p := ⟨k, o, none⟩) hk
  exact ⟨h.m2.later (hb.mono (by omega)), owns_of_block h.map (hb.block _ (by omega)), (hc _ _ (by omega)).trans h.g10, (hc _ _ (by omega)).trans h.g4, (hc _ _ (by omega)).trans h.p1, (hc _ _ (by omega)).trans h.p6, hcg, Nat.lt_of_lt_of_le h.sz hb.size⟩

theorem m3_start {w : World} {B : Nat} {r : Nat → Nat → Bool} {n A : Nat} {f : Nat → Value} {C G mx : Nat} {wr : World} {c1 c2 : Array Value} (h : M2 w B r n A n C f wr) (hm : wr.ownsMap Ybad.prog 9 (plainElem Ybad.prog 3) C n (Dn n)) (hG : wr.heap.size = G)
    (h10 : c1[10]? = some (.slice (some ⟨A, 0, none⟩) n n)) (h4 : c1[4]? = some (.int .i64 ((mx : Nat) : Int))) (h1 : c2[1]? = some (.map (some C))) (h6 : c2[6]? = some (.pointer (some ⟨G, 0, none⟩))) :
    M3 w B r n A f C G mx ((wr.alloc (.cells c1 48)).alloc (.cells c2 60)) := by
  have hlt := hm.lt
  have hb : Below wr.heap.size wr ((wr.alloc (.cells c1 48)).alloc (.cells c2 60)) := ((Below.refl _ _).alloc (Nat.le_refl _) _).alloc (by simp) _
  have hg : ((wr.alloc (.cells c1 48)).alloc (.cells c2 60)).heap[G]? = some (.cells c1 48) := by
    rw [Below.heap_alloc _ _ _ (by simp; omega), ← hG]
    exact (MapKept.heap_alloc wr _).1
  have hp : ((wr.alloc (.cells c1 48)).alloc (.cells c2 60)).heap[G + 1]? = some (.cells c2 60) := by
    have := (MapKept.heap_alloc (wr.alloc (.cells c1 48)) (.cells c2 60)).1
    simp only [World.size_alloc, hG] at this
    exact this
  refine ⟨h.later (hb.mono h.hi), owns_of_block hm (hb.block _ hlt), ?_, ?_, ?_, ?_, by omega, by simp; omega⟩
  · simp [World.cell?, hg, h10]
  · simp [World.cell?, hg, h4]
  · simp [World.cell?, hp, h1]
  · simp [World.cell?, hp, h6]

/-- The picks' names and slots. -/
def pk (n : Nat) (ix : Nat → Nat) (t : Nat) : Nat := if ix t = n then 8 else ix t
def sl (n : Nat) (ix : Nat → Nat) (t : Nat) : Nat := if ix t = n then 0 else ix t

/-- The roles and their slots, k of them laid. -/
structure M4 (w : World) (B : Nat) (r : Nat → Nat → Bool) (n A : Nat) (f : Nat → Value) (C G mx : Nat) (ix : Nat → Nat) (lP k : Nat) (wr : World) : Prop where
  m3 : M3 w B r n A f C G mx wr
  rol : wr.rowIs (G + 1 + 1) 9 lP (fun t => .string (if t < k then nmB (pk n ix t) else ByteArray.empty))
  slo : wr.rowIs (G + 1 + 1 + 1) 3 lP (fun t => .int .i64 ((if t < k then sl n ix t else 0 : Nat) : Int))

theorem m4_start {w : World} {B : Nat} {r : Nat → Nat → Bool} {n A : Nat} {f : Nat → Value} {C G mx : Nat} {ix : Nat → Nat} {lP : Nat} {wr : World} (h : M3 w B r n A f C G mx wr) (hs : wr.heap.size = G + 1 + 1) :
    M4 w B r n A f C G mx ix lP 0 ((wr.alloc (.cells (madeCells #[.string ByteArray.empty] lP) 9)).alloc (.cells (madeCells #[.int .i64 0] lP) 3)) := by
  have hb : Below wr.heap.size wr ((wr.alloc (.cells (madeCells #[.string ByteArray.empty] lP) 9)).alloc (.cells (madeCells #[.int .i64 0] lP) 3)) := ((Below.refl _ _).alloc (Nat.le_refl _) _).alloc (by simp) _
  refine ⟨h.later (hb.mono (by omega)), ?_, ?_⟩
  · have := (World.rowIs_made wr (.string ByteArray.empty) lP 9).alloc (.cells (madeCells #[.int .i64 0] lP) 3)
    rw [hs] at this
    exact this.congr fun t _ => by simp
  · have := World.rowIs_made (wr.alloc (.cells (madeCells #[.string ByteArray.empty] lP) 9)) (.int .i64 0) lP 3
    simp only [World.size_alloc, hs] at this
    exact this.congr fun t _ => by simp

theorem M4.step {w : World} {B : Nat} {r : Nat → Nat → Bool} {n A : Nat} {f : Nat → Value} {C G mx : Nat} {ix : Nat → Nat} {lP k : Nat} {wr : World} (h : M4 w B r n A f C G mx ix lP k wr) {s : ByteArray} {v : Int} (hs : s = nmB (pk n ix k)) (hv : v = ((sl n ix k : Nat) : Int)) :
    M4 w B r n A f C G mx ix lP (k + 1) ((wr.setCell ⟨G + 1 + 1, k, none⟩ (.string s)).setCell ⟨G + 1 + 1 + 1, k, none⟩ (.int .i64 v)) := by
  subst hs hv
  have hb : Below (G + 1 + 1) wr ((wr.setCell ⟨G + 1 + 1, k, none⟩ (.string (nmB (pk n ix k)))).setCell ⟨G + 1 + 1 + 1, k, none⟩ (.int .i64 ((sl n ix k : Nat) : Int))) := ((Below.refl (G + 1 + 1) wr).setCell (p := ⟨G + 1 + 1, k, none⟩) (Nat.le_refl _) _).setCell (p := ⟨G + 1 + 1 + 1, k, none⟩) (by show G + 1 + 1 ≤ G + 1 + 1 + 1; omega) _
  refine ⟨h.m3.later hb, ?_, ?_⟩
  · refine ((h.rol.set k (.string (nmB (pk n ix k)))).setOther (a := ⟨G + 1 + 1 + 1, k, none⟩) (by simp) _).congr fun t _ => ?_
    by_cases e : t = k
    · subst e; simp
    · simp only [e, if_false]
      by_cases e1 : t < k
      · simp [e1, show t < k + 1 from by omega]
      · simp [e1, show ¬ t < k + 1 from by omega]
  · refine ((h.slo.setOther (a := ⟨G + 1 + 1, k, none⟩) (by simp) _).set k (.int .i64 ((sl n ix k : Nat) : Int))).congr fun t _ => ?_
    by_cases e : t = k
    · subst e; simp
    · simp only [e, if_false]
      by_cases e1 : t < k
      · simp [e1, show t < k + 1 from by omega]
      · simp [e1, show ¬ t < k + 1 from by omega]
end SideW
end Go.Proofs.YbulkcmoqDoor
