import Derived.Test.YbulkcmoqDoorMem3
namespace Go.Proofs.YbulkcmoqDoor
namespace SideW
open Go.RowKit Go.Maps

theorem info63 : (Ybad.prog.info? 63).map (fun i => (i.zero, i.size, i.bytes)) = some (some (.agg #[.int .i64 0, .int .i64 0]), 2, 16) := by kernel_rfl

theorem make62 (nE : Nat) (h : nE ≤ 2000) (w : World) : (Instr.makeSlice 62 (.int .i64 ((nE : Nat) : Int)) (.int .i64 ((nE : Nat) : Int))).run Ybad.prog w = .ok (.slice (some ⟨w.heap.size, 0, none⟩) nE nE) (w.alloc (.cells (madeCells #[.int .i64 0, .int .i64 0] (nE * 2)) 63)) := by
  obtain ⟨i, hi, hz0, hz1, hz2⟩ := info_parts info63
  have := run_make (P := Ybad.prog) w 62 63 i _ Ybad.underlying62 hi hz0 .i64 .i64 ((nE : Nat) : Int) ((nE : Nat) : Int) (by omega) (Int.le_refl _) (by rw [hz2]; omega) (by omega)
  rw [hz1] at this
  simpa [Value.cells] using this

theorem made_pair (w : World) (nE : Nat) : (w.alloc (.cells (madeCells #[.int .i64 0, .int .i64 0] (nE * 2)) 63)).rowIs w.heap.size 63 (nE * 2) (fun _ => .int .i64 0) := by
  have h := World.rowIs_alloc w (madeCells #[Value.int .i64 0, .int .i64 0] (nE * 2)) 63 (fun _ => .int .i64 0) (fun i hi => by
    rw [size_madeCells] at hi
    have h2 : i % 2 = 0 ∨ i % 2 = 1 := by omega
    rcases h2 with h2 | h2 <;> simp [madeCells, hi, h2])
  rw [size_madeCells] at h
  exact h

/-- The edges, k of them laid at block E. -/
structure M5 (w : World) (B : Nat) (r : Nat → Nat → Bool) (n A : Nat) (f : Nat → Value) (C G mx : Nat) (ix : Nat → Nat) (lP E nE : Nat) (ev : Nat → Nat) (k : Nat) (wr : World) : Prop where
  m4 : M4 w B r n A f C G mx ix lP lP wr
  edg : wr.rowIs E 63 (nE * 2) (fun t => .int .i64 ((if t < 2 * k then ev t else 0 : Nat) : Int))
  ge : G + 1 + 1 + 1 < E

theorem M4.later {w : World} {B : Nat} {r : Nat → Nat → Bool} {n A : Nat} {f : Nat → Value} {C G mx : Nat} {ix : Nat → Nat} {lP k : Nat} {wr wx : World} (h : M4 w B r n A f C G mx ix lP k wr) (hb : Below (G + 1 + 1 + 1 + 1) wr wx) : M4 w B r n A f C G mx ix lP k wx :=
  ⟨h.m3.later (hb.mono (by omega)), h.rol.of_block (hb.block _ (by omega)), h.slo.of_block (hb.block _ (by omega))⟩

theorem m5_start {w : World} {B : Nat} {r : Nat → Nat → Bool} {n A : Nat} {f : Nat → Value} {C G mx : Nat} {ix : Nat → Nat} {lP nE : Nat} {ev : Nat → Nat} {wr : World} (h : M4 w B r n A f C G mx ix lP lP wr) :
    M5 w B r n A f C G mx ix lP wr.heap.size nE ev 0 (wr.alloc (.cells (madeCells #[.int .i64 0, .int .i64 0] (nE * 2)) 63)) := by
  have hs := h.slo.lt
  refine ⟨h.later ((Below.refl _ _).alloc (by omega) _), (made_pair wr nE).congr fun t _ => by simp, by omega⟩

theorem M5.step {w : World} {B : Nat} {r : Nat → Nat → Bool} {n A : Nat} {f : Nat → Value} {C G mx : Nat} {ix : Nat → Nat} {lP E nE : Nat} {ev : Nat → Nat} {k : Nat} {wr : World} (h : M5 w B r n A f C G mx ix lP E nE ev k wr) :
    M5 w B r n A f C G mx ix lP E nE ev (k + 1) ((wr.setCell ⟨E, k * 2, none⟩ (.int .i64 ((ev (2 * k) : Nat) : Int))).setCell ⟨E, k * 2 + 1, none⟩ (.int .i64 ((ev (2 * k + 1) : Nat) : Int))) := by
  have hge := h.ge
  have hb : Below (G + 1 + 1 + 1 + 1) wr ((wr.setCell ⟨E, k * 2, none⟩ (.int .i64 ((ev (2 * k) : Nat) : Int))).setCell ⟨E, k * 2 + 1, none⟩ (.int .i64 ((ev (2 * k + 1) : Nat) : Int))) :=
    ((Below.refl (G + 1 + 1 + 1 + 1) wr).setCell (p := ⟨E, k * 2, none⟩) (by show _ ≤ E; omega) _).setCell (p := ⟨E, k * 2 + 1, none⟩) (by show _ ≤ E; omega) _
  refine ⟨h.m4.later hb, ?_, hge⟩
  refine ((h.edg.set (k * 2) _).set (k * 2 + 1) _).congr fun t _ => ?_
  by_cases e1 : t = k * 2 + 1
  · have e2 : k * 2 + 1 = 2 * k + 1 := by omega
    simp only [e1, if_true]
    rw [e2, if_pos (by omega)]
  · simp only [e1, if_false]
    by_cases e2 : t = k * 2
    · have e3 : k * 2 = 2 * k := by omega
      simp only [e2, if_true]
      rw [e3, if_pos (by omega)]
    · simp only [e2, if_false]
      by_cases e3 : t < 2 * k
      · simp [e3, show t < 2 * (k + 1) from by omega]
      · simp [e3, show ¬ t < 2 * (k + 1) from by omega]

theorem M5.drew {w : World} {B : Nat} {r : Nat → Nat → Bool} {n A : Nat} {f : Nat → Value} {C G mx : Nat} {ix : Nat → Nat} {lP E nE : Nat} {ev : Nat → Nat} {k : Nat} {wr : World} (h : M5 w B r n A f C G mx ix lP E nE ev k wr) : M5 w B r n A f C G mx ix lP E nE ev k wr.drew :=
  ⟨h.m4.later (Below.refl _ _).drew, h.edg.drew, h.ge⟩

/-- The edges as a list. -/
def esOf (nE : Nat) (ev : Nat → Nat) : List (Nat × Nat) := (List.range nE).map fun j => (ev (2 * j), ev (2 * j + 1))

theorem esOf_len (nE : Nat) (ev : Nat → Nat) : (esOf nE ev).length = nE := by simp [esOf]

theorem M5.edges {w : World} {B : Nat} {r : Nat → Nat → Bool} {n A : Nat} {f : Nat → Value} {C G mx : Nat} {ix : Nat → Nat} {lP E nE : Nat} {ev : Nat → Nat} {wr : World} (h : M5 w B r n A f C G mx ix lP E nE ev nE wr) : Edges wr.heap.size wr (some ⟨E, 0, none⟩) (esOf nE ev) := by
  refine .inr ⟨E, rfl, h.edg.lt, fun j hj => ?_⟩
  rw [esOf_len] at hj
  have h1 := h.edg.cell (i := j * 2) (by omega)
  have h2 := h.edg.cell (i := j * 2 + 1) (by omega)
  rw [if_pos (by omega)] at h1 h2
  have e1 : (esOf nE ev)[j]'(by rw [esOf_len]; exact hj) = (ev (2 * j), ev (2 * j + 1)) := by simp [esOf]
  rw [e1]
  rw [show ev (j * 2) = ev (2 * j) from by rw [Nat.mul_comm]] at h1
  rw [show ev (j * 2 + 1) = ev (2 * j + 1) from by rw [Nat.mul_comm j 2]] at h2
  exact ⟨h1, h2⟩

theorem M3.graph {w : World} {B : Nat} {r : Nat → Nat → Bool} {n A : Nat} {f : Nat → Value} {C G mx : Nat} {wr : World} (h : M3 w B r n A f C G mx wr) : Graph wr.heap.size wr n (abOf n r) G A mx := by
  have h1 := h.sz
  have h2 := h.cg
  have h3 := h.m2.lo
  refine ⟨by omega, by omega, h.g10, h.g4, fun x hx => ?_⟩
  have hc := h.m2.row.cell hx
  obtain ⟨a, cap, h4, h5⟩ := (h.m2.done x hx).ints
  exact ⟨a, cap, by rw [hc, h4], h5.mono (by have := h.m2.hi; omega)⟩

theorem small_of {n mx : Nat} {r : Nat → Nat → Bool} (hn : n ≤ 8) (hr : Within n r) (ht : Trans n r) (hm : mx < n) : Small n (abOf n r) mx :=
  ⟨hn, fun x j hj => (hr x j ((mem_ab hr).1 hj)).2, fun x => by have := ab_len n r x; omega, ab_tr hr ht, hm⟩
end SideW
end Go.Proofs.YbulkcmoqDoor
