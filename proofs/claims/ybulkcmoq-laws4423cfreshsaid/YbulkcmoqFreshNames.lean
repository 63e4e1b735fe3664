/-
  LawS4423CFresh: (*Policy).roleNames.
-/
import Derived.Test.YbulkcmoqFreshMem
import Derived.WalkSpells
import Derived.WalkLawsBesides
import Derived.Deep.QuietTactic
import Derived.BigQuiet
import Derived.RegionTactic
import Derived.BigRegion
import Derived.Deep.CutBlock
namespace Go.Proofs.Ybulkcmoq
namespace FreshW
open Go.Maps Go.Sort Go.RowKit

theorem hd {p : Prop} (h : p) : Hid p := h

/-- What is asked of slices.Sort at strings. -/
def Sort14 : Prop := ∀ (blk off cap : Nat) (ss : List (List UInt8)) (w : World), Holds encStr w blk off ss.toArray → blk < w.heap.size → ss.length < 4611686018427387904 →
  Calls Yba.prog 14 #[.slice (some ⟨blk, off, none⟩) ss.length cap] w fun e w' => e = .returned (.tuple #[]) ∧ ∃ n os, w' = grow (putRow encStr (Sort.ahead w n) blk off (ss.mergeSort fun x y => decide (x ≤ y)).toArray) os

set_option maxRecDepth 100000 in
set_option maxHeartbeats 2000000 in
theorem roleNames_any (hS : Sort14) {pb rb mb k cap : Nat} {Rn : Nat → ByteArray} {L : List Ent} {w : World} {e : Ent} (hp : Pol pb rb mb k cap Rn L w) (he : SlotsAt w k e) :
    Calls Yba.prog 20 #[.pointer (some ⟨pb, 0, none⟩), e.sv] w fun ev w' => ev = .returned (.slice (some ⟨w.heap.size, 0, none⟩) e.sl.length e.sl.length) ∧
      w'.rowIs w.heap.size 9 e.sl.length (fun j => encStr ((names Rn e.sl).getD j [])) ∧ Below w.heap.size w w' := by
  obtain ⟨b, c, hsv, hcell⟩ := he.ex
  have hlt := he.lt
  have hle := he.le
  generalize hm : e.sl = sl at *
  rw [hsv]
  have hmk := run_make_row' (P := Yba.prog) 25 9 (.string ByteArray.empty) 16 Yba.underlying25 info9 rfl .i64 .i64 sl.length (by omega) (by omega)
  have Hp := hd hp
  have Hcell := hd hcell
  have Hlt := hd hlt
  have HS := hd hS
  clear hp hcell hlt hS he hsv
  go_enter Yba.func20, Yba.ntmps20
  go_wp2_with fail
  go_loopw [13] (fun i wr => ∃ (j : Nat), j ≤ sl.length ∧ i = .int .i64 j ∧ wr.rowIs w.heap.size 9 sl.length (fun t => if t < j then .string (Rn (sl.getD t 0)) else .string ByteArray.empty) ∧ Below w.heap.size w wr) (fun i _ => sl.length - (intOf i).toNat)
  case atStart => exact ⟨0, Nat.zero_le _, rfl, (World.rowIs_made w _ _ _).congr (fun t _ => by simp), (Below.refl _ _).alloc (Nat.le_refl _) _⟩
  case round =>
    obtain ⟨j, hj, rfl, hrow, hB⟩ := hrel
    have Hrow := hd hrow
    have HB := hd hB
    by_cases hjl : j < sl.length
    · have c1 := cell_on hB (Hcell.out j hjl)
      have hlt := Hlt.out _ (List.getElem_mem hjl)
      have hP := Hp.out.later hB
      have c2 := hP.p0
      have c3 := hP.rol _ hlt
      have c4 := hrow.cell hjl
      have hfz := hrow.frozen j
      have Hset := hd (hrow.set j (.string (Rn sl[j])))
      clear hrow hB hP
      go_wp2_with fail
      go_roundw
      case rel =>
        refine ⟨j + 1, by omega, by go_num, Hset.out.congr (fun t ht => ?_), HB.out.setCell (Nat.le_refl _) _⟩
        by_cases e1 : t = j
        · subst e1; simp [List.getD, hjl]
        · simp only [e1, if_false]
          by_cases e2 : t < j
          · simp [e2, show t < j + 1 from by omega]
          · simp [e2, show ¬ t < j + 1 from by omega]
      case measure => simp [intOf]; omega
    · have hjn : j = sl.length := by omega
      have hl : (sl.map fun i => (Rn i).data.toList).length = sl.length := by simp
      have hrow2 : wr.rowIs w.heap.size 9 (sl.map fun i => (Rn i).data.toList).length (fun t => encStr ((sl.map fun i => (Rn i).data.toList).getD t [])) := by
        rw [hl]
        refine hrow.congr fun t ht => ?_
        rw [if_pos (by omega)]
        simp [List.getD, ht, encStr]
      have hwlt := hrow2.lt
      have hcall := HS.out w.heap.size 0 sl.length _ wr (holds_row hrow2) hwlt (by rw [hl]; omega)
      rw [hl] at hcall
      have Hrow2 := hd hrow2
      clear hrow hB hrow2
      go_wp2_with fail
      refine hcall.mono ?_
      rintro e2 w2 ⟨rfl, n, os, rfl⟩
      have hend := row_sorted (n := n) (os := os) Hrow2.out
      rw [hl] at hend
      have hBe := below_sorted (n := n) (os := os) (d := ((sl.map fun i => (Rn i).data.toList).mergeSort fun x y => decide (x ≤ y)).toArray) HB.out (Nat.le_refl _) hwlt
      generalize grow (putRow encStr (Sort.ahead wr n) w.heap.size 0 ((sl.map fun i => (Rn i).data.toList).mergeSort fun x y => decide (x ≤ y)).toArray) os = w9 at hend hBe ⊢
      have Hend := hd hend
      have HBe := hd hBe
      clear hend hBe
      go_wp2_with fail
      go_ret
      exact ⟨rfl, Hend.out, HBe.out⟩
end FreshW
end Go.Proofs.Ybulkcmoq
