import Derived.Test.YbulkcmoqDoorAct
import Derived.Maps.OwnSet
namespace Go.Proofs.YbulkcmoqDoor
namespace SideW
open Go.RowKit Go.Maps

theorem law9 : Keyed Ybad.prog 9 := string_keyed Ybad.underlying9
theorem info67 : (Ybad.prog.info? 67).map (fun i => (i.zero, i.size, i.bytes)) = some (some (.slice none 0 0), 1, 24) := by kernel_rfl

/-- A bitset value that is the side of the role in slot m; its word does not lie in block sb. -/
def SideAt (ab : Nat → List Nat) (es : List (Nat × Nat)) (maxR sb : Nat) (w : World) (v : Value) (m : Nat) : Prop :=
  ∃ g cap S, v = .slice (some ⟨g, 0, none⟩) 1 cap ∧ g ≠ sb ∧ S < 256 ∧ w.cell? ⟨g, 0, none⟩ = some (.int .u64 ((S : Nat) : Int)) ∧ Side ab es m maxR S

theorem SideAt.later {ab : Nat → List Nat} {es : List (Nat × Nat)} {maxR sb : Nat} {w w' : World} {v : Value} {m : Nat} (h : SideAt ab es maxR sb w v m) (hb : Below w.heap.size w w') : SideAt ab es maxR sb w' v m := by
  obtain ⟨g, cap, S, h1, h2, h3, h4, h5⟩ := h
  exact ⟨g, cap, S, h1, h2, h3, cell_later hb h4, h5⟩

theorem SideAt.set {ab : Nat → List Nat} {es : List (Nat × Nat)} {maxR sb : Nat} {w : World} {v : Value} {m : Nat} (h : SideAt ab es maxR sb w v m) (k : Nat) (u : Value) : SideAt ab es maxR sb (w.setCell ⟨sb, k, none⟩ u) v m := by
  obtain ⟨g, cap, S, h1, h2, h3, h4, h5⟩ := h
  exact ⟨g, cap, S, h1, h2, h3, by rw [World.cell?_setCell_other _ _ _ _ (fun e => h2 (congrArg Addr.block e).symm)]; exact h4, h5⟩

theorem owns_of_block {w wx : World} {P : Program} {k : TypeId} {R : Value → Option (DataW Unit × List MemPlace)} {b n : Nat} {D : DataW Unit} (h : w.ownsMap P k R b n D) (e : wx.heap[b]? = w.heap[b]?) : wx.ownsMap P k R b n D := by
  obtain ⟨es, clock, hb, F, hs, hD⟩ := h
  exact ⟨es, clock, e.trans hb, F, hs, hD⟩

set_option maxRecDepth 100000 in
set_option maxHeartbeats 4000000 in
theorem sides_any (p rb nr ib n nD G A maxR : Nat) (ae : Option Addr) (ce : Nat) (ab : Nat → List Nat) (es : List (Nat × Nat)) (nm : Nat → ByteArray) (sl : Nat → Nat) (D : DataW Unit) (w : World) (hs : Small n ab maxR)
    (hp1 : w.cell? ⟨p, 1, none⟩ = some (.map (some ib))) (hp6 : w.cell? ⟨p, 6, none⟩ = some (.pointer (some ⟨G, 0, none⟩))) (hg : Graph w.heap.size w n ab G A maxR) (ht : Tab w)
    (he : Edges w.heap.size w ae es) (hen : ∀ e ∈ es, e.1 < n ∧ e.2 < n) (hel : es.length < 100000) (hnr : nr < 100000)
    (hr : w.rowIs rb 9 nr (fun k => .string (nm k))) (hm : w.ownsMap Ybad.prog 9 (plainElem Ybad.prog 3) ib nD D)
    (hnm : ∀ k, k < nr → keyOf Ybad.prog 9 (.string (nm k)) = some (.string (nm k).data.toList) ∧ D.atKey (.string (nm k).data.toList) (.lit (.int .i64 0)) = .lit (.int .i64 ((sl k : Nat) : Int)) ∧ sl k < n) :
    Calls Ybad.prog 4 #[.pointer (some ⟨p, 0, none⟩), .slice (some ⟨rb, 0, none⟩) nr nr, .slice ae es.length ce] w fun e w' => ∃ f, e = .returned (.slice (some ⟨w.heap.size, 0, none⟩) nr nr) ∧ w'.rowIs w.heap.size 67 nr f ∧ (∀ k, k < nr → SideAt ab es maxR w.heap.size w' (f k) (sl k)) ∧ Below w.heap.size w w' := by
  have hmk := run_make_row' (P := Ybad.prog) 64 67 (.slice none 0 0) 24 Ybad.underlying64 info67 rfl .i64 .i64 nr (by omega) (by omega)
  have Hs := hd hs
  have Hg := hd hg
  have Ht := hd ht
  have He := hd he
  have Hen := hd hen
  have Hnm := hd hnm
  have Hr := hd hr
  have Hm := hd hm
  have Hp1 := hd hp1
  have Hp6 := hd hp6
  clear hs hg ht he hen hnm hr hm hp1 hp6
  go_enter Ybad.func4, Ybad.ntmps4
  go_wp2_with fail
  go_loopw [15] (fun i wr => ∃ (k : Nat) (f : Nat → Value), k ≤ nr ∧ i = .int .i64 k ∧ wr.rowIs w.heap.size 67 nr f ∧ (∀ j, j < k → SideAt ab es maxR w.heap.size wr (f j) (sl j)) ∧ Below w.heap.size w wr) (fun i _ => nr - (intOf i).toNat)
  case atStart => exact ⟨0, _, Nat.zero_le _, rfl, World.rowIs_made w _ nr 67, (fun j hj => by omega), (Below.refl _ _).alloc (Nat.le_refl _) _⟩
  case round =>
    obtain ⟨k, f, hk, rfl, hrow, hsd, hB⟩ := hrel
    have HB := hd hB
    have Hrow := hd hrow
    have Hsd := hd hsd
    by_cases hlt : k < nr
    · have cr := cell_later hB (Hr.out.cell hlt)
      have c1 := cell_later hB Hp1.out
      have c6 := cell_later hB Hp6.out
      obtain ⟨hkey, hat, hsl⟩ := Hnm.out k hlt
      have hm1 : wr.ownsMap Ybad.prog 9 (plainElem Ybad.prog 3) ib nD D := owns_of_block Hm.out (hB.block _ Hm.out.lt)
      obtain ⟨c, hrun, hat', _⟩ := hm1.lookup_int law9 Ybad.underlying30 Ybad.underlying3 (by simp [go_sem]) hkey
      have hcs : c = ((sl k : Nat) : Int) := by
        rw [hat] at hat'
        simp at hat'
        exact hat'.symm
      rw [hcs] at hrun
      have Hc6 := hd c6
      clear hrow hsd hB hkey hat hat' hm1 hcs c6
      go_wp2_with fail
      have hn8 := Hs.out.n8
      have hBa : Below wr.heap.size wr (wr.alloc (Obj.cells #[Value.int IntKind.i64 ((sl k : Nat) : Int)] 3)) := (Below.refl _ _).alloc (Nat.le_refl _) _
      refine (bitsetOf_one wr.heap.size (sl k) _ (by omega) (by simp)).mono ?_
      rintro e w3 ⟨g0, cap0, rfl, hg0, hB3⟩
      have hB3' : Below wr.heap.size wr w3 := hBa.trans (hB3.mono hBa.size)
      have HB3 := hd (HB.out.trans (hB3'.mono HB.out.size))
      have Hrow3 := hd (Hrow.out.of_block (hB3'.block _ Hrow.out.lt))
      have Hsd3 := hd (fun j hj => (Hsd.out j hj).later hB3')
      have Hc63 := hd (cell_later hB3' Hc6.out)
      have Hg0 := hd hg0
      clear hBa hB3 hB3' hg0 cr c1 hrun Hc6 HB Hrow Hsd
      go_wp2_with fail
      refine (act_any p g0 cap0 (sl k) n G A maxR ae ce ab es w3 Hs.out hsl Hc63.out ((Hg.out.later HB3.out).mono HB3.out.size) Hg0.out (Ht.out.later HB3.out) ((He.out.later HB3.out).mono HB3.out.size) Hen.out hel).mono ?_
      rintro e w4 ⟨g, cap', S, hgB, rfl, hS, hcg, hside, hB4⟩
      have hrow4 := Hrow3.out.of_block (hB4.block _ Hrow3.out.lt)
      have hrc := hrow4.cell hlt
      have hrf := hrow4.frozen k
      have hgne : g ≠ w.heap.size := by
        have := Hrow3.out.lt
        omega
      have Hrel := hd (show (w4.setCell ⟨w.heap.size, k, none⟩ (.slice (some ⟨g, 0, none⟩) 1 cap')).rowIs w.heap.size 67 nr (fun j => if j = k then .slice (some ⟨g, 0, none⟩) 1 cap' else f j) ∧
          (∀ j, j < k + 1 → SideAt ab es maxR w.heap.size (w4.setCell ⟨w.heap.size, k, none⟩ (.slice (some ⟨g, 0, none⟩) 1 cap')) ((fun j => if j = k then .slice (some ⟨g, 0, none⟩) 1 cap' else f j) j) (sl j)) ∧
          Below w.heap.size w (w4.setCell ⟨w.heap.size, k, none⟩ (.slice (some ⟨g, 0, none⟩) 1 cap')) from by
        refine ⟨hrow4.set k _, ?_, (HB3.out.trans (hB4.mono HB3.out.size)).setCell (Nat.le_refl _) _⟩
        intro j hj
        by_cases e : j = k
        · subst e
          simp only [if_true]
          exact SideAt.set ⟨g, cap', S, rfl, hgne, hS, hcg, hside⟩ _ _
        · simp only [e, if_false]
          exact ((Hsd3.out j (by omega)).later hB4).set _ _)
      clear hrow4 hcg hB4 hside Hrow3 Hsd3 Hg0 Hc63
      go_wp2_with fail
      go_roundw
      case rel => exact ⟨k + 1, _, by omega, by go_num, Hrel.out.1, Hrel.out.2.1, Hrel.out.2.2⟩
      case measure => simp [intOf]; omega
    · have hkn : k = nr := by omega
      subst hkn
      clear hrow hsd hB
      go_wp2_with fail
      go_ret
      exact ⟨f, rfl, Hrow.out, Hsd.out, HB.out⟩
end SideW
end Go.Proofs.YbulkcmoqDoor
