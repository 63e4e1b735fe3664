import Derived.Test.YbulkcmocAllPlain
namespace Go.Proofs.Ybulkcmoc
namespace AllW
open Go.RowKit Go.Maps

/-- The law's own memory between its two making loops and its checks. R: the retired array; b: the map; b+2: the clients struct; b+3: mine; b+4: isLast; from b+5 on: the Clients. -/
structure Mid (w : World) (B : Nat) (ids : Nat → Int) (f : Nat → Nat) (R nr m b iM iD iL iC : Nat) (wr : World) : Prop where
  rb : R < b
  bR : B ≤ R
  ret : wr.rowIs R 25 nr (fun j => ptr (f j))
  map : wr.ownsMap Yba.prog 26 Rp b iD (Dm ids (b + 1 + 1 + 1 + 1 + 1) iD)
  mu : wr.cell? ⟨b + 1 + 1, 0, none⟩ = some (.int .i32 0)
  fz : wr.frozen? ⟨b + 1 + 1, 0, none⟩ = false
  by_ : wr.cell? ⟨b + 1 + 1, 11, none⟩ = some (.map (some b))
  re : wr.cell? ⟨b + 1 + 1, 13, none⟩ = some (.slice (some ⟨R, 0, none⟩) nr nr)
  mine : wr.rowIs (b + 1 + 1 + 1) 25 m (fun j => if j < iM then ptr (b + 1 + 1 + 1 + 1 + 1 + j) else .pointer none)
  last : wr.rowIs (b + 1 + 1 + 1 + 1) 4 m (fun j => .bool (if j < iL then isLast ids m j else false))
  cl : ∀ j, j < iC → ∃ c, wr.heap[b + 1 + 1 + 1 + 1 + 1 + j]? = some (.cells c 62 (0, 0))
  size : wr.heap.size = b + 1 + 1 + 1 + 1 + 1 + iC
  below : Below B w wr

section
variable {w : World} {B : Nat} {ids : Nat → Int} {f : Nat → Nat} {R nr m b iM iD iL iC iM' iL' : Nat} {wr wx : World}

theorem owns_of_block {P : Program} {k : TypeId} {n : Nat} {D : DataW Unit} (h : wr.ownsMap P k Rp b n D) (e : wx.heap[b]? = wr.heap[b]?) : wx.ownsMap P k Rp b n D := by
  obtain ⟨es, clock, hb, F, hs, hD⟩ := h
  exact ⟨es, clock, e.trans hb, F, hs, hD⟩

/-- A world of the same blocks (draws alone). -/
theorem Mid.alike (h : Mid w B ids f R nr m b iM iD iL iC wr) (hh : wx.heap = wr.heap) (ho : wx.os = wr.os) (ht : wx.tape = wr.tape) (hp : wx.output = wr.output) : Mid w B ids f R nr m b iM iD iL iC wx := by
  have hc : ∀ a, wx.cell? a = wr.cell? a := fun a => by simp [World.cell?, hh]
  have hf : ∀ a, wx.frozen? a = wr.frozen? a := fun a => by simp [World.frozen?, hh]
  exact ⟨h.rb, h.bR, h.ret.of_block (by rw [hh]), owns_of_block h.map (by rw [hh]), by rw [hc]; exact h.mu, by rw [hf]; exact h.fz, by rw [hc]; exact h.by_, by rw [hc]; exact h.re,
    h.mine.of_block (by rw [hh]), h.last.of_block (by rw [hh]), fun j hj => by rw [hh]; exact h.cl j hj, by rw [hh]; exact h.size,
    h.below.trans ⟨ho, ht, hp, by rw [hh]; exact Nat.le_refl _, fun k _ => by rw [hh]⟩⟩

theorem Mid.alloc (h : Mid w B ids f R nr m b iM iD iL iC wr) (c : Array Value) : Mid w B ids f R nr m b iM iD iL (iC + 1) (wr.alloc (.cells c 62)) := by
  have hs := h.size
  have hrb := h.rb
  have hbR := h.bR
  have blk : ∀ k, k < wr.heap.size → (wr.alloc (.cells c 62)).heap[k]? = wr.heap[k]? := fun k hk => Below.heap_alloc _ _ _ hk
  have hc : ∀ i o, i < wr.heap.size → (wr.alloc (.cells c 62)).cell? ⟨i, o, none⟩ = wr.cell? ⟨i, o, none⟩ := fun i o hi => World.cell?_of_block (blk i hi)
  have hf : ∀ i o, i < wr.heap.size → (wr.alloc (.cells c 62)).frozen? ⟨i, o, none⟩ = wr.frozen? ⟨i, o, none⟩ := fun i o hi => World.frozen?_of_block (blk i hi)
  refine ⟨hrb, hbR, h.ret.alloc _, h.map.alloc _, ?_, ?_, ?_, ?_, h.mine.alloc _, h.last.alloc _, ?_, ?_, h.below.alloc (by omega) _⟩
  · rw [hc _ _ (by omega)]; exact h.mu
  · rw [hf _ _ (by omega)]; exact h.fz
  · rw [hc _ _ (by omega)]; exact h.by_
  · rw [hc _ _ (by omega)]; exact h.re
  · intro j hj
    by_cases e : j = iC
    · subst e
      rw [← hs]
      exact ⟨c, (MapKept.heap_alloc wr _).1⟩
    · rw [blk _ (by omega)]
      exact h.cl j (by omega)
  · simp [hs]; omega

/-- A store into one cell of 'mine' or of 'isLast'. -/
theorem Mid.setRow (h : Mid w B ids f R nr m b iM iD iL iC wr) (i : Nat) (v : Value) (g : Nat) (hg : g = b + 1 + 1 + 1 ∨ g = b + 1 + 1 + 1 + 1)
    (hm : (wr.setCell ⟨g, i, none⟩ v).rowIs (b + 1 + 1 + 1) 25 m (fun j => if j < iM' then ptr (b + 1 + 1 + 1 + 1 + 1 + j) else .pointer none))
    (hl : (wr.setCell ⟨g, i, none⟩ v).rowIs (b + 1 + 1 + 1 + 1) 4 m (fun j => .bool (if j < iL' then isLast ids m j else false))) : Mid w B ids f R nr m b iM' iD iL' iC (wr.setCell ⟨g, i, none⟩ v) := by
  have hs := h.size
  have hrb := h.rb
  have hbR := h.bR
  have blk : ∀ k, k ≠ g → (wr.setCell ⟨g, i, none⟩ v).heap[k]? = wr.heap[k]? := fun k hk => Below.heap_setCell _ _ _ _ (by simpa using hk)
  have hc : ∀ k o, k ≠ g → (wr.setCell ⟨g, i, none⟩ v).cell? ⟨k, o, none⟩ = wr.cell? ⟨k, o, none⟩ := fun k o hi => World.cell?_of_block (blk k hi)
  have hf : ∀ k o, k ≠ g → (wr.setCell ⟨g, i, none⟩ v).frozen? ⟨k, o, none⟩ = wr.frozen? ⟨k, o, none⟩ := fun k o hi => World.frozen?_of_block (blk k hi)
  refine ⟨hrb, hbR, h.ret.of_block (blk _ (by omega)), owns_of_block h.map (blk _ (by omega)), ?_, ?_, ?_, ?_, hm, hl, ?_, by simpa using hs, h.below.setCell (by show B ≤ g; omega) _⟩
  · rw [hc _ _ (by omega)]; exact h.mu
  · rw [hf _ _ (by omega)]; exact h.fz
  · rw [hc _ _ (by omega)]; exact h.by_
  · rw [hc _ _ (by omega)]; exact h.re
  · intro j hj
    rw [blk _ (by omega)]
    exact h.cl j hj

theorem Mid.setMine (h : Mid w B ids f R nr m b iM iD iL iC wr) (q : Nat) (hq : q = b + 1 + 1 + 1 + 1 + 1 + iM) : Mid w B ids f R nr m b (iM + 1) iD iL iC (wr.setCell ⟨b + 1 + 1 + 1, iM, none⟩ (.pointer (some ⟨q, 0, none⟩))) := by
  subst hq
  refine h.setRow iM _ _ (.inl rfl) ?_ ?_
  · refine (h.mine.set iM (ptr (b + 1 + 1 + 1 + 1 + 1 + iM))).congr fun j _ => ?_
    by_cases e : j = iM
    · subst e; simp
    · simp only [e, if_false]
      by_cases e1 : j < iM
      · simp [e1, show j < iM + 1 from by omega]
      · simp [e1, show ¬ j < iM + 1 from by omega]
  · exact h.last.setOther (a := ⟨b + 1 + 1 + 1, iM, none⟩) (by simp) _

theorem Mid.setLast (h : Mid w B ids f R nr m b iM iD iL iC wr) (v : Bool) (hv : v = isLast ids m iL) : Mid w B ids f R nr m b iM iD (iL + 1) iC (wr.setCell ⟨b + 1 + 1 + 1 + 1, iL, none⟩ (.bool v)) := by
  subst hv
  refine h.setRow iL _ _ (.inr rfl) (h.mine.setOther (a := ⟨b + 1 + 1 + 1 + 1, iL, none⟩) (by simp) _) ?_
  refine (h.last.set iL (.bool (isLast ids m iL))).congr fun j _ => ?_
  by_cases e : j = iL
  · subst e; simp
  · simp only [e, if_false]
    by_cases e1 : j < iL
    · simp [e1, show j < iL + 1 from by omega]
    · simp [e1, show ¬ j < iL + 1 from by omega]

theorem Mid.put (h : Mid w B ids f R nr m b iM iD iL iC wr) (hm : wx.ownsMap Yba.prog 26 Rp b (iD + 1) (Dm ids (b + 1 + 1 + 1 + 1 + 1) (iD + 1))) (hg : wr.grownBy wx (some b)) (hsz : wx.heap.size = wr.heap.size) : Mid w B ids f R nr m b iM (iD + 1) iL iC wx := by
  have hs := h.size
  have hrb := h.rb
  have hbR := h.bR
  have blk : ∀ k, k < wr.heap.size → k ≠ b → wx.heap[k]? = wr.heap[k]? := fun k hk hne => hg.block k hk (by simpa using hne)
  have hc : ∀ i o, i < wr.heap.size → i ≠ b → wx.cell? ⟨i, o, none⟩ = wr.cell? ⟨i, o, none⟩ := fun i o hi hne => World.cell?_of_block (blk i hi hne)
  have hf : ∀ i o, i < wr.heap.size → i ≠ b → wx.frozen? ⟨i, o, none⟩ = wr.frozen? ⟨i, o, none⟩ := fun i o hi hne => World.frozen?_of_block (blk i hi hne)
  refine ⟨hrb, hbR, h.ret.of_block (blk _ (by omega) (by omega)), hm, ?_, ?_, ?_, ?_, h.mine.of_block (blk _ (by omega) (by omega)), h.last.of_block (blk _ (by omega) (by omega)), ?_, by omega, h.below.grown hg (by omega) (fun k hk => by cases hk; omega)⟩
  · rw [hc _ _ (by omega) (by omega)]; exact h.mu
  · rw [hf _ _ (by omega) (by omega)]; exact h.fz
  · rw [hc _ _ (by omega) (by omega)]; exact h.by_
  · rw [hc _ _ (by omega) (by omega)]; exact h.re
  · intro j hj
    rw [blk _ (by omega) (by omega)]
    exact h.cl j hj

end

/-- A look at two pointers to Clients: at one block they are one, at two they are not. -/
theorem info62 : ∃ j, Yba.prog.info? 62 = some j ∧ j.size ≠ 0 := by
  have h : (Yba.prog.info? 62).map (fun i => decide (i.size = 0)) = some false := by kernel_rfl
  obtain ⟨j, hj, hs⟩ := Option.map_eq_some_iff.1 h
  exact ⟨j, hj, by simpa using hs⟩

theorem neq_same (q : Nat) (w : World) : (binOp .neq 25 (.pointer (some ⟨q, 0, none⟩)) (.pointer (some ⟨q, 0, none⟩))).run Yba.prog w = .ok (.bool false) w := by
  obtain ⟨j, hj, hs⟩ := info62
  exact Lib.run_neq_ptr_same (P := Yba.prog) w ⟨q, 0, none⟩ Yba.underlying25 hj
theorem eql_same (q : Nat) (w : World) : (binOp .eql 25 (.pointer (some ⟨q, 0, none⟩)) (.pointer (some ⟨q, 0, none⟩))).run Yba.prog w = .ok (.bool true) w := by
  obtain ⟨j, hj, hs⟩ := info62
  exact run_eql_ptr_same (P := Yba.prog) w ⟨q, 0, none⟩ Yba.underlying25 hj
theorem eql_other (p q : Nat) (w : World) (c d : Array Value) (hp : w.heap[p]? = some (.cells c 62)) (hq : w.heap[q]? = some (.cells d 62)) (hne : p ≠ q) : (binOp .eql 25 (.pointer (some ⟨p, 0, none⟩)) (.pointer (some ⟨q, 0, none⟩))).run Yba.prog w = .ok (.bool false) w := by
  obtain ⟨j, hj, hs⟩ := info62
  exact run_eql_ptr_other (P := Yba.prog) w Yba.underlying25 hj hs (fun h => hne (congrArg Addr.block h)) hp hq
end AllW
end Go.Proofs.Ybulkcmoc
