import Derived.Test.YbulkcmoqDoorBits
namespace Go.Proofs.YbulkcmoqDoor
namespace SideW
open Go.RowKit

/-- 'append(nil, make([]T, n)...)' as one step of a region that draws. -/
theorem step_append_zeros {P : Program} {ops : Array Oper} {o : Oper} {a : Act} {w : World} {K : Act → World → Prop} {Q : Exit → Act → World → Prop} {E : Prop}
    (hg : o.guard = none) (s x : Operand) (t tn : TypeId) (hop : o.op = Op.call { callee := Callee.builtin Builtin.append, args := #[s, x], argTypes := #[t, tn] })
    (e : TypeId) (i : TypeInfo) (z : Value) (k kn : IntKind) (h1 : P.underlying t = some (.slice e)) (h2 : P.underlying tn = some (.int kn)) (h3 : P.info? e = some i) (h4 : i.zero = some z)
    (hs : a.eval s = .slice none 0 0) (hx : a.eval x = .int k 1) (hsz : 0 < i.size) (hb : i.bytes ≤ 281474976710656)
    (hK : K (a.put o.dst (.slice (some ⟨w.heap.size, 0, none⟩) 1 (grownCap w 1 0 e))) (w.drew.alloc (.cells (Builtin.zeroCells z.cells 1 ++ Builtin.zeroCells z.cells (grownCap w 1 0 e - 1)) e))) :
    if Region.wanted o (yielded ops a.tmps) = true then Oper.wp P o a w K Q else E := by
  have hw : Region.wanted o (yielded ops a.tmps) = true := by simp [Region.wanted, hg]
  rw [if_pos hw]
  have hrun := Lib.run_append_nil_zeros (P := P) w t tn o.type e i z k kn h1 h2 h3 h4 1 (by omega) hsz (by omega) (by omega)
  unfold Oper.wp
  simp only [Int.natCast_one] at hrun
  simp [execOp, hop, resolve, invoke, builtin, hs, hx, hrun, Result.andThen]
  exact hK

theorem info50 : (Ybad.prog.info? 50).map (fun i => (i.zero, i.size, i.bytes)) = some (some (.int .u64 0), 1, 8) := by kernel_rfl

/-- Block q holds a bitset, whose set is S; it and its words lie from B0 on. -/
def BS (B0 : Nat) (w : World) (q S : Nat) : Prop :=
  B0 ≤ q ∧ S < 256 ∧ ((S = 0 ∧ w.heap[q]? = some (.cells #[.slice none 0 0] 67 (0, 0))) ∨
    ∃ g cap cur, B0 ≤ g ∧ w.heap[q]? = some (.cells #[.slice (some ⟨g, 0, none⟩) 1 cap] 67 (0, 0)) ∧ w.heap[g]? = some (.cells cur 50 (0, 0)) ∧ cur[0]? = some (.int .u64 (S : Int)))

theorem BS.of_block {B0 : Nat} {w w' : World} {q S : Nat} (h : BS B0 w q S) (hb : ∀ k, B0 ≤ k → k < w.heap.size → w'.heap[k]? = w.heap[k]?) : BS B0 w' q S := by
  obtain ⟨h1, h2, h3⟩ := h
  refine ⟨h1, h2, ?_⟩
  rcases h3 with ⟨e, h⟩ | ⟨g, cap, cur, hg, h, h', h''⟩
  · exact .inl ⟨e, (hb q h1 (Array.getElem?_eq_some_iff.1 h).1).trans h⟩
  · exact .inr ⟨g, cap, cur, hg, (hb q h1 (Array.getElem?_eq_some_iff.1 h).1).trans h, (hb g hg (Array.getElem?_eq_some_iff.1 h').1).trans h', h''⟩

theorem BS.drewN {B0 : Nat} {w : World} {q S : Nat} (h : BS B0 w q S) (n : Nat) : BS B0 (w.drewN n) q S := h

/-- The store of a bit. -/
theorem bs_store {B0 g q x i cap : Nat} {cur : Array Value} {w : World} {v : Int} (hB : B0 ≤ q) (hgB : B0 ≤ g) (hq : w.heap[q]? = some (.cells #[.slice (some ⟨g, 0, none⟩) 1 cap] 67 (0, 0))) (hg : w.heap[g]? = some (.cells cur 50 (0, 0))) (hx : x < 256) (hc : cur[0]? = some (.int .u64 (x : Int))) (hi : i < 8)
    (hv : v = ((x ||| 2 ^ i : Nat) : Int)) : BS B0 (w.setCell ⟨g, 0, none⟩ (.int .u64 v)) q (x ||| 2 ^ i) := by
  have hne : q ≠ g := fun e => by subst e; rw [hq] at hg; cases hg
  subst hv
  refine ⟨hB, or_lt hx hi, .inr ⟨g, cap, cur.setIfInBounds 0 (.int .u64 ((x ||| 2 ^ i : Nat) : Int)), hgB, ?_, ?_, ?_⟩⟩
  · rw [Below.heap_setCell _ _ _ _ (by simpa using hne)]; exact hq
  · simp [World.setCell, Array.getElem?_modify, hg]
  · obtain ⟨hlt, _⟩ := Array.getElem?_eq_some_iff.1 hc
    simp [hlt]

set_option maxRecDepth 100000 in
set_option maxHeartbeats 1600000 in
theorem add_some (B0 q g cap x i : Nat) (cur : Array Value) (w : World) (hi : i < 8) (hx : x < 256) (hB : B0 ≤ q) (hgB : B0 ≤ g) (hq : w.heap[q]? = some (.cells #[.slice (some ⟨g, 0, none⟩) 1 cap] 67 (0, 0))) (hg : w.heap[g]? = some (.cells cur 50 (0, 0))) (hc : cur[0]? = some (.int .u64 (x : Int))) :
    Calls Ybad.prog 11 #[.pointer (some ⟨q, 0, none⟩), .int .i64 (i : Int)] w fun e w' => e = .returned (.tuple #[]) ∧ BS B0 w' q (x ||| 2 ^ i) ∧ Below B0 w w' := by
  have Hfin : Hid _ := fun v hv => bs_store (v := v) hB hgB hq hg hx hc hi hv
  have cq : w.cell? ⟨q, 0, none⟩ = some (.slice (some ⟨g, 0, none⟩) 1 cap) := by simp [World.cell?, hq]
  have cg : w.cell? ⟨g, 0, none⟩ = some (.int .u64 (x : Int)) := by simp [World.cell?, hg, hc]
  have fg : w.frozen? ⟨g, 0, none⟩ = false := by simp [World.frozen?, hg]
  have h0 : (i : Int) / 64 = 0 := by omega
  have h1 : (i : Int) % 64 = (i : Int) := by omega
  have Ho : Hid _ := or_eq hx hi
  clear hq hg hc
  go_enter Ybad.func11, Ybad.ntmps11
  go_wp2
  go_region
  go_wp2
  go_end0
  exact ⟨rfl, Hfin.out _ Ho.out, ((Below.refl B0 w).setCell hgB _).drew⟩

set_option maxRecDepth 100000 in
set_option maxHeartbeats 1600000 in
theorem add_nil (B0 q i : Nat) (w : World) (hi : i < 8) (hB : B0 ≤ q) (hq : w.heap[q]? = some (.cells #[.slice none 0 0] 67 (0, 0))) :
    Calls Ybad.prog 11 #[.pointer (some ⟨q, 0, none⟩), .int .i64 (i : Int)] w fun e w' => e = .returned (.tuple #[]) ∧ BS B0 w' q (0 ||| 2 ^ i) ∧ Below B0 w w' := by
  obtain ⟨i0, hi0, hz0, hz1, hz2⟩ := info_parts info50
  have hc : w.cell? ⟨q, 0, none⟩ = some (.slice none 0 0) := by simp [World.cell?, hq]
  have hf : w.frozen? ⟨q, 0, none⟩ = false := by simp [World.frozen?, hq]
  have hl : q < w.heap.size := (Array.getElem?_eq_some_iff.1 hq).1
  have h0 : (i : Int) / 64 = 0 := by omega
  have h1 : (i : Int) % 64 = (i : Int) := by omega
  have Ho : Hid _ := or_eq (x := 0) (by omega) hi
  have Hq : Hid _ := hq
  clear hq
  go_enter Ybad.func11, Ybad.ntmps11
  go_wp2
  go_region_law (refine step_append_zeros rfl (.tmp 16) (.tmp 23) 67 3 rfl 50 i0 (.int .u64 0) .i64 .i64 Ybad.underlying67 Ybad.underlying3 hi0 hz0 (by simp [Act.eval, Act.put]) (by simp [Act.eval, Act.put, IntKind.wrap_i64]) (by omega) (by omega) ?_)
  all_goals
    obtain ⟨cap, hcap⟩ : ∃ cap, grownCap w.drew 1 0 50 = cap := ⟨_, rfl⟩
    rw [hcap]
    clear hcap
    obtain ⟨cur, hcur⟩ : ∃ cur, Builtin.zeroCells #[Value.int IntKind.u64 0] 1 ++ Builtin.zeroCells #[Value.int IntKind.u64 0] (cap - 1) = cur := ⟨_, rfl⟩
    have hcur0 : cur[0]? = some (.int .u64 ((0 : Nat) : Int)) := by
      rw [← hcur, Array.getElem?_append_left (by simp [Builtin.zeroCells])]
      simp [Builtin.zeroCells]
    rw [hcur]
    have hgq : ((w.setCell ⟨q, 0, none⟩ (.slice (some ⟨w.heap.size, 0, none⟩) 1 cap)).alloc (.cells cur 50)).heap[q]? = some (.cells #[.slice (some ⟨w.heap.size, 0, none⟩) 1 cap] 67 (0, 0)) := by
      rw [Below.heap_alloc _ _ _ (by simpa using hl)]
      simp [World.setCell, Array.getElem?_modify, Hq.out]
    have hgg : ((w.setCell ⟨q, 0, none⟩ (.slice (some ⟨w.heap.size, 0, none⟩) 1 cap)).alloc (.cells cur 50)).heap[w.heap.size]? = some (.cells cur 50 (0, 0)) := by
      have := (MapKept.heap_alloc (w.setCell ⟨q, 0, none⟩ (.slice (some ⟨w.heap.size, 0, none⟩) 1 cap)) (.cells cur 50)).1
      simpa using this
    have hBe : Below B0 w ((w.setCell ⟨q, 0, none⟩ (.slice (some ⟨w.heap.size, 0, none⟩) 1 cap)).alloc (.cells cur 50)) := ((Below.refl B0 w).setCell hB _).alloc (by simp; omega) _
    generalize (w.setCell ⟨q, 0, none⟩ (.slice (some ⟨w.heap.size, 0, none⟩) 1 cap)).alloc (.cells cur 50) = W at hgq hgg hBe ⊢
    have hgB : B0 ≤ w.heap.size := by omega
    obtain ⟨g, hg⟩ : ∃ g, w.heap.size = g := ⟨_, rfl⟩
    rw [hg] at hgq hgg hgB ⊢
    have Hfin : Hid _ := fun v hv => bs_store (x := 0) (v := v) hB hgB hgq hgg (by omega) hcur0 hi hv
    have cq : W.cell? ⟨q, 0, none⟩ = some (.slice (some ⟨g, 0, none⟩) 1 cap) := by simp [World.cell?, hgq]
    have cg : W.cell? ⟨g, 0, none⟩ = some (.int .u64 ((0 : Nat) : Int)) := by simp [World.cell?, hgg, hcur0]
    have fg : W.frozen? ⟨g, 0, none⟩ = false := by simp [World.frozen?, hgg]
    clear hgq hgg hcur0 hcur hc hf hl hg
    go_wp2
    go_region
    go_wp2
    go_end0
    exact ⟨rfl, Hfin.out _ Ho.out, ((hBe.setCell hgB _).drew).drew.drew⟩

/-- 's.add(i)'. -/
theorem add_any (B0 q S i : Nat) (w : World) (hi : i < 8) (h : BS B0 w q S) :
    Calls Ybad.prog 11 #[.pointer (some ⟨q, 0, none⟩), .int .i64 (i : Int)] w fun e w' => e = .returned (.tuple #[]) ∧ BS B0 w' q (S ||| 2 ^ i) ∧ Below B0 w w' := by
  obtain ⟨h1, h2, h3⟩ := h
  rcases h3 with ⟨rfl, h⟩ | ⟨g, cap, cur, hg, h, h', h''⟩
  · exact add_nil B0 q i w hi h1 h
  · exact add_some B0 q g cap S i cur w hi h2 h1 hg h h' h''
end SideW
end Go.Proofs.YbulkcmoqDoor
