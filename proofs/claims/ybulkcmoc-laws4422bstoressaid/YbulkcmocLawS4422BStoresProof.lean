/-
  The proof of 'Rows.LawS4422BStoresSaid': the shell of the kit, its hole filled over the contracts of YbulkcmocMutex, YbulkcmocFresh and YbulkcmocClos; the end says 'Below' where the shell says 'Grown'.
-/
import Derived.Test.YbulkcmocRows
import Derived.WalkKit
import Derived.ProofKit
import Derived.OpenShut
import Derived.ShutString
import Derived.Test.YbulkcmocClos
namespace Go.Proofs.Ybulkcmoc.lawS4422BStores
open Go.ChangeShapes Go.WideShapes Go.ChangeAt Go.RowKit
open Go.ChangeMaps (open_string shut_string)
set_option linter.unusedVariables false      -- a walk need not use every 'w<i>' (that an integer argument fits its kind)

theorem own : ownKnob Yba.prog.godebug = none := by kernel_rfl

theorem heap_at (w : World) (o : Obj) (k : Nat) (h : k = w.heap.size) : (w.alloc o).heap[k]? = some o := by
  subst h
  show (w.heap.push o)[w.heap.size]? = _
  simp

theorem heap_past (w : World) (o o' : Obj) (k : Nat) (h : w.heap[k]? = some o') : (w.alloc o).heap[k]? = some o' := by
  rw [Below.heap_alloc _ _ _ (Array.getElem?_eq_some_iff.1 h).1]; exact h

def fe (B : Nat) : Value := .func (Fn.func 9) #[] #[Value.pointer (some ⟨B, 0, none⟩)]
def fw (B : Nat) : Value := .func (Fn.func 10) #[] #[Value.pointer (some ⟨B + 1 + 1 + 1 + 1 + 1, 0, none⟩), Value.pointer (some ⟨B + 1 + 1, 0, none⟩), Value.pointer (some ⟨B + 1 + 1 + 1 + 1, 0, none⟩)]
def ft (B : Nat) : Value := .func (Fn.func 11) #[] #[Value.pointer (some ⟨B + 1, 0, none⟩)]
def fr (B : Nat) : Value := .func (Fn.func 12) #[] #[Value.pointer (some ⟨B + 1 + 1 + 1 + 1 + 1 + 1, 0, none⟩)]

/-- The world when the Writer has been made. -/
def bigW (a0 a2 : Int) (a3 : Bool) (w : World) : World :=
  (((((((((w.alloc (Obj.cells #[Value.int IntKind.u8 a0] 5)).alloc (Obj.cells #[Value.int IntKind.i64 a2] 3)).alloc (Obj.cells #[Value.bool a3] 4)).alloc (Obj.cells #[Value.string ⟨#[119]⟩] 106)).alloc
    (Obj.cells #[Value.iface 104 (Value.pointer (some ⟨w.heap.size + 1 + 1 + 1, 0, none⟩))] 72)).alloc (Obj.cells #[Value.int IntKind.i64 0] 3)).alloc (Obj.cells #[Value.slice none 0 0] 74)).alloc
    (Obj.cells #[fe w.heap.size, fw w.heap.size, ft w.heap.size, fr w.heap.size] 80)).alloc (Obj.cells #[fe w.heap.size, fw w.heap.size, ft w.heap.size, fr w.heap.size] 80)).alloc
    (Obj.cells (MuW.wcells (w.heap.size + 1 + 1 + 1 + 1 + 1 + 1 + 1 + 1 + 1) (fe w.heap.size) (fw w.heap.size) (ft w.heap.size) (fr w.heap.size)) 94)

/-- What lies in the law's own blocks: all but the count of bytes written and the log. -/
structure Lies (a0 a2 : Int) (a3 : Bool) (B : Nat) (W : World) : Prop where
  t : W.cell? ⟨B, 0, none⟩ = some (.int .u8 a0)
  n : W.cell? ⟨B + 1, 0, none⟩ = some (.int .i64 a2)
  f : W.cell? ⟨B + 1 + 1, 0, none⟩ = some (.bool a3)
  e : W.cell? ⟨B + 1 + 1 + 1 + 1, 0, none⟩ = some (.iface 104 (.pointer (some ⟨B + 1 + 1 + 1, 0, none⟩)))
  l : W.heap[B + 1 + 1 + 1 + 1 + 1 + 1]? = some (.cells #[.slice none 0 0] 74)
  p0 : W.cell? ⟨B + 1 + 1 + 1 + 1 + 1 + 1 + 1 + 1 + 1, 0, none⟩ = some (fe B)
  p1 : W.cell? ⟨B + 1 + 1 + 1 + 1 + 1 + 1 + 1 + 1 + 1, 1, none⟩ = some (fw B)
  p2 : W.cell? ⟨B + 1 + 1 + 1 + 1 + 1 + 1 + 1 + 1 + 1, 2, none⟩ = some (ft B)
  p3 : W.cell? ⟨B + 1 + 1 + 1 + 1 + 1 + 1 + 1 + 1 + 1, 3, none⟩ = some (fr B)
  size : B + 1 + 1 + 1 + 1 + 1 + 1 + 1 + 1 + 1 < W.heap.size

theorem Lies.later {a0 a2 : Int} {a3 : Bool} {B : Nat} {W W' : World} (h : Lies a0 a2 a3 B W) (hb : Below W.heap.size W W') : Lies a0 a2 a3 B W' :=
  ⟨cell_later hb h.t, cell_later hb h.n, cell_later hb h.f, cell_later hb h.e, (hb.block _ (by have := h.size; omega)).trans h.l, cell_later hb h.p0, cell_later hb h.p1, cell_later hb h.p2, cell_later hb h.p3, Nat.lt_of_lt_of_le h.size hb.size⟩

theorem Lies.wrote {a0 a2 : Int} {a3 : Bool} {B : Nat} {W : World} (h : Lies a0 a2 a3 B W) (v : Value) : Lies a0 a2 a3 B (W.setCell ⟨B + 1 + 1 + 1 + 1 + 1, 0, none⟩ v) := by
  have k : ∀ b o, b ≠ B + 1 + 1 + 1 + 1 + 1 → (W.setCell ⟨B + 1 + 1 + 1 + 1 + 1, 0, none⟩ v).cell? ⟨b, o, none⟩ = W.cell? ⟨b, o, none⟩ := fun b o hb => World.cell?_setCell_other _ _ _ _ (fun e => hb (congrArg Addr.block e).symm)
  refine ⟨?_, ?_, ?_, ?_, ?_, ?_, ?_, ?_, ?_, ?_⟩
  · rw [k _ _ (by omega)]; exact h.t
  · rw [k _ _ (by omega)]; exact h.n
  · rw [k _ _ (by omega)]; exact h.f
  · rw [k _ _ (by omega)]; exact h.e
  · rw [Below.heap_setCell _ _ _ _ (by simp)]; exact h.l
  · rw [k _ _ (by omega)]; exact h.p0
  · rw [k _ _ (by omega)]; exact h.p1
  · rw [k _ _ (by omega)]; exact h.p2
  · rw [k _ _ (by omega)]; exact h.p3
  · simpa using h.size

theorem cell_of {W : World} {b : Nat} {c : Array Value} {e : TypeId} {fr : Nat × Nat} (h : W.heap[b]? = some (.cells c e fr)) (i : Nat) : W.cell? ⟨b, i, none⟩ = c[i]? := by simp [World.cell?, h]

theorem bigW_facts (a0 a2 : Int) (a3 : Bool) (w : World) :
    Lies a0 a2 a3 w.heap.size (bigW a0 a2 a3 w) ∧ (bigW a0 a2 a3 w).heap[w.heap.size + 1 + 1 + 1 + 1 + 1]? = some (.cells #[.int .i64 0] 3) ∧
    (bigW a0 a2 a3 w).heap[w.heap.size + 1 + 1 + 1 + 1 + 1 + 1 + 1 + 1 + 1]? = some (.cells (MuW.wcells (w.heap.size + 1 + 1 + 1 + 1 + 1 + 1 + 1 + 1 + 1) (fe w.heap.size) (fw w.heap.size) (ft w.heap.size) (fr w.heap.size)) 94) ∧
    Below w.heap.size w (bigW a0 a2 a3 w) := by
  have hP : (bigW a0 a2 a3 w).heap[w.heap.size + 1 + 1 + 1 + 1 + 1 + 1 + 1 + 1 + 1]? = some (.cells (MuW.wcells (w.heap.size + 1 + 1 + 1 + 1 + 1 + 1 + 1 + 1 + 1) (fe w.heap.size) (fw w.heap.size) (ft w.heap.size) (fr w.heap.size)) 94) := heap_at _ _ _ (by simp)
  have h0 : (bigW a0 a2 a3 w).heap[w.heap.size]? = some (.cells #[.int .u8 a0] 5) := by
    iterate 9 (refine heap_past _ _ _ _ ?_)
    exact heap_at _ _ _ rfl
  have h1 : (bigW a0 a2 a3 w).heap[w.heap.size + 1]? = some (.cells #[.int .i64 a2] 3) := by
    iterate 8 (refine heap_past _ _ _ _ ?_)
    exact heap_at _ _ _ (by simp)
  have h2 : (bigW a0 a2 a3 w).heap[w.heap.size + 1 + 1]? = some (.cells #[.bool a3] 4) := by
    iterate 7 (refine heap_past _ _ _ _ ?_)
    exact heap_at _ _ _ (by simp)
  have h4 : (bigW a0 a2 a3 w).heap[w.heap.size + 1 + 1 + 1 + 1]? = some (.cells #[.iface 104 (.pointer (some ⟨w.heap.size + 1 + 1 + 1, 0, none⟩))] 72) := by
    iterate 5 (refine heap_past _ _ _ _ ?_)
    exact heap_at _ _ _ (by simp)
  have h5 : (bigW a0 a2 a3 w).heap[w.heap.size + 1 + 1 + 1 + 1 + 1]? = some (.cells #[.int .i64 0] 3) := by
    iterate 4 (refine heap_past _ _ _ _ ?_)
    exact heap_at _ _ _ (by simp)
  have h6 : (bigW a0 a2 a3 w).heap[w.heap.size + 1 + 1 + 1 + 1 + 1 + 1]? = some (.cells #[.slice none 0 0] 74) := by
    iterate 3 (refine heap_past _ _ _ _ ?_)
    exact heap_at _ _ _ (by simp)
  refine ⟨⟨by rw [cell_of h0]; rfl, by rw [cell_of h1]; rfl, by rw [cell_of h2]; rfl, by rw [cell_of h4]; rfl, h6, by rw [cell_of hP]; rfl, by rw [cell_of hP]; rfl, by rw [cell_of hP]; rfl, by rw [cell_of hP]; rfl, by simp [bigW]⟩, h5, hP, ?_⟩
  unfold bigW
  repeat (refine Below.alloc ?_ (by simp; try omega) _)
  exact Below.refl _ _

theorem neq_err (a : Addr) (w : World) : (binOp .neq 72 (.iface 104 (.pointer (some a))) (.iface 104 (.pointer (some a)))).run Yba.prog w = .ok (.bool false) w := by
  have h : (Yba.prog.info? 104).map (fun i => i.comparable) = some true := by kernel_rfl
  have h' : (Yba.prog.info? 106).isSome = true := by kernel_rfl
  obtain ⟨i, hi, hc⟩ := Option.map_eq_some_iff.1 h
  obtain ⟨j, hj⟩ := Option.isSome_iff_exists.1 h'
  have := run_equalIn_iface_ptr_same (P := Yba.prog) w 9998 a Yba.underlying72 Yba.underlying104 hi hc hj
  simp only [binOp]
  simp [Op.equal, Op.maxDepth, this]

set_option maxRecDepth 100000 in
set_option maxHeartbeats 3200000 in
theorem walk (a0 : Int) (a1 : Int) (a2 : Int) (a3 : Bool) (a4 : Int) (w : World) :
    Calls Yba.prog 4 #[.int .u8 a0, .int .i64 a1, .int .i64 a2, .bool a3, .int .u64 a4] w fun e w' => e = .returned (.bool true) ∧ Below w.heap.size w w' := by
  have hmf : ∀ (fn : Fn) (first cap : Array Value) (w : World), (Instr.makeFunc fn first cap).run Yba.prog w = .ok (.func fn first cap) w := fun _ _ _ _ => rfl
  have f75 := fun wx fn x y => MuW.eql_func wx 75 fn x y Yba.underlying75
  have f76 := fun wx fn x y => MuW.eql_func wx 76 fn x y Yba.underlying76
  have f77 := fun wx fn x y => MuW.eql_func wx 77 fn x y Yba.underlying77
  have f78 := fun wx fn x y => MuW.eql_func wx 78 fn x y Yba.underlying78
  go_enter Yba.func4, Yba.ntmps4
  go_wp2_with fail
  refine (MuW.errNew _ _).mono ?_
  rintro r w1 ⟨rfl, rfl⟩
  go_wp2_with fail
  refine (MuW.newWriter _ _ _ _ _).mono ?_
  rintro r w1 ⟨rfl, rfl⟩
  go_wp2_with fail
  change Calls Yba.prog 14 #[Value.pointer (some ⟨w.heap.size + 1 + 1 + 1 + 1 + 1 + 1 + 1 + 1 + 1, 0, none⟩)] (bigW a0 a2 a3 w) _
  obtain ⟨hL, hwr, hP, hB⟩ := bigW_facts a0 a2 a3 w
  generalize bigW a0 a2 a3 w = W at hL hwr hP hB ⊢
  refine (MuW.fresh_any _ _ _ _ _ _ hP).mono ?_
  rintro r w1 ⟨rfl, n1, rfl⟩
  have p0 := hL.p0; have p1 := hL.p1; have p2 := hL.p2; have p3 := hL.p3
  unfold fe at p0
  unfold fw at p1
  unfold ft at p2
  unfold fr at p3
  clear hP
  go_wp2_with fail
  refine (MuW.clo1 _ _ a0 a1 _ (by exact heap_at _ _ _ rfl) (by exact cell_later ((Below.refl _ _).alloc (Nat.le_refl _) _) hL.t)).mono ?_
  rintro r w1 ⟨q, cq, rfl, q0, q1, q2, hb1⟩
  have hb1' : Below W.heap.size W w1 := ((Below.refl _ W).alloc (Nat.le_refl _) _).trans ⟨hb1.os, hb1.tape, hb1.output, hb1.size, hb1.block⟩
  have hL1 := hL.later hb1'
  have hwr1 := (hb1'.block _ (by have := hL.size; omega)).trans hwr
  have hB1 : Below w.heap.size w w1 := hB.trans (hb1'.mono hB.size)
  clear hb1 hb1' hL hwr hB p0 p1 p2 p3
  have ht := hL1.t
  have p1 := hL1.p1; have p2 := hL1.p2; have p3 := hL1.p3
  unfold fw at p1
  unfold ft at p2
  unfold fr at p3
  go_wp2_with fail
  go_quiet (fail)
  go_wp2_with fail
  have hbV : Below w1.heap.size w1 ((w1.drewN nq).alloc (Obj.cells #[Value.int IntKind.u8 5, Value.int IntKind.u8 6] 5)) := (below_drewN (Below.refl _ w1) nq).alloc (Nat.le_refl _) _
  have hLV := hL1.later hbV
  have hwV := (hbV.block _ (by have := hL1.size; omega)).trans hwr1
  have hBV : Below w.heap.size w ((w1.drewN nq).alloc (Obj.cells #[Value.int IntKind.u8 5, Value.int IntKind.u8 6] 5)) := hB1.trans (hbV.mono hB1.size)
  generalize (w1.drewN nq).alloc (Obj.cells #[Value.int IntKind.u8 5, Value.int IntKind.u8 6] 5) = V at hLV hwV hBV ⊢
  refine (MuW.clo2 _ _ _ _ _ a3 _ _ (by rw [cell_of hwV]; rfl) (by simp [World.frozen?, hwV]) hLV.f hLV.e (by omega) (by omega)).mono ?_
  rintro r w2 ⟨rfl, rfl⟩
  have hL2 := hLV.wrote (.int .i64 2)
  have hw2 : (V.setCell ⟨w.heap.size + 1 + 1 + 1 + 1 + 1, 0, none⟩ (.int .i64 2)).cell? ⟨w.heap.size + 1 + 1 + 1 + 1 + 1, 0, none⟩ = some (.int .i64 2) := World.cell?_setCell_same _ _ _ (u := .int .i64 0) (by rw [cell_of hwV]; rfl)
  have hB2 : Below w.heap.size w (V.setCell ⟨w.heap.size + 1 + 1 + 1 + 1 + 1, 0, none⟩ (.int .i64 2)) := hBV.setCell (by show w.heap.size ≤ w.heap.size + 1 + 1 + 1 + 1 + 1; omega) _
  generalize V.setCell ⟨w.heap.size + 1 + 1 + 1 + 1 + 1, 0, none⟩ (.int .i64 2) = V2 at hL2 hw2 hB2 ⊢
  clear hbV hLV hwV hBV hL1 hwr1 hB1 q0 q1 q2 ht p1 p2 p3
  have hf := hL2.f
  have hE := hL2.e
  have hN := hL2.n
  have p2 := hL2.p2; have p3 := hL2.p3
  unfold ft at p2
  unfold fr at p3
  have hne := neq_err
  cases a3
  all_goals
    go_wp2_with fail
    refine (MuW.clo3 _ _ a2 _ (by exact hN)).mono ?_
    rintro r w3 ⟨rfl, rfl⟩
    go_wp2_with fail
    refine (MuW.clo4 a4 _ _ (by exact hL2.l)).mono ?_
    rintro r w3 ⟨rfl, ⟨z, cz, z1, z2⟩, hb3⟩
    have hB3 : Below w.heap.size w w3 := hB2.trans (hb3.mono (by omega))
    clear hb3
    go_wp2_with fail
    go_ret
    exact ⟨rfl, hB3⟩

/-! ### THE ROW's STEP: WRITTEN OUT: LEAVE IT -/
set_option maxRecDepth 100000 in
theorem lifted (os : Os) (started : os.Started) (H : Type) (enc : TypeId × Value → H) :
    ReturnsInHanded {} Yba.checked os 4 .any (Rows.lawS4422BStoresSpec.pre6 enc Yba.prog Yba.f4 Rows.lawS4422BStoresRow.domain false) (Rows.lawS4422BStoresSpec.post enc Yba.prog Yba.f4 false true false false) := by
  refine returnsInHanded_of_change (C := Yba.checked) own started (by kernel_rfl) Yba.func4
    (ChangeSpec.witness6 (enc := enc) (C := Yba.checked) false ⟨#[], #[.int .u8 0, .int .i64 0, .int .i64 0, .bool false, .int .u64 0], []⟩ 8 (by kernel_rfl) (by kernel_rfl) (by kernel_rfl) (by kernel_rfl)) ?_
  intro W base args ds gs before hval0 hW hcnd _
  have hval : ∀ (j : Nat) t v, Yba.f4.params[j]? = some t → args[j]? = some v → Value.okWide Yba.prog W .any base t v := hval0
  have hW' := hW
  obtain ⟨p, q, hA0, hV, rfl, hfz, hnd⟩ := hW
  have hA : DataW.TrodAll enc Yba.prog W 0 (fun _ => true) true Yba.f4.params.toList args.toList ds p := hA0
  rw [Yba.params4] at hA hval
  obtain ⟨v0, vs0, d0, ds0, p0, q0, hargs, rfl, rfl, h0, r0⟩ := trodAll_cons hA
  obtain ⟨v1, vs1, d1, ds1, p1, q1, rfl, rfl, rfl, h1, r1⟩ := trodAll_cons r0
  obtain ⟨v2, vs2, d2, ds2, p2, q2, rfl, rfl, rfl, h2, r2⟩ := trodAll_cons r1
  obtain ⟨v3, vs3, d3, ds3, p3, q3, rfl, rfl, rfl, h3, r3⟩ := trodAll_cons r2
  obtain ⟨v4, vs4, d4, ds4, p4, q4, rfl, rfl, rfl, h4, r4⟩ := trodAll_cons r3
  obtain ⟨rfl, rfl, rfl⟩ := trodAll_nil r4
  obtain rfl : args = #[v0, v1, v2, v3, v4] := by cases args; simp_all
  obtain ⟨rfl, rfl⟩ := trodVars_none hV
  obtain ⟨a0, rfl, rfl, rfl, w0⟩ := open_int Yba.underlying5 (hval 0 5 v0 rfl rfl) h0
  obtain ⟨a1, rfl, rfl, rfl, w1⟩ := open_int Yba.underlying3 (hval 1 3 v1 rfl rfl) h1
  obtain ⟨a2, rfl, rfl, rfl, w2⟩ := open_int Yba.underlying3 (hval 2 3 v2 rfl rfl) h2
  obtain ⟨a3, rfl, rfl, rfl⟩ := open_bool Yba.underlying4 (hval 3 4 v3 rfl rfl) h3
  obtain ⟨a4, rfl, rfl, rfl, w4⟩ := open_int Yba.underlying28 (hval 4 28 v4 rfl rfl) h4
  clear hA0 hval0
  simp only [List.append_nil] at hW'
  refine (walk a0 a1 a2 a3 a4 W).mono fun e W' ⟨he, bel⟩ => ?_
  subst he
  exact ⟨_, rfl, _, _, _, [], _, [], hW', trodAll_mk1 (shut_bool Yba.underlying4 _), (trodAll_cons_mk (shut_int Yba.underlying5 w0) (trodAll_cons_mk (shut_int Yba.underlying3 w1) (trodAll_cons_mk (shut_int Yba.underlying3 w2) (trodAll_cons_mk (shut_bool Yba.underlying4 _) (trodAll_cons_mk (shut_int Yba.underlying28 w4) trodAll_mk0))))), rfl, bel.frame _, fun h => by cases h⟩

theorem over : Rows.lawS4422BStoresRow.holds Yba.pinned (OpenSpec.ofChange Rows.lawS4422BStoresSpec) :=
  OpenClaim.holds_of_wide 4 Yba.f4 rfl rfl rfl rfl rfl rfl rfl ⟨rfl, rfl, rfl, rfl, rfl⟩ rfl rfl rfl rfl rfl (by kernel_rfl) Yba.func4 (by kernel_rfl)
    (of_decide_eq_true (by kernel_rfl)) (by unfold Func.isWrapper; first | (rw [if_pos (by decide +kernel)]; kernel_rfl) | (rw [if_neg (by decide +kernel)]; exact ⟨rfl, rfl⟩))
    (fun os started H enc _ => lifted os started H enc)

/-- ████ THE STATEMENT ████ -/
theorem proved : Rows.LawS4422BStoresSaid :=
  over
end Go.Proofs.Ybulkcmoc.lawS4422BStores
