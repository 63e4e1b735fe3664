/-
  The proof of 'Rows.LawS4422BZeroFuncsSaid': the shell of the kit, its hole filled over the contracts of YbulkcmocMutex and YbulkcmocFresh.
-/
import Derived.Test.YbulkcmocRows
import Derived.WalkKit
import Derived.ProofKit
import Derived.OpenShut
import Derived.ShutString
import Derived.Test.YbulkcmocFresh
namespace Go.Proofs.Ybulkcmoc.lawS4422BZeroFuncs
open Go.ChangeShapes Go.WideShapes Go.ChangeAt Go.RowKit
open Go.ChangeMaps (open_string shut_string)
set_option linter.unusedVariables false      -- a walk need not use every 'w<i>' (that an integer argument fits its kind)

theorem own : ownKnob Yba.prog.godebug = none := by kernel_rfl

theorem info94 : ∃ j, Yba.prog.info? 94 = some j ∧ j.size ≠ 0 := by
  have h : (Yba.prog.info? 94).map (fun i => decide (i.size = 0)) = some false := by kernel_rfl
  obtain ⟨j, hj, hs⟩ := Option.map_eq_some_iff.1 h
  exact ⟨j, hj, by simpa using hs⟩

theorem eql_ptr (W : World) (p q : Nat) (x y : Array Value) (hne : p ≠ q) (hp : W.heap[p]? = some (.cells x 94)) (hq : W.heap[q]? = some (.cells y 94)) (n : Nat) :
    (binOp .eql 81 (.pointer (some ⟨p, 0, none⟩)) (.pointer (some ⟨q, 0, none⟩))).run Yba.prog (W.drewN n) = .ok (.bool false) (W.drewN n) := by
  obtain ⟨j, hj, hs⟩ := info94
  exact run_eql_ptr_other (P := Yba.prog) _ Yba.underlying81 hj hs (fun h => hne (congrArg Addr.block h)) hp hq

theorem eql_L (W : World) (p q : Nat) (x y : Array Value) (hne : p ≠ q) (hp : W.heap[p]? = some (.cells x 94)) (hq : W.heap[q]? = some (.cells y 94)) (n : Nat) :
    (binOp .eql 85 (.iface 107 (.pointer (some ⟨p, 4, none⟩))) (.iface 107 (.pointer (some ⟨q, 4, none⟩)))).run Yba.prog (W.drewN n) = .ok (.bool false) (W.drewN n) := by
  obtain ⟨j, hj, hs⟩ := MuW.info85
  obtain ⟨i, hi, hc⟩ := MuW.info107
  exact run_eql_iface_ptr_other (P := Yba.prog) _ Yba.underlying85 Yba.underlying107 hi hc hj hs (fun h => hne (congrArg Addr.block h)) hp hq

theorem neq_bool (w : World) (a b : Bool) : (binOp .neq 4 (.bool a) (.bool b)).run Yba.prog w = .ok (.bool (a != b)) w := by
  have h1 : ∀ d : Nat, (Op.equalIn (d + 1) 4 (.bool a) (.bool b)).run Yba.prog w = .ok (a == b) w := fun d => by simp [Op.equalIn, run_underlying Yba.underlying4]
  simp only [binOp]
  simp [Op.equal, Op.maxDepth, h1 9999, bne]

theorem heap_at (w : World) (o : Obj) (k : Nat) (h : k = w.heap.size) : (w.alloc o).heap[k]? = some o := by
  subst h
  show (w.heap.push o)[w.heap.size]? = _
  simp

theorem laid (w : World) (e : Value) :
    let W := ((((w.alloc (Obj.cells #[e, Value.nilFunc, Value.nilFunc, Value.nilFunc] 80)).alloc (Obj.cells #[e, Value.nilFunc, Value.nilFunc, Value.nilFunc] 80)).alloc (Obj.cells (MuW.wcells (w.heap.size + 1 + 1) e Value.nilFunc Value.nilFunc Value.nilFunc) 94)).alloc (Obj.cells #[Value.nilFunc, Value.nilFunc, Value.nilFunc, Value.nilFunc] 80)).alloc (Obj.cells (MuW.wcells (w.heap.size + 1 + 1 + 1 + 1) Value.nilFunc Value.nilFunc Value.nilFunc Value.nilFunc) 94)
    W.heap[w.heap.size + 1 + 1]? = some (.cells (MuW.wcells (w.heap.size + 1 + 1) e .nilFunc .nilFunc .nilFunc) 94) ∧ W.heap[w.heap.size + 1 + 1 + 1 + 1]? = some (.cells (MuW.wcells (w.heap.size + 1 + 1 + 1 + 1) .nilFunc .nilFunc .nilFunc .nilFunc) 94) ∧ Grown w W := by
  refine ⟨?_, ?_, ?_⟩
  · rw [Below.heap_alloc _ _ _ (by simp), Below.heap_alloc _ _ _ (by simp)]
    exact heap_at _ _ _ (by simp)
  · exact heap_at _ _ _ (by simp)
  · repeat (first | exact Grown.refl _ | apply Grown.alloc)

set_option maxRecDepth 100000 in
set_option maxHeartbeats 3200000 in
theorem walk (a0 : Bool) (w : World) :
    Calls Yba.prog 5 #[.bool a0] w fun e w' => e = .returned (.bool true) ∧ Grown w w' := by
  have f75 := fun wx fn x y => MuW.neq_func wx 75 fn x y Yba.underlying75
  have n75 := fun wx => MuW.neq_nilFunc wx 75 Yba.underlying75
  have n76 := fun wx => MuW.neq_nilFunc wx 76 Yba.underlying76
  have n77 := fun wx => MuW.neq_nilFunc wx 77 Yba.underlying77
  have n78 := fun wx => MuW.neq_nilFunc wx 78 Yba.underlying78
  have e75 := fun wx => MuW.eql_nilFunc wx 75 Yba.underlying75
  have e76 := fun wx => MuW.eql_nilFunc wx 76 Yba.underlying76
  have e77 := fun wx => MuW.eql_nilFunc wx 77 Yba.underlying77
  have e78 := fun wx => MuW.eql_nilFunc wx 78 Yba.underlying78
  have hb := neq_bool
  cases a0
  · go_enter Yba.func5, Yba.ntmps5
    go_wp2_with fail
    refine (MuW.newWriter _ _ _ _ _).mono ?_
    rintro r w1 ⟨rfl, rfl⟩
    go_wp2_with fail
    refine (MuW.newWriter _ _ _ _ _).mono ?_
    rintro r w1 ⟨rfl, rfl⟩
    go_wp2_with fail
    obtain ⟨hp, hq, hG⟩ := laid w Value.nilFunc
    have hne : w.heap.size + 1 + 1 ≠ w.heap.size + 1 + 1 + 1 + 1 := by omega
    generalize ((((w.alloc (Obj.cells #[Value.nilFunc, Value.nilFunc, Value.nilFunc, Value.nilFunc] 80)).alloc (Obj.cells #[Value.nilFunc, Value.nilFunc, Value.nilFunc, Value.nilFunc] 80)).alloc (Obj.cells (MuW.wcells (w.heap.size + 1 + 1) Value.nilFunc Value.nilFunc Value.nilFunc Value.nilFunc) 94)).alloc (Obj.cells #[Value.nilFunc, Value.nilFunc, Value.nilFunc, Value.nilFunc] 80)).alloc (Obj.cells (MuW.wcells (w.heap.size + 1 + 1 + 1 + 1) Value.nilFunc Value.nilFunc Value.nilFunc Value.nilFunc) 94) = W at hp hq hG ⊢
    generalize w.heap.size + 1 + 1 + 1 + 1 = q at hq hne ⊢
    generalize w.heap.size + 1 + 1 = p at hp hne ⊢
    refine (MuW.fresh_any p Value.nilFunc .nilFunc .nilFunc .nilFunc _ (by exact hp)).mono ?_
    rintro r w1 ⟨rfl, n1, rfl⟩
    go_wp2_with fail
    refine (MuW.fresh_any q .nilFunc .nilFunc .nilFunc .nilFunc _ (by exact hq)).mono ?_
    rintro r w1 ⟨rfl, n2, rfl⟩
    have hcp : ∀ i, W.cell? ⟨p, i, none⟩ = (MuW.wcells p Value.nilFunc .nilFunc .nilFunc .nilFunc)[i]? := fun i => by simp [World.cell?, hp]
    have hcq : ∀ i, W.cell? ⟨q, i, none⟩ = (MuW.wcells q .nilFunc .nilFunc .nilFunc .nilFunc)[i]? := fun i => by simp [World.cell?, hq]
    have p0 := hcp 0; have p1 := hcp 1; have p2 := hcp 2; have p3 := hcp 3; have p6 := hcp 6
    have q0 := hcq 0; have q1 := hcq 1; have q2 := hcq 2; have q3 := hcq 3; have q6 := hcq 6
    simp [MuW.wcells] at p0 p1 p2 p3 p6 q0 q1 q2 q3 q6
    have hpq := eql_ptr W p q _ _ hne hp hq
    have hL := eql_L W p q _ _ hne hp hq
    clear hp hq hcp hcq
    go_wp2_with fail
    go_quiet (fail)
    go_wp2_with fail
    go_ret
    exact ⟨rfl, by exact hG⟩
  · go_enter Yba.func5, Yba.ntmps5
    go_wp2_with fail
    refine (MuW.newWriter _ _ _ _ _).mono ?_
    rintro r w1 ⟨rfl, rfl⟩
    go_wp2_with fail
    refine (MuW.newWriter _ _ _ _ _).mono ?_
    rintro r w1 ⟨rfl, rfl⟩
    go_wp2_with fail
    obtain ⟨hp, hq, hG⟩ := laid w (Value.func (Fn.func 15) #[] #[])
    have hne : w.heap.size + 1 + 1 ≠ w.heap.size + 1 + 1 + 1 + 1 := by omega
    generalize ((((w.alloc (Obj.cells #[(Value.func (Fn.func 15) #[] #[]), Value.nilFunc, Value.nilFunc, Value.nilFunc] 80)).alloc (Obj.cells #[(Value.func (Fn.func 15) #[] #[]), Value.nilFunc, Value.nilFunc, Value.nilFunc] 80)).alloc (Obj.cells (MuW.wcells (w.heap.size + 1 + 1) (Value.func (Fn.func 15) #[] #[]) Value.nilFunc Value.nilFunc Value.nilFunc) 94)).alloc (Obj.cells #[Value.nilFunc, Value.nilFunc, Value.nilFunc, Value.nilFunc] 80)).alloc (Obj.cells (MuW.wcells (w.heap.size + 1 + 1 + 1 + 1) Value.nilFunc Value.nilFunc Value.nilFunc Value.nilFunc) 94) = W at hp hq hG ⊢
    generalize w.heap.size + 1 + 1 + 1 + 1 = q at hq hne ⊢
    generalize w.heap.size + 1 + 1 = p at hp hne ⊢
    refine (MuW.fresh_any p (Value.func (Fn.func 15) #[] #[]) .nilFunc .nilFunc .nilFunc _ (by exact hp)).mono ?_
    rintro r w1 ⟨rfl, n1, rfl⟩
    go_wp2_with fail
    refine (MuW.fresh_any q .nilFunc .nilFunc .nilFunc .nilFunc _ (by exact hq)).mono ?_
    rintro r w1 ⟨rfl, n2, rfl⟩
    have hcp : ∀ i, W.cell? ⟨p, i, none⟩ = (MuW.wcells p (Value.func (Fn.func 15) #[] #[]) .nilFunc .nilFunc .nilFunc)[i]? := fun i => by simp [World.cell?, hp]
    have hcq : ∀ i, W.cell? ⟨q, i, none⟩ = (MuW.wcells q .nilFunc .nilFunc .nilFunc .nilFunc)[i]? := fun i => by simp [World.cell?, hq]
    have p0 := hcp 0; have p1 := hcp 1; have p2 := hcp 2; have p3 := hcp 3; have p6 := hcp 6
    have q0 := hcq 0; have q1 := hcq 1; have q2 := hcq 2; have q3 := hcq 3; have q6 := hcq 6
    simp [MuW.wcells] at p0 p1 p2 p3 p6 q0 q1 q2 q3 q6
    have hpq := eql_ptr W p q _ _ hne hp hq
    have hL := eql_L W p q _ _ hne hp hq
    clear hp hq hcp hcq
    go_wp2_with fail
    go_quiet (fail)
    go_wp2_with fail
    go_ret
    exact ⟨rfl, by exact hG⟩

/-! ### THE ROW's STEP: WRITTEN OUT: LEAVE IT -/
set_option maxRecDepth 100000 in
theorem lifted (os : Os) (started : os.Started) (H : Type) (enc : TypeId × Value → H) :
    ReturnsInHanded {} Yba.checked os 5 .any (Rows.lawS4422BZeroFuncsSpec.pre6 enc Yba.prog Yba.f5 Rows.lawS4422BZeroFuncsRow.domain false) (Rows.lawS4422BZeroFuncsSpec.post enc Yba.prog Yba.f5 false true false false) := by
  refine returnsInHanded_of_change (C := Yba.checked) own started (by kernel_rfl) Yba.func5
    (ChangeSpec.witness6 (enc := enc) (C := Yba.checked) false ⟨#[], #[.bool false], []⟩ 8 (by kernel_rfl) (by kernel_rfl) (by kernel_rfl) (by kernel_rfl)) ?_
  intro W base args ds gs before hval0 hW hcnd _
  have hval : ∀ (j : Nat) t v, Yba.f5.params[j]? = some t → args[j]? = some v → Value.okWide Yba.prog W .any base t v := hval0
  have hW' := hW
  obtain ⟨p, q, hA0, hV, rfl, hfz, hnd⟩ := hW
  have hA : DataW.TrodAll enc Yba.prog W 0 (fun _ => true) true Yba.f5.params.toList args.toList ds p := hA0
  rw [Yba.params5] at hA hval
  obtain ⟨v0, vs0, d0, ds0, p0, q0, hargs, rfl, rfl, h0, r0⟩ := trodAll_cons hA
  obtain ⟨rfl, rfl, rfl⟩ := trodAll_nil r0
  obtain rfl : args = #[v0] := by cases args; simp_all
  obtain ⟨rfl, rfl⟩ := trodVars_none hV
  obtain ⟨a0, rfl, rfl, rfl⟩ := open_bool Yba.underlying4 (hval 0 4 v0 rfl rfl) h0
  clear hA0 hval0
  simp only [List.append_nil] at hW'
  refine (walk a0 W).mono fun e W' ⟨he, hg⟩ => ?_
  subst he
  exact ⟨_, rfl, post_of_same (pa := []) (pv := []) hW' (fun _ _ _ => (trodAll_cons_mk (shut_bool Yba.underlying4 _) trodAll_mk0)) (fun sp _ => (trodAll_cons_mk (shut_bool Yba.underlying4 _) trodAll_mk0)) (fun _ _ => rfl) rfl
    (hg.frame _) hg.2.1 (ok_one (by kernel_rfl) rfl (okWide_bool_mk Yba.underlying4 _))⟩

theorem over : Rows.lawS4422BZeroFuncsRow.holds Yba.pinned (OpenSpec.ofChange Rows.lawS4422BZeroFuncsSpec) :=
  OpenClaim.holds_of_wide 5 Yba.f5 rfl rfl rfl rfl rfl rfl rfl ⟨rfl, rfl, rfl, rfl, rfl⟩ rfl rfl rfl rfl rfl (by kernel_rfl) Yba.func5 (by kernel_rfl)
    (of_decide_eq_true (by kernel_rfl)) (by unfold Func.isWrapper; first | (rw [if_pos (by decide +kernel)]; kernel_rfl) | (rw [if_neg (by decide +kernel)]; exact ⟨rfl, rfl⟩))
    (fun os started H enc _ => lifted os started H enc)

/-- ████ THE STATEMENT ████ -/
theorem proved : Rows.LawS4422BZeroFuncsSaid :=
  over
end Go.Proofs.Ybulkcmoc.lawS4422BZeroFuncs
