import Derived.Test.YbulkcmocMutex
import Derived.LaidEql
import Derived.LaidEqlPtr
import Derived.Deep.QuietTactic
import Derived.BigQuiet
import Derived.Laws.EntriesVeiled
namespace Go.Proofs.Ybulkcmoc
namespace MuW
open Go.RowKit

/-- A store, and the old value stored back: the world as it was. -/
theorem setCell_back (w : World) (a : Addr) (u v : Value) (h : w.cell? a = some v) : (w.setCell a u).setCell a v = w := by
  obtain ⟨b, off, spot⟩ := a
  have hs : spot = none := World.cell?_spot h
  subst hs
  unfold World.cell? at h
  cases w with
  | mk heap tape drawn os output =>
    simp only [World.setCell] at h ⊢
    congr 1
    apply Array.ext_getElem?
    intro i
    simp only [Array.getElem?_modify]
    by_cases hi : b = i
    · subst hi
      cases ho : heap[b]? with
      | none => simp
      | some o =>
        cases o with
        | cells c e fr =>
          simp [ho] at h
          simp
          apply Array.ext_getElem?
          intro k
          simp only [Array.getElem?_setIfInBounds]
          by_cases hk : off = k
          · subst hk
            obtain ⟨hlt, hv⟩ := Array.getElem?_eq_some_iff.1 h
            simp [hlt, hv]
          · simp [hk]
        | _ => simp
    · simp [hi]

/-- The cells of a fresh Writer at block p. -/
def wcells (p : Nat) (e f g h : Value) : Array Value :=
  #[e, f, g, h, .int .i32 0, .int .u32 0, .iface 107 (.pointer (some ⟨p, 4, none⟩)), .int .u32 0, .int .u32 0, .int .u64 0, .pointer none, .pointer none,
    .int .u64 0, .slice none 0 0, .slice none 0 0, .int .u64 0, .int .u64 0, .int .u64 0, .bool false, .bool false, .slice none 0 0, .slice none 0 0, .int .u64 0, .nilFunc, .nilIface]

set_option maxRecDepth 100000 in
set_option maxHeartbeats 1600000 in
theorem newWriter (e f g h : Value) (w : World) :
    Calls Yba.prog 13 #[.agg #[e, f, g, h]] w fun r w' => r = .returned (.pointer (some ⟨w.heap.size + 1, 0, none⟩)) ∧ w' = (w.alloc (.cells #[e, f, g, h] 80)).alloc (.cells (wcells (w.heap.size + 1) e f g h) 94) := by
  go_enter Yba.func13, Yba.ntmps13
  go_wp2
  go_ret
  exact ⟨rfl, rfl⟩

theorem info85 : ∃ j, Yba.prog.info? 45 = some j ∧ j.size ≠ 0 := by
  have h : (Yba.prog.info? 45).map (fun i => decide (i.size = 0)) = some false := by kernel_rfl
  obtain ⟨j, hj, hs⟩ := Option.map_eq_some_iff.1 h
  exact ⟨j, hj, by simpa using hs⟩
theorem info107 : ∃ j, Yba.prog.info? 107 = some j ∧ j.comparable = true := by
  have h : (Yba.prog.info? 107).map (fun i => i.comparable) = some true := by kernel_rfl
  obtain ⟨j, hj, hs⟩ := Option.map_eq_some_iff.1 h
  exact ⟨j, hj, hs⟩

theorem neq_L (a : Addr) (w : World) : (binOp .neq 85 (.iface 107 (.pointer (some a))) (.iface 107 (.pointer (some a)))).run Yba.prog w = .ok (.bool false) w := by
  obtain ⟨j, hj, _⟩ := info85
  obtain ⟨i, hi, hc⟩ := info107
  have := run_equalIn_iface_ptr_same (P := Yba.prog) w 9998 a Yba.underlying85 Yba.underlying107 hi hc hj
  simp only [binOp]
  simp [Op.equal, Op.maxDepth, this]

theorem neq_nilFunc (w : World) (t : TypeId) {ps rs : Array TypeId} {v : Bool} (h : Yba.prog.underlying t = some (.func ps rs v)) : (binOp .neq t .nilFunc .nilFunc).run Yba.prog w = .ok (.bool false) w := by
  have h1 : ∀ d : Nat, (Op.equalIn (d + 1) t .nilFunc .nilFunc).run Yba.prog w = .ok true w := fun d => by simp [Op.equalIn, run_underlying h]
  simp only [binOp]
  simp [Op.equal, Op.maxDepth, h1 9999]
theorem eql_nilFunc (w : World) (t : TypeId) {ps rs : Array TypeId} {v : Bool} (h : Yba.prog.underlying t = some (.func ps rs v)) : (binOp .eql t .nilFunc .nilFunc).run Yba.prog w = .ok (.bool true) w := by
  have h1 : ∀ d : Nat, (Op.equalIn (d + 1) t .nilFunc .nilFunc).run Yba.prog w = .ok true w := fun d => by simp [Op.equalIn, run_underlying h]
  simp only [binOp]
  simp [Op.equal, Op.maxDepth, h1 9999]
theorem neq_func (w : World) (t : TypeId) {ps rs : Array TypeId} {v : Bool} (fn : Fn) (x y : Array Value) (h : Yba.prog.underlying t = some (.func ps rs v)) : (binOp .neq t (.func fn x y) .nilFunc).run Yba.prog w = .ok (.bool true) w := by
  have h1 : ∀ d : Nat, (Op.equalIn (d + 1) t (.func fn x y) .nilFunc).run Yba.prog w = .ok false w := fun d => by simp [Op.equalIn, run_underlying h]
  simp only [binOp]
  simp [Op.equal, Op.maxDepth, h1 9999]
theorem eql_func (w : World) (t : TypeId) {ps rs : Array TypeId} {v : Bool} (fn : Fn) (x y : Array Value) (h : Yba.prog.underlying t = some (.func ps rs v)) : (binOp .eql t (.func fn x y) .nilFunc).run Yba.prog w = .ok (.bool false) w := by
  have h1 : ∀ d : Nat, (Op.equalIn (d + 1) t (.func fn x y) .nilFunc).run Yba.prog w = .ok false w := fun d => by simp [Op.equalIn, run_underlying h]
  simp only [binOp]
  simp [Op.equal, Op.maxDepth, h1 9999]

set_option maxRecDepth 100000 in
set_option maxHeartbeats 3200000 in
theorem fresh_any (p : Nat) (e f g h : Value) (w : World) (hp : w.heap[p]? = some (.cells (wcells p e f g h) 94)) :
    Calls Yba.prog 14 #[.pointer (some ⟨p, 0, none⟩)] w fun r w' => r = .returned (.bool true) ∧ ∃ n, w' = w.drewN n := by
  have hcell : ∀ i, w.cell? ⟨p, i, none⟩ = (wcells p e f g h)[i]? := fun i => by simp [World.cell?, hp]
  have hz : w.frozen? ⟨p, 4, none⟩ = false := by simp [World.frozen?, hp]
  have c4 := hcell 4; have c6 := hcell 6; have c13 := hcell 13; have c14 := hcell 14; have c15 := hcell 15; have c16 := hcell 16; have c17 := hcell 17; have c18 := hcell 18; have c19 := hcell 19
  have c20 := hcell 20; have c21 := hcell 21; have c22 := hcell 22; have c23 := hcell 23; have c24 := hcell 24
  simp [wcells] at c4 c6 c13 c14 c15 c16 c17 c18 c19 c20 c21 c22 c23 c24
  have hL := neq_L ⟨p, 4, none⟩
  have hs27 := fun wx => run_neq_slice_nil_any (P := Yba.prog) wx 27 5 none 0 0 0 0 Yba.underlying27
  have hs92 := fun wx => run_neq_slice_nil_any (P := Yba.prog) wx 92 163 none 0 0 0 0 Yba.underlying92
  have hf1 := fun wx => neq_nilFunc wx 1 Yba.underlying1
  clear hcell hp
  go_enter Yba.func14, Yba.ntmps14
  go_wp2
  go_quiet (fail)
  go_wp2_with fail
  refine (tryLock_free p 4 _ (by exact c4) (by exact hz)).mono ?_
  rintro r w1 ⟨rfl, rfl⟩
  go_wp2_with fail
  refine (unlock_held p 4 _ (by simp [go_sem, c4]) (by simp [go_sem, hz])).mono ?_
  rintro r w1 ⟨rfl, rfl⟩
  rw [setCell_back _ _ _ _ (by exact c4)]
  go_wp2_with fail
  go_ret
  exact ⟨rfl, _, rfl⟩
end MuW
end Go.Proofs.Ybulkcmoc
