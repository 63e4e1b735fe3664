import Derived.Test.YbulkcmocRows
import Derived.WalkKit
import Derived.WalkSpells
import Derived.WalkLawsBesides
import Derived.Deep.QuietTactic
import Derived.BigQuiet
import Derived.ProofKit
import Derived.OpenShut
import Derived.Below
import Derived.Lib.Builder
namespace Go.Proofs.Ybulkcmoc
namespace SetsW
open Go.ChangeShapes Go.WideShapes Go.ChangeAt Go.RowKit

theorem info26 : ∃ j, Yba.prog.info? 26 = some j := by
  have h : (Yba.prog.info? 26).isSome = true := by kernel_rfl
  exact Option.isSome_iff_exists.1 h

-- 'Moving': Next is not nil.
set_option maxHeartbeats 400000 in
theorem moving_any (v0 : Value) (a1 : Option Addr) (l1 c1 : Nat) (w : World) :
    Calls Yba.prog 22 #[.agg #[v0, .slice a1 l1 c1]] w fun e w' => e = .returned (.bool a1.isSome) ∧ w' = w.alloc (.cells #[v0, .slice a1 l1 c1] 99) := by
  have hn := fun wx n c => run_neq_slice_nil_any (P := Yba.prog) wx 23 26 a1 l1 c1 n c Yba.underlying23
  go_enter Yba.func22, Yba.ntmps22
  go_wp2
  go_ret
  exact ⟨rfl, rfl⟩

set_option maxHeartbeats 400000 in
theorem fast_nil (a0 : Option Addr) (l0 c0 l1 c1 : Nat) (w : World) :
    Calls Yba.prog 16 #[.agg #[.slice a0 l0 c0, .slice none l1 c1]] w fun e w' => ∃ p, w.heap.size ≤ p ∧ p < w'.heap.size ∧ e = .returned (.slice (some ⟨p, 0, none⟩) 1 1) ∧ w'.cell? ⟨p, 0, none⟩ = some (.slice a0 l0 c0) ∧ Below w.heap.size w w' := by
  go_enter Yba.func16, Yba.ntmps16
  go_wp2_with (go_at_call 22; refine (moving_any _ _ _ _ _).mono ?_; rintro e w1 ⟨rfl, rfl⟩)
  go_ret
  refine ⟨w.heap.size + 2, ?_, ?_, rfl, ?_, ?_⟩
  · omega
  · simp
  · go_simp
  · exact (((Below.refl _ _).alloc (Nat.le_refl _) _).alloc (by simp) _).alloc (by simp; omega) _
set_option maxHeartbeats 400000 in
theorem fast_some (a0 : Option Addr) (l0 c0 : Nat) (x1 : Addr) (l1 c1 : Nat) (w : World) :
    Calls Yba.prog 16 #[.agg #[.slice a0 l0 c0, .slice (some x1) l1 c1]] w fun e w' => ∃ p, w.heap.size ≤ p ∧ p < w'.heap.size ∧ e = .returned (.slice (some ⟨p, 0, none⟩) 2 2) ∧ w'.cell? ⟨p, 0, none⟩ = some (.slice a0 l0 c0) ∧ w'.cell? ⟨p, 1, none⟩ = some (.slice (some x1) l1 c1) ∧ Below w.heap.size w w' := by
  go_enter Yba.func16, Yba.ntmps16
  go_wp2_with (go_at_call 22; refine (moving_any _ _ _ _ _).mono ?_; rintro e w1 ⟨rfl, rfl⟩)
  go_ret
  refine ⟨w.heap.size + 2, ?_, ?_, rfl, ?_, ?_, ?_⟩
  · omega
  · simp
  · go_simp
  · go_simp
  · exact (((Below.refl _ _).alloc (Nat.le_refl _) _).alloc (by simp) _).alloc (by simp; omega) _
set_option maxHeartbeats 400000 in
theorem same_empty (a : Option Addr) (c : Nat) (w : World) :
    Calls Yba.prog 17 #[.slice a 0 c, .slice a 0 c] w fun e w' => e = .returned (.bool true) ∧ Below w.heap.size w w' := by
  have hn := fun wx n' c' => Lib.run_eql_slice_nil (P := Yba.prog) wx 23 26 a 0 c n' c' Yba.underlying23
  go_enter Yba.func17, Yba.ntmps17
  go_wp2
  go_loop [5] (fun i => i = .int .i64 0) (fun _ => 0)
  case atStart => rfl
  case round =>
    subst hrel
    go_wp2
    go_quiet (fail)
    go_wp2
    go_ret
    exact ⟨rfl, below_drewN (Below.refl _ _) _⟩
set_option maxHeartbeats 400000 in
theorem same_some (b off : Nat) (n c : Nat) (zs : List Int) (w : World) (hn0 : 0 < n) (hnc : n ≤ c) (hc : c ≤ maxLen) (hz : zs.length = c) (hcell : ∀ i, i < zs.length → w.cell? ⟨b, off + i, none⟩ = some (.int .u32 (zs.getD i 0))) :
    Calls Yba.prog 17 #[.slice (some ⟨b, off, none⟩) n c, .slice (some ⟨b, off, none⟩) n c] w fun e w' => e = .returned (.bool true) ∧ Below w.heap.size w w' := by
  unfold maxLen at hc
  have hn := fun wx n' c' => Lib.run_eql_slice_nil (P := Yba.prog) wx 23 26 (some ⟨b, off, none⟩) n c n' c' Yba.underlying23
  obtain ⟨j26, hj26⟩ := info26
  have hp := fun wx => Lib.run_neq_ptr_same (P := Yba.prog) wx (tp := 109) (te := 26) ⟨b, off, none⟩ Yba.underlying109 hj26
  go_enter Yba.func17, Yba.ntmps17
  go_wp2
  go_loopw [5] (fun i wr => ∃ (k m : Nat), k ≤ n ∧ i = .int .i64 k ∧ wr = w.drewN m) (fun i _ => n - (intOf i).toNat)
  case atStart => exact ⟨0, 0, Nat.zero_le _, rfl, rfl⟩
  case round =>
    obtain ⟨k, m, hk, rfl, rfl⟩ := hrel
    by_cases hlt : k < n
    · have g := hcell k (by omega)
      go_wp2
      go_quiet (fail)
      go_wp2
      go_roundw
      case rel => exact ⟨k + 1, _, by omega, by go_num, rfl⟩
      case measure => simp [intOf]; omega
    · have g0 : (0 : Int) < (n : Int) := by omega
      go_wp2
      go_quiet (fail)
      go_wp2
      go_ret
      exact ⟨rfl, below_drewN (below_drewN (Below.refl _ _) _) _⟩
end SetsW
end Go.Proofs.Ybulkcmoc
