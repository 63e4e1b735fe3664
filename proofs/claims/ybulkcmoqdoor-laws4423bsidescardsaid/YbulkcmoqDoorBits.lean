import Derived.Test.YbulkcmoqDoorRows
import Derived.WalkKit
import Derived.WalkSpells
import Derived.WalkLawsBesides
import Derived.Deep.QuietTactic
import Derived.BigQuiet
import Derived.RegionTactic
import Derived.BigRegion
import Derived.Below
import Derived.Deep.OwnRows
import Derived.Deep.RegionLaw
import Derived.Lib.AppendZeros
namespace Go.Proofs.YbulkcmoqDoor
namespace SideW
open Go.RowKit

/-- How many of the bits 0 to 7 stand in x. -/
def pop (x : Nat) : Nat := ((List.range 8).filter (fun i => x.testBit i)).length

/-- What OnesCount64 reckons. -/
def onesRaw (x : Int) : Int :=
  let x1 := IntKind.u64.wrap (bits .and .u64 (x / 2) 6148914691236517205 + bits .and .u64 x 6148914691236517205)
  let x2 := IntKind.u64.wrap (bits .and .u64 (x1 / 4) 3689348814741910323 + bits .and .u64 x1 3689348814741910323)
  let x3 := bits .and .u64 (IntKind.u64.wrap (x2 / 16 + x2)) 1085102592571150095
  let x4 := IntKind.u64.wrap (x3 + x3 / 256)
  let x5 := IntKind.u64.wrap (x4 + x4 / 65536)
  let x6 := IntKind.u64.wrap (x5 + x5 / 4294967296)
  bits .and .i64 (wrap64 x6) 127

theorem ones_all : (List.range 256).all (fun x => onesRaw (x : Int) == ((pop x : Nat) : Int)) = true := by kernel_rfl
theorem ones_eq {x : Nat} (h : x < 256) : onesRaw (x : Int) = ((pop x : Nat) : Int) := by
  have := List.all_eq_true.1 ones_all x (by simpa using h)
  simpa using this

theorem and_all : (List.range 256).all (fun x => (List.range 8).all fun i => (bits .and .u64 (x : Int) (IntKind.u64.wrap (2 ^ i)) != 0) == x.testBit i) = true := by kernel_rfl
theorem and_eq {x i : Nat} (h : x < 256) (hi : i < 8) : (bits .and .u64 (x : Int) (IntKind.u64.wrap (2 ^ i)) != 0) = x.testBit i := by
  have := List.all_eq_true.1 (List.all_eq_true.1 and_all x (by simpa using h)) i (by simpa using hi)
  simpa using this

theorem or_all : (List.range 256).all (fun x => (List.range 8).all fun i => bits .or .u64 (x : Int) (IntKind.u64.wrap (2 ^ i)) == ((x ||| 2 ^ i : Nat) : Int)) = true := by kernel_rfl
theorem or_eq {x i : Nat} (h : x < 256) (hi : i < 8) : bits .or .u64 (x : Int) (IntKind.u64.wrap (2 ^ i)) = ((x ||| 2 ^ i : Nat) : Int) := by
  have := List.all_eq_true.1 (List.all_eq_true.1 or_all x (by simpa using h)) i (by simpa using hi)
  simpa using this

theorem or_lt {x i : Nat} (h : x < 256) (hi : i < 8) : x ||| 2 ^ i < 256 := by
  have : 2 ^ i < 2 ^ 8 := Nat.pow_lt_pow_right (by omega) hi
  exact Nat.or_lt_two_pow (n := 8) h this

set_option maxRecDepth 100000 in
set_option maxHeartbeats 800000 in
theorem has_some (g cap x i : Nat) (w : World) (hi : i < 8) (hx : x < 256) (hc : w.cell? ⟨g, 0, none⟩ = some (.int .u64 (x : Int))) :
    Calls Ybad.prog 5 #[.slice (some ⟨g, 0, none⟩) 1 cap, .int .i64 (i : Int)] w fun e w' => e = .returned (.bool (x.testBit i)) ∧ ∃ n, w' = w.drewN n := by
  have h0 : (i : Int) / 64 = 0 := by omega
  have h1 : (i : Int) % 64 = (i : Int) := by omega
  have Hx : Hid _ := and_eq hx hi
  go_enter Ybad.func5, Ybad.ntmps5
  go_wp2
  go_quiet (fail)
  go_wp2
  go_ret
  exact ⟨congrArg (fun b => Ending.returned (Value.bool b)) Hx.out, _, rfl⟩

set_option maxRecDepth 100000 in
set_option maxHeartbeats 800000 in
theorem has_nil (i : Nat) (w : World) (hi : i < 8) :
    Calls Ybad.prog 5 #[.slice none 0 0, .int .i64 (i : Int)] w fun e w' => e = .returned (.bool false) ∧ ∃ n, w' = w.drewN n := by
  have h0 : (i : Int) / 64 = 0 := by omega
  go_enter Ybad.func5, Ybad.ntmps5
  go_wp2
  go_quiet (fail)
  go_wp2
  go_ret
  exact ⟨rfl, _, rfl⟩

set_option maxRecDepth 100000 in
set_option maxHeartbeats 800000 in
theorem ones (x : Nat) (w : World) (hx : x < 256) :
    Calls Ybad.prog 9 #[.int .u64 (x : Int)] w fun e w' => e = .returned (.int .i64 ((pop x : Nat) : Int)) ∧ w' = w := by
  have Hx : Hid _ := ones_eq hx
  go_enter Ybad.func9, Ybad.ntmps9
  go_wp2
  go_ret
  exact ⟨congrArg (fun b => Ending.returned (Value.int .i64 b)) Hx.out, rfl⟩

theorem pop_le (x : Nat) : pop x ≤ 8 := by
  have := List.length_filter_le (fun i => x.testBit i) (List.range 8)
  simpa [pop] using this

set_option maxRecDepth 100000 in
set_option maxHeartbeats 800000 in
theorem count_some (g cap x : Nat) (w : World) (hx : x < 256) (hc : w.cell? ⟨g, 0, none⟩ = some (.int .u64 (x : Int))) :
    Calls Ybad.prog 6 #[.slice (some ⟨g, 0, none⟩) 1 cap] w fun e w' => e = .returned (.int .i64 ((pop x : Nat) : Int)) ∧ w' = w := by
  have hp := pop_le x
  go_enter Ybad.func6, Ybad.ntmps6
  go_wp2_with fail
  refine wp_loop_rounds 2 ?_
  rw [rounds_succ]
  go_wp2_with (go_at_call 9; refine (ones x _ hx).mono ?_; rintro e w' ⟨rfl, rfl⟩)
  rw [rounds_succ]
  go_wp2_with fail
  go_ret
  exact ⟨rfl, rfl⟩

set_option maxRecDepth 100000 in
set_option maxHeartbeats 800000 in
theorem count_nil (w : World) :
    Calls Ybad.prog 6 #[.slice none 0 0] w fun e w' => e = .returned (.int .i64 0) ∧ w' = w := by
  go_enter Ybad.func6, Ybad.ntmps6
  go_wp2_with fail
  refine wp_loop_rounds 1 ?_
  rw [rounds_succ]
  go_wp2_with fail
  go_ret
  exact ⟨rfl, rfl⟩

end SideW
end Go.Proofs.YbulkcmoqDoor
