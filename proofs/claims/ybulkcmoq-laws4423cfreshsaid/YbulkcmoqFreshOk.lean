/-
  LawS4423CFresh: the arguments; zzs4423cok.
-/
import Derived.Test.YbulkcmoqFreshSame
namespace Go.Proofs.Ybulkcmoq
namespace FreshW
open Go.Maps Go.Sort Go.RowKit

/-- A slice of bytes that came in. -/
def BytesIn (w : World) (a : Option Addr) (len : Nat) (f : Nat → Int) : Prop :=
  ∀ i, i < len → ∃ b off, a = some ⟨b, off, none⟩ ∧ ∀ j, j < len → w.cell? ⟨b, off + j, none⟩ = some (.int .u8 (f j)) ∧ 0 ≤ f j ∧ f j ≤ 255

/-- A slice of strings that came in. -/
def StrsIn (w : World) (a : Option Addr) (len : Nat) (f : Nat → ByteArray) : Prop :=
  ∀ i, i < len → ∃ b off, a = some ⟨b, off, none⟩ ∧ ∀ j, j < len → w.cell? ⟨b, off + j, none⟩ = some (.string (f j))

/-- The users that came in. -/
def UsersIn (w : World) (a : Option Addr) (len : Nat) (nm : Nat → ByteArray) (ra : Nat → Option Addr) (rl rc : Nat → Nat) (rf : Nat → Nat → Int) : Prop :=
  ∀ i, i < len → ∃ b off, a = some ⟨b, off, none⟩ ∧ ∀ j, j < len → w.cell? ⟨b, off + j * 2, none⟩ = some (.string (nm j)) ∧ w.cell? ⟨b, off + j * 2 + 1, none⟩ = some (.slice (ra j) (rl j) (rc j)) ∧ (nm j).size ≤ maxLen ∧ BytesIn w (ra j) (rl j) (rf j)

def OkEnd (lR lU : Nat) (rl : Nat → Nat) (w : World) (e : Ending) (w' : World) : Prop :=
  ∃ r, e = .returned (.bool r) ∧ (r = true → lR ≤ 300 ∧ lU ≤ 300 ∧ ∀ j, j < lU → rl j ≤ 300) ∧ Below w.heap.size w w'

set_option maxRecDepth 100000 in
set_option maxHeartbeats 2000000 in
theorem ok_any {aR aU : Option Addr} {lR cR lU cU : Nat} {nm : Nat → ByteArray} {ra : Nat → Option Addr} {rl rc : Nat → Nat} {rf : Nat → Nat → Int} {w : World} (hU : UsersIn w aU lU nm ra rl rc rf) :
    Calls Yba.prog 8 #[.slice aR lR cR, .slice aU lU cU] w fun e w' => OkEnd lR lU rl w e w' := by
  have HU := hd hU
  clear hU
  by_cases g1 : (300 : Int) < (lR : Int)
  · go_enter Yba.func8, Yba.ntmps8
    go_wp2_with fail
    go_ret
    exact ⟨_, rfl, (fun h => by cases h), Below.refl _ _⟩
  by_cases g2 : (300 : Int) < (lU : Int)
  · go_enter Yba.func8, Yba.ntmps8
    go_wp2_with fail
    go_ret
    exact ⟨_, rfl, (fun h => by cases h), Below.refl _ _⟩
  go_enter Yba.func8, Yba.ntmps8
  go_wp2_with fail
  go_loopw [17] (fun iv wr => ∃ (i : Nat), i ≤ lU ∧ iv = .int .i64 i ∧ (∀ j, j < i → rl j ≤ 300) ∧ Below w.heap.size w wr) (fun i _ => lU - (intOf i).toNat)
  case atStart => exact ⟨0, Nat.zero_le _, rfl, (fun j hj => by omega), Below.refl _ _⟩
  case round =>
    obtain ⟨i, hi, rfl, hle, hB⟩ := hrel
    have Hle := hd hle
    have HB := hd hB
    by_cases hil : i < lU
    · obtain ⟨b, off, rfl, hc⟩ := HU.out i hil
      obtain ⟨c1, c2, _, _⟩ := hc i hil
      have c1' := cell_on hB c1
      have c2' := cell_on hB c2
      clear hle hB hc c1 c2
      by_cases g3 : (300 : Int) < (rl i : Int)
      · go_wp2_with fail
        go_ret
        exact ⟨_, rfl, (fun h => by cases h), HB.out.alloc HB.out.size _⟩
      · go_wp2_with fail
        go_roundw
        case rel =>
          refine ⟨i + 1, by omega, by go_num, fun j hj => ?_, HB.out.alloc HB.out.size _⟩
          by_cases e : j = i
          · subst e; omega
          · exact Hle.out j (by omega)
        case measure => simp [intOf]; omega
    · clear hle hB
      go_wp2_with fail
      go_ret
      exact ⟨_, rfl, (fun _ => ⟨by omega, by omega, fun j hj => Hle.out j (by omega)⟩), HB.out⟩
end FreshW
end Go.Proofs.Ybulkcmoq
