import Derived.Test.YbulkcmoqDoorSides
import Derived.Test.YbulkcmoqDoorLawPlain
namespace Go.Proofs.YbulkcmoqDoor
namespace SideW
open Go.RowKit Go.Maps

/-- A slice of bytes that came in. -/
def Bytes (w : World) (a : Option Addr) (len : Nat) (f : Nat → Int) : Prop :=
  ∀ i, i < len → ∃ b off, a = some ⟨b, off, none⟩ ∧ ∀ j, j < len → w.cell? ⟨b, off + j, none⟩ = some (.int .u8 (f j)) ∧ 0 ≤ f j ∧ f j ≤ 255

/-- The law's nine names. -/
def nmL : List ByteArray := [⟨#[114, 48]⟩, ⟨#[114, 49]⟩, ⟨#[114, 50]⟩, ⟨#[114, 51]⟩, ⟨#[114, 52]⟩, ⟨#[114, 53]⟩, ⟨#[114, 54]⟩, ⟨#[114, 55]⟩, ⟨#[103, 104, 111, 115, 116]⟩]
def nmB (t : Nat) : ByteArray := nmL.getD t ByteArray.empty

def relCells : Array Value := #[Value.bool false, Value.bool false, Value.bool false, Value.bool false, Value.bool false, Value.bool false, Value.bool false, Value.bool false, Value.bool false, Value.bool false, Value.bool false, Value.bool false, Value.bool false, Value.bool false, Value.bool false, Value.bool false, Value.bool false, Value.bool false, Value.bool false, Value.bool false, Value.bool false, Value.bool false, Value.bool false, Value.bool false, Value.bool false, Value.bool false, Value.bool false, Value.bool false, Value.bool false, Value.bool false, Value.bool false, Value.bool false, Value.bool false, Value.bool false, Value.bool false, Value.bool false, Value.bool false, Value.bool false, Value.bool false, Value.bool false, Value.bool false, Value.bool false, Value.bool false, Value.bool false, Value.bool false, Value.bool false, Value.bool false, Value.bool false, Value.bool false, Value.bool false, Value.bool false, Value.bool false, Value.bool false, Value.bool false, Value.bool false, Value.bool false, Value.bool false, Value.bool false, Value.bool false, Value.bool false, Value.bool false, Value.bool false, Value.bool false, Value.bool false]
def nmCells : Array Value := #[Value.string ⟨#[114, 48]⟩, Value.string ⟨#[114, 49]⟩, Value.string ⟨#[114, 50]⟩, Value.string ⟨#[114, 51]⟩, Value.string ⟨#[114, 52]⟩, Value.string ⟨#[114, 53]⟩, Value.string ⟨#[114, 54]⟩, Value.string ⟨#[114, 55]⟩, Value.string ⟨#[103, 104, 111, 115, 116]⟩]

/-- The names, and the relation as an array of eight times eight. -/
structure M1 (w : World) (B : Nat) (r : Nat → Nat → Bool) (wr : World) : Prop where
  nm : wr.rowIs B 23 9 (fun t => .string (nmB t))
  rel : wr.rowIs (B + 1) 25 64 (fun t => .bool (r (t / 8) (t % 8)))
  be : Below B w wr

theorem m1_start (w : World) : M1 w w.heap.size (fun _ _ => false) ((w.alloc (Obj.cells nmCells 23)).alloc (Obj.cells relCells 25)) := by
  refine ⟨?_, ?_, ((Below.refl _ _).alloc (Nat.le_refl _) _).alloc (by simp) _⟩
  · refine (World.rowIs_alloc w nmCells 23 (fun t => .string (nmB t)) ?_).alloc _
    intro i hi
    have hi' : i < 9 := hi
    match i, hi' with
    | 0, _ => rfl
    | 1, _ => rfl
    | 2, _ => rfl
    | 3, _ => rfl
    | 4, _ => rfl
    | 5, _ => rfl
    | 6, _ => rfl
    | 7, _ => rfl
    | 8, _ => rfl
  · have h : relCells = Array.replicate 64 (Value.bool false) := rfl
    have := World.rowIs_alloc (w.alloc (Obj.cells nmCells 23)) relCells 25 (fun _ => .bool false) (fun i hi => by
      rw [h] at hi ⊢
      simp at hi
      simp [hi])
    have e : relCells.size = 64 := rfl
    rw [e] at this
    simpa using this

theorem M1.put {w : World} {B : Nat} {r : Nat → Nat → Bool} {wr : World} (h : M1 w B r wr) {i j : Nat} (hj : j < 8) : M1 w B (put2 r i j) (wr.setCell ⟨B + 1, i * 8 + j, none⟩ (.bool true)) := by
  refine ⟨h.nm.setOther (by show B ≠ B + 1; omega) _, ?_, h.be.setCell (by show B ≤ B + 1; omega) _⟩
  refine (h.rel.set (i * 8 + j) (.bool true)).congr fun t ht => ?_
  by_cases e : t = i * 8 + j
  · have h1' : (i * 8 + j) / 8 = i := by omega
    simp [e, put2]
    simp [h1']
    omega
  · simp only [e, if_false]
    unfold put2
    rw [if_neg (by omega)]

end SideW
end Go.Proofs.YbulkcmoqDoor
