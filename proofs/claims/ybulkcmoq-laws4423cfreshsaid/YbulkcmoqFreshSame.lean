/-
  LawS4423CFresh: zzs4423csame.
-/
import Derived.Test.YbulkcmoqFreshUsers2
namespace Go.Proofs.Ybulkcmoq
namespace FreshW
open Go.Maps Go.Sort Go.RowKit

/-- What is asked of slices.Equal at strings: two slices that hold the same list. -/
def Equal13 : Prop := ∀ (b1 c b2 d : Nat) (ss : List (List UInt8)) (w : World), ss.length ≤ 100000 → (∀ j, j < ss.length → w.cell? ⟨b1, j, none⟩ = some (encStr (ss.getD j []))) → (∀ j, j < ss.length → w.cell? ⟨b2, j, none⟩ = some (encStr (ss.getD j []))) →
  Calls Yba.prog 13 #[.slice (some ⟨b1, 0, none⟩) ss.length c, .slice (some ⟨b2, 0, none⟩) ss.length d] w fun e w' => e = .returned (.bool true) ∧ ∃ q, w' = w.drewN q

/-- An entry's names in memory. -/
def NamesAt (w : World) (Rn : Nat → ByteArray) (e : Ent) : Prop :=
  ∃ b c, e.nv = .slice (some ⟨b, 0, none⟩) e.sl.length c ∧ ∀ j, j < e.sl.length → w.cell? ⟨b, j, none⟩ = some (encStr ((names Rn e.sl).getD j []))

theorem NamesAt.later {w w' : World} {Rn : Nat → ByteArray} {e : Ent} (h : NamesAt w Rn e) (hb : Below w.heap.size w w') : NamesAt w' Rn e := by
  obtain ⟨b, c, h1, h2⟩ := h
  exact ⟨b, c, h1, fun j hj => cell_on hb (h2 j hj)⟩

/-- The model in memory. -/
structure MAt (B : Nat) (Rn : Nat → ByteArray) (L : List Ent) (v : Value) (w : World) : Prop where
  own : w.ownsRow B 35 2 v L.length (ucells L.length (fun j => .string (L[j]!).nm) (fun j => (L[j]!).nv))
  nms : ∀ e ∈ L, NamesAt w Rn e

theorem MAt.later {B : Nat} {Rn : Nat → ByteArray} {L : List Ent} {v : Value} {w w' : World} (h : MAt B Rn L v w) (hb : Below w.heap.size w w') : MAt B Rn L v w' :=
  ⟨own_later h.own hb, fun e he => (h.nms e he).later hb⟩

theorem own_shape {w : World} {B s : Nat} {e : TypeId} {v : Value} {n : Nat} {xs : List Value} (h : w.ownsRow B e s v n xs) : ∃ a c, v = .slice a n c ∧ (0 < n → ∃ g, a = some ⟨g, 0, none⟩ ∧ B ≤ g) := by
  rcases h.2 with ⟨h1, h2⟩ | ⟨g, c, cur, h1, hB, _⟩
  · exact ⟨none, 0, by rw [h1, h2], fun h => by omega⟩
  · exact ⟨_, _, h1, fun _ => ⟨g, rfl, hB⟩⟩

/-- The two cells of a user in a row. -/
theorem own_pair {w : World} {B : Nat} {n g c : Nat} {f h : Nat → Value} (ho : w.ownsRow B 35 2 (.slice (some ⟨g, 0, none⟩) n c) n (ucells n f h)) {i : Nat} (hi : i < n) : w.cell? ⟨g, i * 2, none⟩ = some (f i) ∧ w.cell? ⟨g, i * 2 + 1, none⟩ = some (h i) := by
  obtain ⟨h1, h2⟩ := ucells_get f h n i hi
  have e1 := ho.cells (g := g) rfl _ _ h1
  have e2 := ho.cells (g := g) rfl _ _ h2
  rw [addr_add, Nat.zero_add] at e1 e2
  exact ⟨e1, e2⟩

theorem drewN_add (w : World) (m n : Nat) : (w.drewN m).drewN n = w.drewN (m + n) := by simp

theorem below_dr {B : Nat} {a w : World} (h : Below B a w) (n : Nat) : Below B a (w.drewN n) := h.trans ⟨rfl, rfl, rfl, Nat.le_refl _, fun _ _ => rfl⟩

set_option maxRecDepth 100000 in
set_option maxHeartbeats 4000000 in
theorem same_any (hE : Equal13) {B B' : Nat} {Rn : Nat → ByteArray} {L : List Ent} {q : Nat → Nat} {v mv : Value} {w : World} (hU : UAt B Rn L L.length q v w) (hM : MAt B' Rn L mv w) (hfew : L.length ≤ 1000) (hsl : ∀ e ∈ L, e.sl.length ≤ 1000) :
    Calls Yba.prog 10 #[v, mv] w fun e w' => e = .returned (.bool true) ∧ Below w.heap.size w w' := by
  obtain ⟨a, c, rfl, ha⟩ := own_shape hU.own
  obtain ⟨a', c', rfl, ha'⟩ := own_shape hM.own
  have HU := hd hU
  have HM := hd hM
  have HE := hd hE
  have Ha := hd ha
  have Ha' := hd ha'
  have Hsl := hd hsl
  clear hU hM hE ha ha' hsl
  go_enter Yba.func10, Yba.ntmps10
  go_wp2_with fail
  go_loopw [13] (fun iv wr => ∃ (i m : Nat), i ≤ L.length ∧ iv = .int .i64 i ∧ wr = w.drewN m) (fun i _ => L.length - (intOf i).toNat)
  case atStart => exact ⟨0, 0, Nat.zero_le _, rfl, rfl⟩
  case round =>
    obtain ⟨i, m, hi, rfl, hwr⟩ := hrel
    have Hwr := hd hwr
    clear hwr
    by_cases hil : i < L.length
    · obtain ⟨g, rfl, _⟩ := Ha.out (by omega)
      obtain ⟨g', rfl, _⟩ := Ha'.out (by omega)
      have he : L[i]! = L[i] := getElem!_pos L i hil
      have hmem : L[i]! ∈ L := by rw [he]; exact List.getElem_mem hil
      obtain ⟨p1, p2⟩ := own_pair HU.out.own hil
      obtain ⟨p3, p4⟩ := own_pair HM.out.own hil
      obtain ⟨nb, nc, hnv, hnc⟩ := HM.out.nms _ hmem
      have hrow := (HU.out.row i hil).2
      have hsl := Hsl.out _ hmem
      have hl := names_len Rn (L[i]!).sl
      rw [hnv] at p4
      have hc : ∀ a, wr.cell? a = w.cell? a := fun a => by rw [Hwr.out]; simp
      rw [← hc] at p1 p2 p3 p4
      have hcall : ∀ n, Calls Yba.prog 13 #[.slice (some ⟨q i, 0, none⟩) (L[i]!).sl.length (L[i]!).sl.length, .slice (some ⟨nb, 0, none⟩) (L[i]!).sl.length nc] (wr.drewN n) fun e w' => e = .returned (.bool true) ∧ ∃ q, w' = (wr.drewN n).drewN q := fun n => by
        have h := HE.out (q i) (L[i]!).sl.length nb nc (names Rn (L[i]!).sl) (wr.drewN n) (by omega) (fun j hj => by rw [World.cell?_drewN, hc]; exact hrow.cell (i := j) (by omega)) (fun j hj => by rw [World.cell?_drewN, hc]; exact hnc j (by omega))
        rw [hl] at h
        exact h
      obtain ⟨nm, hnm⟩ : ∃ nm, (L[i]!).nm = nm := ⟨_, rfl⟩
      obtain ⟨sl, hsl'⟩ : ∃ sl, (L[i]!).sl = sl := ⟨_, rfl⟩
      obtain ⟨qi, hqi⟩ : ∃ qi, q i = qi := ⟨_, rfl⟩
      simp only [hnm, hsl', hqi] at p1 p2 p3 p4 hcall
      clear he hmem hnv hnc hrow hsl hl hnm hsl' hqi HU HM HE hc
      go_wp2_with fail
      go_quiet (first | (go_at_call 13; exact Calls.quiet_of (hcall _)))
      go_wp2_with fail
      go_roundw
      case rel => exact ⟨i + 1, _, by omega, by go_num, by rw [Hwr.out, drewN_add]⟩
      case measure => simp [intOf]; omega
    · go_wp2_with fail
      go_ret
      exact ⟨rfl, by rw [Hwr.out]; exact below_dr (Below.refl _ _) _⟩
end FreshW
end Go.Proofs.Ybulkcmoq
