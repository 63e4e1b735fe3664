/-
  LawS4423CFresh: the memory of zzs4423cbuild.
-/
import Derived.Test.YbulkcmoqFreshOk
namespace Go.Proofs.Ybulkcmoq
namespace FreshW
open Go.Maps Go.Sort Go.RowKit

/-- A role's five cells. -/
def rcell (s : ByteArray) : List Value := [.string s, .slice none 0 0, .slice none 0 0, .slice none 0 0, .int .i64 0]

def rcells (n : Nat) (f : Nat → ByteArray) : List Value := (List.range n).flatMap fun j => rcell (f j)

theorem rcells_succ (n : Nat) (f : Nat → ByteArray) : rcells (n + 1) f = rcells n f ++ rcell (f n) := by
  unfold rcells
  rw [List.range_succ, List.flatMap_append]
  simp
theorem rcells_len (n : Nat) (f : Nat → ByteArray) : (rcells n f).length = n * 5 := by
  induction n with
  | zero => rfl
  | succ n ih => rw [rcells_succ]; simp [ih, rcell]; omega
theorem rcells_get (f : Nat → ByteArray) : ∀ n j, j < n → (rcells n f)[j * 5]? = some (.string (f j))
  | 0, j, h => by omega
  | n + 1, j, h => by
    rw [rcells_succ]
    have hl := rcells_len n f
    by_cases e : j = n
    · subst e
      rw [List.getElem?_append_right (by omega), hl]
      simp [rcell]
    · rw [List.getElem?_append_left (by omega)]
      exact rcells_get f n j (by omega)

def icells (l : List Nat) : List Value := l.map fun i => .int .i64 ((i : Nat) : Int)

/-- An entry in memory, while the model is built. -/
structure EntAt (B k : Nat) (Rn : Nat → ByteArray) (e : Ent) (w : World) : Prop where
  sv : w.ownsRow B 3 1 e.sv e.sl.length (icells e.sl)
  nv : w.ownsRow B 9 1 e.nv e.sl.length ((names Rn e.sl).map encStr)
  lt : ∀ i ∈ e.sl, i < k
  ne : e.sl ≠ []
  le : e.sl.length ≤ 1000
  nm : e.nm.size ≤ maxLen

/-- The policy and the entries, while the model is built. -/
structure BE (B pb rb k cap : Nat) (fP : Nat → Value) (Rn : Nat → ByteArray) (L : List Ent) (w : World) : Prop where
  pol : w.rowIs pb 59 17 fP
  rol : w.ownsRow B 43 5 (.slice (some ⟨rb, 0, none⟩) k cap) k (rcells k Rn)
  ent : ∀ e ∈ L, EntAt B k Rn e w

theorem own_on {w w' : World} {B s mb m : Nat} {e : TypeId} {v : Value} {n : Nat} {xs : List Value} {D : DataW Unit} (h : w.ownsRow B e s v n xs) (hm : w.ownsMap Yba.prog 9 Rs mb m D) (hb : ∀ b, b < w.heap.size → b ≠ mb → w'.heap[b]? = w.heap[b]?) : w'.ownsRow B e s v n xs := by
  have hne := own_ne_map h hm
  refine ⟨h.1, ?_⟩
  rcases h.2 with h1 | ⟨g, cap, cur, h1, h2, hg, h3⟩
  · exact .inl h1
  · exact .inr ⟨g, cap, cur, h1, h2, (hb g (Array.getElem?_eq_some_iff.1 hg).1 (fun e => hne (by rw [h1, e]; rfl))).trans hg, h3⟩

theorem row_on {w w' : World} {b t n mb m : Nat} {f : Nat → Value} {D : DataW Unit} (h : w.rowIs b t n f) (hm : w.ownsMap Yba.prog 9 Rs mb m D) (hb : ∀ b, b < w.heap.size → b ≠ mb → w'.heap[b]? = w.heap[b]?) : w'.rowIs b t n f := by
  refine h.of_block (hb b h.lt ?_)
  rintro rfl
  obtain ⟨c, hc, _⟩ := h
  obtain ⟨es, clock, he, _⟩ := hm
  rw [hc] at he
  simp at he

variable {B pb rb k cap mb m : Nat} {fP : Nat → Value} {Rn : Nat → ByteArray} {L : List Ent} {w w' : World} {D : DataW Unit}

theorem EntAt.on {e : Ent} (h : EntAt B k Rn e w) (hm : w.ownsMap Yba.prog 9 Rs mb m D) (hb : ∀ b, b < w.heap.size → b ≠ mb → w'.heap[b]? = w.heap[b]?) : EntAt B k Rn e w' :=
  ⟨own_on h.sv hm hb, own_on h.nv hm hb, h.lt, h.ne, h.le, h.nm⟩
theorem BE.on (h : BE B pb rb k cap fP Rn L w) (hm : w.ownsMap Yba.prog 9 Rs mb m D) (hb : ∀ b, b < w.heap.size → b ≠ mb → w'.heap[b]? = w.heap[b]?) : BE B pb rb k cap fP Rn L w' :=
  ⟨row_on h.pol hm hb, own_on h.rol hm hb, fun e he => (h.ent e he).on hm hb⟩
theorem BE.later (h : BE B pb rb k cap fP Rn L w) (hb : Below w.heap.size w w') : BE B pb rb k cap fP Rn L w' :=
  ⟨h.pol.of_block (hb.block _ h.pol.lt), own_later h.rol hb, fun e he => ⟨own_later (h.ent e he).sv hb, own_later (h.ent e he).nv hb, (h.ent e he).lt, (h.ent e he).ne, (h.ent e he).le, (h.ent e he).nm⟩⟩

theorem EntAt.keep {e : Ent} {mv : Value} {B' n : Nat} {xs : List Value} (h : EntAt B k Rn e w) (ho : w.ownsRow B' 35 2 mv n xs) (hg : w.grownBy w' mv.ownBlock) : EntAt B k Rn e w' :=
  ⟨h.sv.kept hg (own_ne_own ho h.sv (by decide)), h.nv.kept hg (own_ne_own ho h.nv (by decide)), h.lt, h.ne, h.le, h.nm⟩
theorem BE.keep {mv : Value} {B' n : Nat} {xs : List Value} (h : BE B pb rb k cap fP Rn L w) (ho : w.ownsRow B' 35 2 mv n xs) (hg : w.grownBy w' mv.ownBlock) : BE B pb rb k cap fP Rn L w' :=
  ⟨row_kept h.pol hg (own_ne ho h.pol (by decide)), h.rol.kept hg (own_ne_own ho h.rol (by decide)), fun e he => (h.ent e he).keep ho hg⟩

/-- What the walk leaves at its end. -/
theorem EntAt.slots {e : Ent} (h : EntAt B k Rn e w) : SlotsAt w k e := by
  have hpos : 0 < e.sl.length := List.length_pos_iff.2 h.ne
  obtain ⟨a, c, hv, ha⟩ := own_shape h.sv
  obtain ⟨g, rfl, _⟩ := ha hpos
  have ho := h.sv
  rw [hv] at ho
  refine ⟨⟨g, c, hv, fun j hj => ?_⟩, h.lt, h.ne, h.le, h.nm⟩
  have h1 := ho.cells (g := g) rfl j (.int .i64 ((e.sl[j] : Nat) : Int)) (by simp [icells, hj])
  rwa [addr_add, Nat.zero_add] at h1
theorem EntAt.names {e : Ent} (h : EntAt B k Rn e w) : NamesAt w Rn e := by
  have hpos : 0 < e.sl.length := List.length_pos_iff.2 h.ne
  obtain ⟨a, c, hv, ha⟩ := own_shape h.nv
  obtain ⟨g, rfl, _⟩ := ha hpos
  have ho := h.nv
  rw [hv] at ho
  refine ⟨g, c, hv, fun j hj => ?_⟩
  have hl := names_len Rn e.sl
  have h1 := ho.cells (g := g) rfl j (encStr ((FreshW.names Rn e.sl).getD j [])) (by rw [List.getElem?_map, List.getElem?_eq_getElem (by omega)]; simp [List.getD, show j < (FreshW.names Rn e.sl).length from by omega])
  rwa [addr_add, Nat.zero_add] at h1

theorem BE.pol_ {n : Nat} (h : BE B pb rb k cap fP Rn L w) (h0 : fP 0 = .slice (some ⟨rb, 0, none⟩) k cap) (h8 : fP 8 = .map (some mb)) (hm : w.ownsMap Yba.prog 9 Rs mb n D) (hD : MapOf encV D L) (hf : L.length ≤ 1000) : Pol pb rb mb k cap Rn L w :=
  ⟨by rw [h.pol.cell (i := 0) (by omega), h0], by rw [h.pol.cell (i := 8) (by omega), h8], fun i hi => by
    have h1 := h.rol.cells (g := rb) rfl (i * 5) _ (rcells_get Rn k i hi)
    rwa [addr_add, Nat.zero_add] at h1, ⟨n, D, hm, hD⟩, fun e he => (h.ent e he).slots, hf⟩

theorem heap_set_other {w : World} {a : Addr} {v : Value} {b : Nat} (h : b ≠ a.block) : (w.setCell a v).heap[b]? = w.heap[b]? := Go.Deep.blk_setCell_other w a v b h

theorem grown_set (w : World) (a : Addr) (v : Value) : w.grownBy (w.setCell a v) (some a.block) :=
  ⟨by simp [World.setCell], by simp [World.setCell], by simp [World.setCell], by simp [World.setCell], fun b _ hne => heap_set_other (fun e => hne (by rw [e]))⟩
end FreshW
end Go.Proofs.Ybulkcmoq
