/-
  LawS4423CFresh: (*Policy).User and (*Policy).Users.
-/
import Derived.Test.YbulkcmoqFreshNames
import Derived.Laws.ResultCell
namespace Go.Proofs.Ybulkcmoq
namespace FreshW
open Go.Maps Go.Sort Go.RowKit

/-- Two blocks of different types are two blocks. -/
theorem own_ne {w : World} {B s : Nat} {e t : TypeId} {v : Value} {n b m : Nat} {xs : List Value} {f : Nat → Value} (ho : w.ownsRow B e s v n xs) (hr : w.rowIs b t m f) (hne : t ≠ e) : some b ≠ v.ownBlock := by
  intro h
  obtain ⟨c, hc, _⟩ := hr
  rcases ho.2 with ⟨rfl, _⟩ | ⟨g, cap, cur, rfl, _, hg, _⟩
  · cases h
  · simp [Value.ownBlock] at h
    subst h
    rw [hg] at hc
    simp at hc
    exact hne hc.2.symm

theorem own_ne_own {w : World} {B s B' s' : Nat} {e e' : TypeId} {v v' : Value} {n n' : Nat} {xs xs' : List Value} (ho : w.ownsRow B e s v n xs) (hr : w.ownsRow B' e' s' v' n' xs') (hne : e' ≠ e) : v'.ownBlock = none ∨ v'.ownBlock ≠ v.ownBlock := by
  rcases hr.2 with ⟨rfl, _⟩ | ⟨g', cap', cur', rfl, _, hg', _⟩
  · exact .inl rfl
  · right
    intro h
    rcases ho.2 with ⟨rfl, _⟩ | ⟨g, cap, cur, rfl, _, hg, _⟩
    · cases h
    · simp [Value.ownBlock] at h
      subst h
      rw [hg] at hg'
      simp at hg'
      exact hne hg'.2.symm

theorem own_ne_map {w : World} {B s : Nat} {e : TypeId} {v : Value} {n b m : Nat} {xs : List Value} {D : DataW Unit} (ho : w.ownsRow B e s v n xs) (hr : w.ownsMap Yba.prog 9 Rs b m D) : some b ≠ v.ownBlock := by
  intro h
  obtain ⟨es, clock, hc, _⟩ := hr
  rcases ho.2 with ⟨rfl, _⟩ | ⟨g, cap, cur, rfl, _, hg, _⟩
  · cases h
  · simp [Value.ownBlock] at h
    subst h
    rw [hg] at hc
    simp at hc

theorem row_kept {w w' : World} {b t n : Nat} {f : Nat → Value} {row : Option Nat} (h : w.rowIs b t n f) (hg : w.grownBy w' row) (hne : some b ≠ row) : w'.rowIs b t n f := h.of_block (hg.block b h.lt hne)

theorem own_later {w w' : World} {B s : Nat} {e : TypeId} {v : Value} {n : Nat} {xs : List Value} (h : w.ownsRow B e s v n xs) (hb : Below w.heap.size w w') : w'.ownsRow B e s v n xs := by
  refine ⟨h.1, ?_⟩
  rcases h.2 with h1 | ⟨g, cap, cur, h1, h2, hg, h3⟩
  · exact .inl h1
  · exact .inr ⟨g, cap, cur, h1, h2, (hb.block g (Array.getElem?_eq_some_iff.1 hg).1).trans hg, h3⟩

/-- The cells of a row of pairs. -/
def ucells (n : Nat) (f g : Nat → Value) : List Value := (List.range n).flatMap fun j => [f j, g j]

theorem ucells_succ (n : Nat) (f g : Nat → Value) : ucells (n + 1) f g = ucells n f g ++ [f n, g n] := by
  unfold ucells
  rw [List.range_succ, List.flatMap_append]
  simp
theorem ucells_len (n : Nat) (f g : Nat → Value) : (ucells n f g).length = n * 2 := by
  induction n with
  | zero => rfl
  | succ n ih => rw [ucells_succ]; simp [ih]; omega
theorem ucells_get (f g : Nat → Value) : ∀ n j, j < n → (ucells n f g)[j * 2]? = some (f j) ∧ (ucells n f g)[j * 2 + 1]? = some (g j)
  | 0, j, h => by omega
  | n + 1, j, h => by
    rw [ucells_succ]
    have hl := ucells_len n f g
    by_cases e : j = n
    · subst e
      rw [List.getElem?_append_right (by omega), List.getElem?_append_right (by omega), hl]
      simp
    · rw [List.getElem?_append_left (by omega), List.getElem?_append_left (by omega)]
      exact ucells_get f g n j (by omega)
theorem ucells_congr {f g f' g' : Nat → Value} : ∀ n, (∀ j, j < n → f j = f' j ∧ g j = g' j) → ucells n f g = ucells n f' g'
  | 0, _ => rfl
  | n + 1, h => by
    rw [ucells_succ, ucells_succ, ucells_congr n (fun j hj => h j (by omega)), (h n (by omega)).1, (h n (by omega)).2]

/-- The list of users in memory, i of them laid. -/
structure UAt (B : Nat) (Rn : Nat → ByteArray) (L : List Ent) (i : Nat) (q : Nat → Nat) (v : Value) (w : World) : Prop where
  own : w.ownsRow B 35 2 v i (ucells i (fun j => .string (L[j]!).nm) (fun j => .slice (some ⟨q j, 0, none⟩) (L[j]!).sl.length (L[j]!).sl.length))
  row : ∀ j, j < i → B ≤ q j ∧ w.rowIs (q j) 9 (L[j]!).sl.length (fun t => encStr ((names Rn (L[j]!).sl).getD t []))

theorem UAt.later {B : Nat} {Rn : Nat → ByteArray} {L : List Ent} {i : Nat} {q : Nat → Nat} {v : Value} {w w' : World} (h : UAt B Rn L i q v w) (hb : Below w.heap.size w w') : UAt B Rn L i q v w' :=
  ⟨own_later h.own hb, fun j hj => ⟨(h.row j hj).1, (h.row j hj).2.of_block (hb.block _ (h.row j hj).2.lt)⟩⟩

theorem UAt.step {B : Nat} {Rn : Nat → ByteArray} {L : List Ent} {i : Nat} {q : Nat → Nat} {v v' : Value} {w w1 w2 w3 : World} (h : UAt B Rn L i q v w) (hB : B ≤ w.heap.size) (hb : Below w.heap.size w w1)
    (hr : w1.rowIs w.heap.size 9 (L[i]!).sl.length (fun t => encStr ((names Rn (L[i]!).sl).getD t []))) (h12 : Below w1.heap.size w1 w2) (hg : w2.grownBy w3 v.ownBlock)
    (ho : w3.ownsRow B 35 2 v' (i + 1) (ucells i (fun j => .string (L[j]!).nm) (fun j => .slice (some ⟨q j, 0, none⟩) (L[j]!).sl.length (L[j]!).sl.length) ++ [.string (L[i]!).nm, .slice (some ⟨w.heap.size, 0, none⟩) (L[i]!).sl.length (L[i]!).sl.length])) :
    UAt B Rn L (i + 1) (fun j => if j = i then w.heap.size else q j) v' w3 := by
  have h2 := (h.later hb).later h12
  have hr2 := hr.of_block (h12.block _ hr.lt)
  refine ⟨?_, fun j hj => ?_⟩
  · rw [ucells_succ]
    simp only [if_true]
    rw [ucells_congr (f' := fun j => .string (L[j]!).nm) (g' := fun j => .slice (some ⟨q j, 0, none⟩) (L[j]!).sl.length (L[j]!).sl.length) i (fun j hj => ⟨rfl, by simp [show j ≠ i from by omega]⟩)]
    exact ho
  · by_cases e : j = i
    · subst e
      simp only [if_true]
      exact ⟨hB, row_kept hr2 hg (own_ne h2.own hr2 (by decide))⟩
    · simp only [e, if_false]
      have h3 := h2.row j (by omega)
      exact ⟨h3.1, row_kept h3.2 hg (own_ne h2.own h3.2 (by decide))⟩

/-- The look-up of an entry, in every later world. -/
theorem Pol.look {pb rb mb k cap : Nat} {Rn : Nat → ByteArray} {L : List Ent} {w : World} {e : Ent} (hp : Pol pb rb mb k cap Rn L w) (he : e ∈ L) :
    (Instr.lookup 45 (.map (some mb)) (.string e.nm) true).run Yba.prog w = .ok (.tuple #[e.sv, .bool true]) w ∧ (Instr.lookup 45 (.map (some mb)) (.string e.nm) false).run Yba.prog w = .ok e.sv w := by
  obtain ⟨n, D, h1, h2⟩ := hp.map
  obtain ⟨b, c, hsv, _⟩ := (hp.slots e he).ex
  have hkey := key9 (hp.slots e he).nm
  have hat : D.atKey (.string e.nm.data.toList) .nil = encV e.sv := h2.at_ e he _
  have hhas : has D (.string e.nm.data.toList) = true := (h2.has_ _).2 ⟨e, he, rfl⟩
  obtain ⟨v, ps, hr, hR⟩ := h1.look_ok law9 Yba.underlying45 (Yba.zeroValue47 w) (zd := .nil) (zp := []) rfl hkey
  obtain ⟨v', ps', hr', hR'⟩ := h1.lookup law9 Yba.underlying45 (Yba.zeroValue47 w) (zd := .nil) (zp := []) rfl hkey
  rw [hat, hsv] at hR hR'
  rw [hhas, Rs_inj hR] at hr
  rw [Rs_inj hR'] at hr'
  rw [hsv]
  exact ⟨hr, hr'⟩

set_option maxRecDepth 100000 in
set_option maxHeartbeats 2000000 in
theorem user_any (hS : Sort14) {pb rb mb k cap : Nat} {Rn : Nat → ByteArray} {L : List Ent} {w : World} {e : Ent} (hp : Pol pb rb mb k cap Rn L w) (he : e ∈ L) :
    Calls Yba.prog 12 #[.pointer (some ⟨pb, 0, none⟩), .string e.nm] w fun ev w' => ∃ q, ev = .returned (.tuple #[.agg #[.string e.nm, .slice (some ⟨q, 0, none⟩) e.sl.length e.sl.length], .bool true]) ∧
      w'.rowIs q 9 e.sl.length (fun j => encStr ((names Rn e.sl).getD j [])) ∧ Below w.heap.size w w' := by
  have hlook : ∀ c, (Instr.lookup 45 (.map (some mb)) (.string e.nm) true).run Yba.prog (w.alloc (.cells c 35)) = .ok (.tuple #[e.sv, .bool true]) (w.alloc (.cells c 35)) := fun c => ((hp.later ((Below.refl _ _).alloc (Nat.le_refl _) _)).look he).1
  have hcall := fun c => roleNames_any (e := e) hS (hp.later ((Below.refl _ w).alloc (Nat.le_refl _) (.cells c 35))) ((hp.slots e he).later ((Below.refl _ _).alloc (Nat.le_refl _) _))
  have c8 := hp.p8
  have hlt : pb < w.heap.size := World.block_lt_of_cell? w _ c8
  have Hcall := hd hcall
  generalize e.sv = sv at *
  generalize e.sl = sl at *
  generalize e.nm = nm at *
  clear hp hcall
  go_enter Yba.func12, Yba.ntmps12
  go_wp2_with fail
  refine (Hcall.out _).mono ?_
  rintro ev w2 ⟨rfl, hrow, hb⟩
  have hB : Below w.heap.size w w2 := ((Below.refl _ _).alloc (Nat.le_refl _) _).trans (hb.mono (by simp))
  have hres : w2.rowIs w.heap.size 35 2 (fun i => if i = 0 then .string ⟨#[]⟩ else .slice none 0 0) := by
    refine (World.rowIs_alloc w #[.string ⟨#[]⟩, .slice none 0 0] 35 (fun i => if i = 0 then .string ⟨#[]⟩ else .slice none 0 0) (fun i hi => ?_)).of_block (hb.block _ (by simp))
    match i, hi with
    | 0, _ => rfl
    | 1, _ => rfl
  have c0 := hres.cell (i := 0) (by omega)
  have c1 := hres.cell (i := 1) (by omega)
  have f0 := hres.frozen 0
  have f1 := hres.frozen 1
  simp at c0 c1
  have hrow2 := (hrow.setOther (a := ⟨w.heap.size, 0, none⟩) (by simp) (.string nm)).setOther (a := ⟨w.heap.size, 1, none⟩) (by simp) (.slice (some ⟨(w.alloc (.cells #[.string ⟨#[]⟩, .slice none 0 0] 35)).heap.size, 0, none⟩) sl.length sl.length)
  have Hrow2 := hd hrow2
  have HB2 := hd ((hB.setCell (p := ⟨w.heap.size, 0, none⟩) (Nat.le_refl _) (.string nm)).setCell (p := ⟨w.heap.size, 1, none⟩) (Nat.le_refl _) (.slice (some ⟨(w.alloc (.cells #[.string ⟨#[]⟩, .slice none 0 0] 35)).heap.size, 0, none⟩) sl.length sl.length))
  clear hrow hrow2 hB hb hres hlook Hcall
  go_wp2_with fail
  refine bodyPost_ret (v := .tuple #[.agg #[.string nm, .slice (some ⟨w.heap.size + 1, 0, none⟩) sl.length sl.length], .bool true]) ?_ rfl ⟨_, rfl, by simpa using Hrow2.out, by simpa using HB2.out⟩
  rw [results_cell_tmp rfl]
  go_simp
end FreshW
end Go.Proofs.Ybulkcmoq
