/-
  LawS4423CFresh: the states of zzs4423cbuild's loop over the users.
-/
import Derived.Test.YbulkcmoqFreshBMem
namespace Go.Proofs.Ybulkcmoq
namespace FreshW
open Go.Maps Go.Sort Go.RowKit

/-- The model's row holds these entries. -/
def ModAt (B : Nat) (L : List Ent) (mv : Value) (w : World) : Prop := w.ownsRow B 35 2 mv L.length (ucells L.length (fun j => .string (L[j]!).nm) (fun j => (L[j]!).nv))

theorem ucells_app (L : List Ent) (e : Ent) : ucells (L ++ [e]).length (fun j => .string ((L ++ [e])[j]!).nm) (fun j => ((L ++ [e])[j]!).nv) = ucells L.length (fun j => .string (L[j]!).nm) (fun j => (L[j]!).nv) ++ [.string e.nm, e.nv] := by
  have hl : (L ++ [e]).length = L.length + 1 := by simp
  rw [hl, ucells_succ]
  have h1 : (L ++ [e])[L.length]! = e := by simp
  rw [h1, ucells_congr (f' := fun j => .string (L[j]!).nm) (g' := fun j => (L[j]!).nv) L.length (fun j hj => by
    have h2 : (L ++ [e])[j]! = L[j]! := by simp [List.getElem?_append_left hj]
    simp only [h2]
    exact ⟨trivial, trivial⟩)]

theorem own_set {w : World} {B n g c i : Nat} {f h : Nat → Value} (ho : w.ownsRow B 35 2 (.slice (some ⟨g, 0, none⟩) n c) n (ucells n f h)) (hi : i < n) (v : Value) :
    (w.setCell ⟨g, i * 2 + 1, none⟩ v).ownsRow B 35 2 (.slice (some ⟨g, 0, none⟩) n c) n (ucells n f (fun j => if j = i then v else h j)) := by
  rcases ho.2 with ⟨h1, _⟩ | ⟨g', cap, cur, h1, h2, hg, h3, h4, h5, h6⟩
  · cases h1
  · cases h1
    refine ⟨ucells_len _ _ _, .inr ⟨g, c, cur.setIfInBounds (i * 2 + 1) v, rfl, h2, by simp [World.setCell, Array.getElem?_modify, hg], h3, h4, by simpa using h5, ?_⟩⟩
    have hl : (ucells n f h).length = n * 2 := ucells_len _ _ _
    apply List.ext_getElem?
    intro t
    by_cases ht : t < n * 2
    · rw [List.getElem?_take_of_lt ht, Array.getElem?_toList, Array.getElem?_setIfInBounds]
      have h7 : cur[t]? = (ucells n f h)[t]? := by rw [← h6, List.getElem?_take_of_lt ht, Array.getElem?_toList]
      obtain ⟨j, hj⟩ : ∃ j, t = j * 2 ∨ t = j * 2 + 1 := ⟨t / 2, by omega⟩
      have hjn : j < n := by omega
      obtain ⟨p1, p2⟩ := ucells_get f h n j hjn
      obtain ⟨q1, q2⟩ := ucells_get f (fun j => if j = i then v else h j) n j hjn
      rcases hj with rfl | rfl
      · rw [if_neg (by omega), h7, p1, q1]
      · by_cases e : j = i
        · subst e
          rw [q2]
          simp
          omega
        · rw [if_neg (by omega), h7, p2, q2]
          simp [e]
    · rw [List.getElem?_take_eq_none (by omega), List.getElem?_eq_none (by rw [ucells_len]; omega)]

theorem ucells_set (L : List Ent) (e : Ent) {i : Nat} (hi : i < L.length) (hk : (L[i]).nm = e.nm) : ucells L.length (fun j => .string (L[j]!).nm) (fun j => if j = i then e.nv else (L[j]!).nv) = ucells (L.set i e).length (fun j => .string ((L.set i e)[j]!).nm) (fun j => ((L.set i e)[j]!).nv) := by
  rw [List.length_set]
  refine ucells_congr _ fun j hj => ?_
  by_cases e1 : j = i
  · subst e1
    have h1 : (L.set j e)[j]! = e := by simp [hi]
    have h2 : L[j]! = L[j] := getElem!_pos L j hi
    rw [h1, h2, hk]
    simp
  · have h1 : (L.set i e)[j]! = L[j]! := by
      have h2 : ¬ i = j := fun h => e1 h.symm
      simp [h2]
    rw [h1]
    simp [e1]

/-- The state ahead of user i. -/
structure BL (w : World) (pb rb mb k cap : Nat) (fP : Nat → Value) (Rn : Nat → ByteArray) (i : Nat) (L : List Ent) (mv : Value) (wr : World) : Prop where
  be : Below w.heap.size w wr
  bE : BE w.heap.size pb rb k cap fP Rn L wr
  map : ∃ n D, wr.ownsMap Yba.prog 9 Rs mb n D ∧ MapOf encV D L ∧ n ≤ i
  own : ModAt w.heap.size L mv wr
  few : L.length ≤ i

/-- The state behind the map's store and the sort of the names: the map holds the entry e, the model not yet. -/
structure BM (w : World) (pb rb mb k cap : Nat) (fP : Nat → Value) (Rn : Nat → ByteArray) (i : Nat) (L : List Ent) (mv : Value) (e : Ent) (wr : World) : Prop where
  be : Below w.heap.size w wr
  bE : BE w.heap.size pb rb k cap fP Rn L wr
  ent : EntAt w.heap.size k Rn e wr
  map : ∃ n D, wr.ownsMap Yba.prog 9 Rs mb n (D.put (.string e.key) (encV e.sv)) ∧ MapOf encV D L ∧ n ≤ i + 1
  own : ModAt w.heap.size L mv wr
  few : L.length ≤ i

variable {w : World} {pb rb mb k cap : Nat} {fP : Nat → Value} {Rn : Nat → ByteArray} {i : Nat} {L : List Ent} {mv : Value} {e : Ent} {wr wx : World}

theorem BL.later (h : BL w pb rb mb k cap fP Rn i L mv wr) (hb : Below wr.heap.size wr wx) : BL w pb rb mb k cap fP Rn i L mv wx := by
  obtain ⟨n, D, h1, h2, h3⟩ := h.map
  exact ⟨h.be.trans (hb.mono h.be.size), h.bE.later hb, ⟨n, D, map_on hb h1, h2, h3⟩, own_later h.own hb, h.few⟩
theorem BL.next (h : BL w pb rb mb k cap fP Rn i L mv wr) : BL w pb rb mb k cap fP Rn (i + 1) L mv wr := by
  obtain ⟨n, D, h1, h2, h3⟩ := h.map
  exact ⟨h.be, h.bE, ⟨n, D, h1, h2, by omega⟩, h.own, by have := h.few; omega⟩
theorem BM.later (h : BM w pb rb mb k cap fP Rn i L mv e wr) (hb : Below wr.heap.size wr wx) : BM w pb rb mb k cap fP Rn i L mv e wx := by
  obtain ⟨n, D, h1, h2, h3⟩ := h.map
  exact ⟨h.be.trans (hb.mono h.be.size), h.bE.later hb, ⟨own_later h.ent.sv hb, own_later h.ent.nv hb, h.ent.lt, h.ent.ne, h.ent.le, h.ent.nm⟩, ⟨n, D, map_on hb h1, h2, h3⟩, own_later h.own hb, h.few⟩

theorem BM.app {mv' : Value} (h : BM w pb rb mb k cap fP Rn i L mv e wr) (hn : ∀ x ∈ L, x.key ≠ e.key) (hg : wr.grownBy wx mv.ownBlock)
    (ho : wx.ownsRow w.heap.size 35 2 mv' (L.length + 1) (ucells L.length (fun j => .string (L[j]!).nm) (fun j => (L[j]!).nv) ++ [.string e.nm, e.nv])) : BL w pb rb mb k cap fP Rn (i + 1) (L ++ [e]) mv' wx := by
  obtain ⟨n, D, h1, h2, h3⟩ := h.map
  have hs := h.be.size
  refine ⟨h.be.grown hg hs (fun j hj => (h.own.lt j hj).1), ⟨?_, ?_, ?_⟩, ⟨n, _, h1.kept hg (own_ne_map h.own h1), h2.app hn, by omega⟩, ?_, by have := h.few; simp; omega⟩
  · exact (h.bE.keep h.own hg).pol
  · exact (h.bE.keep h.own hg).rol
  · intro x hx
    rcases List.mem_append.1 hx with hx | hx
    · exact (h.bE.keep h.own hg).ent x hx
    · obtain rfl : x = e := by simpa using hx
      exact h.ent.keep h.own hg
  · unfold ModAt
    rw [ucells_app]
    simpa using ho

theorem BM.rep {g c j : Nat} (h : BM w pb rb mb k cap fP Rn i L (.slice (some ⟨g, 0, none⟩) L.length c) e wr) (hj : j < L.length) (hk : (L[j]).nm = e.nm) :
    BL w pb rb mb k cap fP Rn (i + 1) (L.set j e) (.slice (some ⟨g, 0, none⟩) L.length c) (wr.setCell ⟨g, j * 2 + 1, none⟩ e.nv) := by
  obtain ⟨n, D, h1, h2, h3⟩ := h.map
  have hs := h.be.size
  have hg : wr.grownBy (wr.setCell ⟨g, j * 2 + 1, none⟩ e.nv) (Value.ownBlock (.slice (some ⟨g, 0, none⟩) L.length c)) := grown_set wr ⟨g, j * 2 + 1, none⟩ e.nv
  refine ⟨h.be.grown hg hs (fun j hj => (h.own.lt j hj).1), ⟨?_, ?_, ?_⟩, ⟨n, _, h1.kept hg (own_ne_map h.own h1), h2.rep hj (by unfold Ent.key; rw [hk]), by omega⟩, ?_, by have := h.few; simp; omega⟩
  · exact (h.bE.keep h.own hg).pol
  · exact (h.bE.keep h.own hg).rol
  · intro x hx
    rcases List.mem_or_eq_of_mem_set hx with hx | hx
    · exact (h.bE.keep h.own hg).ent x hx
    · rw [hx]
      exact h.ent.keep h.own hg
  · unfold ModAt
    rw [← ucells_set L e hj hk, List.length_set]
    exact own_set h.own hj e.nv

/-- The slots that are present, below j. -/
def fl (pr : Nat → Bool) (j : Nat) : List Nat := (List.range j).filter pr

theorem fl_no {pr : Nat → Bool} {j : Nat} (h : pr j = false) : fl pr (j + 1) = fl pr j := by
  unfold fl
  rw [List.range_succ, List.filter_append]
  simp [h]
theorem fl_yes {pr : Nat → Bool} {j : Nat} (h : pr j = true) : fl pr (j + 1) = fl pr j ++ [j] := by
  unfold fl
  rw [List.range_succ, List.filter_append]
  simp [h]
theorem fl_len (pr : Nat → Bool) (j : Nat) : (fl pr j).length ≤ j := by
  have := List.length_filter_le pr (List.range j)
  simpa [fl] using this
theorem fl_lt {pr : Nat → Bool} {j x : Nat} (h : x ∈ fl pr j) : x < j := by
  simpa using (List.mem_filter.1 h).1
theorem fl_ne {pr : Nat → Bool} {j : Nat} (h : ∃ x, x < j ∧ pr x = true) : fl pr j ≠ [] := by
  obtain ⟨x, h1, h2⟩ := h
  exact List.ne_nil_of_mem (List.mem_filter.2 ⟨by simpa using h1, h2⟩)

def scells (Rn : Nat → ByteArray) (l : List Nat) : List Value := l.map fun x => .string (Rn x)

theorem scells_enc (Rn : Nat → ByteArray) (l : List Nat) : scells Rn l = (l.map fun x => (Rn x).data.toList).map encStr := by
  simp [scells, encStr]

theorem own_base {w : World} {B B' s : Nat} {e : TypeId} {v : Value} {n : Nat} {xs : List Value} (h : w.ownsRow B e s v n xs) (hb : B' ≤ B) : w.ownsRow B' e s v n xs := by
  refine ⟨h.1, ?_⟩
  rcases h.2 with h1 | ⟨g, cap, cur, h1, h2, h3⟩
  · exact .inl h1
  · exact .inr ⟨g, cap, cur, h1, Nat.le_trans hb h2, h3⟩

/-- From the state ahead of the user to the state behind the sort of the names. -/
theorem bm_make {wq w4 w5 : World} {nn gn cn : Nat} {D : DataW Unit} {fu : Nat → Value} {Rn : Nat → ByteArray} {e : Ent} (h : BL w pb rb mb k cap fP Rn i L mv wq) (hmb : w.heap.size ≤ mb) (hB : Below wq.heap.size wq w4) (hm : w4.ownsMap Yba.prog 9 Rs mb nn D) (hD : MapOf encV D L) (hnn : nn ≤ i)
    (hm5 : w5.ownsMap Yba.prog 9 Rs mb (nn + 1) (D.put (.string e.key) (encV e.sv))) (hg5 : w4.drew.grownBy w5 (some mb)) (hsv : w4.ownsRow wq.heap.size 3 1 e.sv e.sl.length (icells e.sl)) (hnv : w4.ownsRow wq.heap.size 9 1 (.slice (some ⟨gn, 0, none⟩) e.sl.length cn) e.sl.length (scells Rn e.sl))
    (henv : e.nv = .slice (some ⟨gn, 0, none⟩) e.sl.length cn) (hlt : ∀ x ∈ e.sl, x < k) (hne : e.sl ≠ []) (hle : e.sl.length ≤ 1000) (hnm : e.nm.size ≤ maxLen) (hu : w4.rowIs wq.heap.size 41 2 fu) :
    Holds encStr w5 gn 0 (e.sl.map fun x => (Rn x).data.toList).toArray ∧ gn < w5.heap.size ∧ ∀ n os, BM w pb rb mb k cap fP Rn i L mv e (grow (putRow encStr (Sort.ahead w5 n) gn 0 (names Rn e.sl).toArray) os) ∧ (grow (putRow encStr (Sort.ahead w5 n) gn 0 (names Rn e.sl).toArray) os).rowIs wq.heap.size 41 2 fu := by
  have hb5 : ∀ b, b < w4.heap.size → b ≠ mb → w5.heap[b]? = w4.heap[b]? := fun b h1 h2 => hg5.block b h1 (fun e => h2 (by simpa using e))
  have hsv5 := own_on hsv hm hb5
  have hnv5 := own_on hnv hm hb5
  have hu5 := row_on hu hm hb5
  have hsz := h.be.size
  have hgn := (hnv5.lt gn rfl)
  obtain ⟨cur, hcur, hcs, hct, hcc, hcm⟩ : ∃ cur, w5.heap[gn]? = some (.cells cur 9 (0, 0)) ∧ cur.size = cn * 1 ∧ cur.toList.take (e.sl.length * 1) = scells Rn e.sl ∧ e.sl.length ≤ cn ∧ cn ≤ maxLen := by
    rcases hnv5.2 with ⟨h1, _⟩ | ⟨g, cap, cur, h1, h2, h3, h4, h5, h6, h7⟩
    · cases h1
    · cases h1
      exact ⟨cur, h3, h6, h7, h4, h5⟩
  have hl : (e.sl.map fun x => (Rn x).data.toList).length = e.sl.length := by simp
  refine ⟨holds_of_block hcur (by rw [hl, ← scells_enc, ← hct, Nat.mul_one]), hgn.2, fun n os => ?_⟩
  have hg6 : w5.grownBy (grow (putRow encStr (Sort.ahead w5 n) gn 0 (names Rn e.sl).toArray) os) (some gn) := grownBy_sorted _
  have hn6 : (grow (putRow encStr (Sort.ahead w5 n) gn 0 (names Rn e.sl).toArray) os).ownsRow w.heap.size 9 1 (.slice (some ⟨gn, 0, none⟩) e.sl.length cn) e.sl.length ((names Rn e.sl).map encStr) := by
    have h1 := ownsRow_sorted (n := n) (os := os) (ss := e.sl.map fun x => (Rn x).data.toList) (ts := names Rn e.sl) (base := w.heap.size) (by rw [names_len, hl]) (by omega) hcur (by rw [hl]; exact hcc) hcm hcs
    rw [hl] at h1
    exact h1
  generalize grow (putRow encStr (Sort.ahead w5 n) gn 0 (names Rn e.sl).toArray) os = w6 at hg6 hn6
  obtain ⟨n0, D0, hm0, _, _⟩ := h.map
  have hb6 : ∀ b, b < wq.heap.size → b ≠ mb → w6.heap[b]? = wq.heap[b]? := fun b h1 h2 => by
    have h3 := hB.size
    have h4 := hg5.size
    rw [hg6.block b (Nat.lt_of_lt_of_le (Nat.lt_of_lt_of_le h1 h3) h4) (fun e => by simp at e; omega), hb5 b (by omega) h2, hB.block b h1]
  refine ⟨⟨?_, h.bE.on hm0 hb6, ⟨own_base (hsv5.kept hg6 (own_ne_own hnv5 hsv5 (by decide))) hsz, by rw [henv]; exact hn6, hlt, hne, hle, hnm⟩, ⟨nn + 1, D, hm5.kept hg6 (own_ne_map hnv5 hm5), hD, by omega⟩, own_on h.own hm0 hb6, h.few⟩, row_kept hu5 hg6 (own_ne hnv5 hu5 (by decide))⟩
  have b4 : Below w.heap.size w w4.drew := (h.be.trans (hB.mono hsz)).drew
  have b5 := b4.grown hg5 b4.size (fun x hx => by cases hx; exact hmb)
  exact b5.grown hg6 b5.size (fun x hx => by cases hx; omega)

theorem own_frozen {w : World} {B s : Nat} {e : TypeId} {g n c : Nat} {xs : List Value} (h : w.ownsRow B e s (.slice (some ⟨g, 0, none⟩) n c) n xs) (t : Nat) : w.frozen? ⟨g, t, none⟩ = false := by
  rcases h.2 with ⟨h1, _⟩ | ⟨g', cap, cur, h1, h2, h3, _⟩
  · cases h1
  · cases h1
    simp [World.frozen?, h3]

/-- What is asked of slices.SortFunc at the model. -/
structure SortFn15 : Prop where
  some_ : ∀ (B blk cap : Nat) (L : List Ent) (w : World), ModAt B L (.slice (some ⟨blk, 0, none⟩) L.length cap) w → (∀ e ∈ L, ∃ b c, e.nv = .slice (some ⟨b, 0, none⟩) e.sl.length c) → L ≠ [] → L.length ≤ 1000 →
    Calls Yba.prog 15 #[.slice (some ⟨blk, 0, none⟩) L.length cap, .func (.func 16) #[] #[]] w fun e w' => e = .returned (.tuple #[]) ∧ ∃ L' : List Ent, L'.Perm L ∧ (L'.map Ent.key).Pairwise (fun a b => decide (a ≤ b) = true) ∧ ModAt B L' (.slice (some ⟨blk, 0, none⟩) L.length cap) w' ∧ w.grownBy w' (some blk)
  none_ : ∀ (p : Option Addr) (cap : Nat) (fv : Value) (w : World), Calls Yba.prog 15 #[.slice p 0 cap, fv] w fun e w' => e = .returned (.tuple #[]) ∧ w' = w

/-- At the end. -/
theorem build_end {L' : List Ent} {w' : World} (h : BL w pb rb mb k cap fP Rn i L mv wr) (hi : i ≤ 1000) (h0 : fP 0 = .slice (some ⟨rb, 0, none⟩) k cap) (h8 : fP 8 = .map (some mb)) (hp : L'.Perm L) (hmod : ModAt w.heap.size L' mv w') (hg : wr.grownBy w' mv.ownBlock) :
    Pol pb rb mb k cap Rn L' w' ∧ MAt w.heap.size Rn L' mv w' ∧ Below w.heap.size w w' := by
  obtain ⟨n, D, hm, hD, hn⟩ := h.map
  have hE := h.bE.keep h.own hg
  have hf := h.few
  have hE' : BE w.heap.size pb rb k cap fP Rn L' w' := ⟨hE.pol, hE.rol, fun e he => hE.ent e (hp.mem_iff.1 he)⟩
  exact ⟨hE'.pol_ h0 h8 (hm.kept hg (own_ne_map h.own hm)) (hD.perm hp) (by rw [hp.length_eq]; omega), ⟨hmod, fun e he => (hE'.ent e he).names⟩, h.be.grown hg h.be.size (fun x hx => (h.own.lt x hx).1)⟩

/-- The policy's cells. -/
def polCells (rb k cap mb : Nat) : Array Value := #[.slice (some ⟨rb, 0, none⟩) k cap, .map none, .slice none 0 0, .int .i64 0, .slice none 0 0, .slice none 0 0, .pointer none, .int .u64 0, .map (some mb), .slice none 0 0, .map none, .slice none 0 0, .slice none 0 0, .slice none 0 0, .slice none 0 0, .slice none 0 0, .slice none 0 0]

def polF (rb k cap mb : Nat) (i : Nat) : Value := (polCells rb k cap mb).getD i (.bool false)

theorem bl_start {rn : Nat → ByteArray} (hB : Below w.heap.size w wr) (hr : wr.ownsRow w.heap.size 43 5 (.slice (some ⟨rb, 0, none⟩) k cap) k (rcells k rn)) :
    BL w (wr.heap.size + 1) rb wr.heap.size k cap (polF rb k cap wr.heap.size) rn 0 [] (.slice none 0 0) ((wr.alloc (.map #[] 0)).alloc (.cells (polCells rb k cap wr.heap.size) 59)) := by
  have h1 : Below wr.heap.size wr ((wr.alloc (.map #[] 0)).alloc (.cells (polCells rb k cap wr.heap.size) 59)) := ((Below.refl _ _).alloc (Nat.le_refl _) _).alloc (by simp) _
  refine ⟨hB.trans (h1.mono hB.size), ⟨?_, own_later hr h1, by simp⟩, ⟨0, _, (World.ownsMap_made wr Yba.prog 9 Rs).alloc _, mapOf_start encV, Nat.le_refl _⟩, World.ownsRow_nil _ _ _ _, Nat.le_refl _⟩
  have h2 := World.rowIs_alloc (wr.alloc (.map #[] 0)) (polCells rb k cap wr.heap.size) 59 (polF rb k cap wr.heap.size) (fun i hi => by
    unfold polF
    rw [Array.getElem?_eq_getElem hi]
    simp [Array.getD, hi])
  have e : (wr.alloc (.map #[] 0)).heap.size = wr.heap.size + 1 := by simp
  rw [e] at h2
  exact h2
end FreshW
end Go.Proofs.Ybulkcmoq
