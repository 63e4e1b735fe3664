/-
  LawS4423CFresh, the plain side: the users' list as entries; the order of names; the map's datum; the sorted list is one.
-/
import Derived.Test.YbulkcmoqRows
import Derived.Sort.KeysCollected
import Derived.Sort.Statements
import Derived.Maps.Views
import Derived.Lib.Bytealg
namespace Go.Proofs.Ybulkcmoq
namespace FreshW
open Go.Maps Go.Sort

/-- A user in the model: the name, the slots, the slots' slice in memory, the names' slice in memory. -/
structure Ent where
  nm : ByteArray
  sl : List Nat
  sv : Value
  nv : Value

instance : Inhabited Ent := ⟨⟨ByteArray.empty, [], .bool false, .bool false⟩⟩

def Ent.key (e : Ent) : List UInt8 := e.nm.data.toList

theorem bytes_ext {a b : ByteArray} (h : a.data.toList = b.data.toList) : a = b := by
  obtain ⟨⟨a⟩⟩ := a
  obtain ⟨⟨b⟩⟩ := b
  simp at h
  rw [h]

theorem str_data (a : ByteArray) : (⟨a.data.toList.toArray⟩ : ByteArray) = a := bytes_ext (by simp)

theorem cmp_neg : ∀ a b : List UInt8, Lib.compareBytes a b < 0 ↔ a < b
  | [], [] => by simp [Lib.compareBytes]
  | [], _ :: _ => by simp [Lib.compareBytes]
  | _ :: _, [] => by simp [Lib.compareBytes]
  | a :: l, b :: m => by
    rw [List.cons_lt_cons_iff, ← cmp_neg l m]
    have hc : Lib.compareBytes (a :: l) (b :: m) = if a < b then -1 else if b < a then 1 else Lib.compareBytes l m := rfl
    rw [hc]
    by_cases h1 : a < b
    · simp [h1]
    · by_cases h2 : b < a
      · have h3 : a ≠ b := fun e => by subst e; exact h1 h2
        simp [h1, h2, h3]
      · have h3 : a = b := UInt8.le_antisymm (UInt8.not_lt.1 h2) (UInt8.not_lt.1 h1)
        subst h3
        simp [h1]

/-- The order of the model's sort. -/
def cf (x y : Ent) : Int := Lib.compareBytes x.key y.key

theorem cf_lt (x y : Ent) : decide (cf x y < 0) = decide (x.key < y.key) := by
  unfold cf
  rw [decide_eq_decide]
  exact cmp_neg _ _

theorem swo_key : SWO (fun x y : Ent => decide (x.key < y.key)) where
  irrefl x := by simp
  trans x y z h1 h2 := by simp at *; exact List.lt_trans h1 h2
  ntrans x y z h1 h2 := by simp at *; exact List.le_trans h2 h1

/-- The sorted list of names is one. -/
theorem sorted_keys {L : List Ent} {ss : List (List UInt8)} (hp : ss.Perm (L.map Ent.key)) (hs : (L.map Ent.key).Pairwise (fun a b => decide (a ≤ b) = true)) : ss.mergeSort (fun x y => decide (x ≤ y)) = L.map Ent.key := by
  have h1 : (ss.mergeSort (fun x y => decide (x ≤ y))).Pairwise (fun a b => decide (a ≤ b) = true) :=
    List.pairwise_mergeSort (fun a b c h1 h2 => by simp at *; exact List.le_trans h1 h2) (fun a b => by simp; exact List.le_total a b) ss
  refine ((List.mergeSort_perm _ _).trans hp).eq_of_pairwise ?_ h1 hs
  intro a b _ _ h1 h2
  simp at h1 h2
  exact List.le_antisymm h1 h2

/-- The datum of the policy's map: each entry's slots under its name. -/
structure MapOf (encV : Value → DataW Unit) (D : DataW Unit) (L : List Ent) : Prop where
  tidy : Tidy D
  has_ : ∀ k, has D k = true ↔ ∃ e ∈ L, k = .string e.key
  at_ : ∀ e ∈ L, ∀ z, D.atKey (.string e.key) z = encV e.sv
  nodup : (L.map Ent.key).Nodup
  sz : Maps.size D = L.length

theorem key_str (a : List UInt8) : WideAt.IsKeyLit (Lit.string a) := trivial

theorem mapOf_start (encV : Value → DataW Unit) : MapOf encV (.map []) [] :=
  ⟨tidy_empty, fun k => by simp [has_eq], by simp, List.nodup_nil, rfl⟩

variable {encV : Value → DataW Unit} {D : DataW Unit} {L : List Ent} {e : Ent}

theorem MapOf.app (h : MapOf encV D L) (hn : ∀ x ∈ L, x.key ≠ e.key) : MapOf encV (D.put (.string e.key) (encV e.sv)) (L ++ [e]) := by
  refine ⟨h.tidy.put (key_str _) _, fun k => ?_, fun x hx z => ?_, ?_, ?_⟩
  · by_cases hk : k = .string e.key
    · subst hk
      rw [has_put_same h.tidy.isMap (key_str _)]
      simp
    · rw [has_put_other hk, h.has_]
      simp [hk]
  · rcases List.mem_append.1 hx with hx | hx
    · rw [atKey_put_other (fun e' => hn x hx (by simpa using e'))]
      exact h.at_ x hx z
    · obtain rfl : x = e := by simpa using hx
      exact atKey_put_same h.tidy.isMap (key_str _) _ _
  · rw [List.map_append, List.nodup_append]
    refine ⟨h.nodup, by simp, ?_⟩
    intro a ha b hb
    obtain ⟨x, hx, rfl⟩ := List.mem_map.1 ha
    obtain rfl : b = e.key := by simpa using hb
    exact hn x hx
  · have h1 : has D (.string e.key) = false := by
      cases hh : has D (.string e.key) with
      | false => rfl
      | true =>
        obtain ⟨x, hx, he⟩ := (h.has_ _).1 hh
        exact absurd (by simpa using he.symm) (hn x hx)
    rw [size_put h.tidy, h1, h.sz]
    simp

theorem MapOf.rep (h : MapOf encV D L) {j : Nat} (hj : j < L.length) (hk : (L[j]'hj).key = e.key) : MapOf encV (D.put (.string e.key) (encV e.sv)) (L.set j e) := by
  have hm : (L.set j e).map Ent.key = L.map Ent.key := by
    rw [List.map_set, ← hk]
    apply List.ext_getElem?
    intro i
    rw [List.getElem?_set]
    by_cases e1 : j = i
    · subst e1; simp [hj]
    · simp [e1]
  refine ⟨h.tidy.put (key_str _) _, fun k => ?_, fun x hx z => ?_, by rw [hm]; exact h.nodup, by rw [size_put h.tidy, (h.has_ _).2 ⟨L[j], List.getElem_mem hj, by rw [hk]⟩, h.sz]; simp⟩
  · have h1 : (∃ x ∈ L.set j e, k = .string x.key) ↔ ∃ x ∈ L, k = .string x.key := by
      have h2 : ∀ M : List Ent, (∃ x ∈ M, k = .string x.key) ↔ ∃ a ∈ M.map Ent.key, k = .string a := by
        intro M
        constructor
        · rintro ⟨x, hx, he⟩; exact ⟨x.key, List.mem_map_of_mem hx, he⟩
        · rintro ⟨a, ha, he⟩
          obtain ⟨x, hx, rfl⟩ := List.mem_map.1 ha
          exact ⟨x, hx, he⟩
      rw [h2, h2, hm]
    rw [h1]
    by_cases hk' : k = .string e.key
    · subst hk'
      rw [has_put_same h.tidy.isMap (key_str _)]
      simp only [true_iff]
      exact ⟨L[j], List.getElem_mem hj, by rw [hk]⟩
    · rw [has_put_other hk', h.has_]
  · by_cases hx' : x.key = e.key
    · have hxe : x = e := by
        obtain ⟨i, hi, hxi⟩ := List.getElem_of_mem hx
        have hi' : i < L.length := by simpa using hi
        have hn := h.nodup
        rw [← hm] at hn
        have hij : i = j := by
          have h1 : ((L.set j e).map Ent.key)[i]'(by simpa using hi') = ((L.set j e).map Ent.key)[j]'(by simpa using hj) := by
            simp only [List.getElem_map]
            rw [hxi]
            simp [hx']
          exact (List.getElem_inj hn).1 h1
        subst hij
        rw [← hxi]; simp
      rw [hxe]
      exact atKey_put_same h.tidy.isMap (key_str _) _ _
    · rw [atKey_put_other (fun e' => hx' (by simpa using e'))]
      rcases List.mem_or_eq_of_mem_set hx with hx1 | hx1
      · exact h.at_ x hx1 z
      · rw [hx1] at hx'; exact absurd rfl hx'

theorem MapOf.perm (h : MapOf encV D L) {L' : List Ent} (hp : L'.Perm L) : MapOf encV D L' :=
  ⟨h.tidy, fun k => by rw [h.has_]; exact ⟨fun ⟨x, hx, he⟩ => ⟨x, hp.mem_iff.2 hx, he⟩, fun ⟨x, hx, he⟩ => ⟨x, hp.mem_iff.1 hx, he⟩⟩, fun x hx => h.at_ x (hp.mem_iff.1 hx), (hp.map _).nodup_iff.2 h.nodup, by rw [h.sz, hp.length_eq]⟩

theorem MapOf.keys (h : MapOf encV D L) {w : World} {P : Program} {k : TypeId} {R : Value → Option (DataW Unit × List MemPlace)} {b n : Nat} (hown : w.ownsMap P k R b n D) (hk : P.underlying k = some .string) : (L.map Ent.key).Perm (strKeys D) := by
  have hstr : ∀ es, D = .map es → ∀ p ∈ es, ∃ x, p.1 = .string x := by
    obtain ⟨es', hD', hko⟩ := hown.keysOf
    intro es he p hp
    rw [hD'] at he
    cases he
    obtain ⟨v, hv⟩ := hko p hp
    obtain ⟨x, _, hx, _⟩ := Maps.keyOf_str hk hv
    exact ⟨x, hx⟩
  obtain ⟨es, rfl, hp⟩ := h.tidy
  refine perm_strKeys hp (hstr es rfl) h.nodup (fun x => ?_)
  rw [h.has_]
  constructor
  · intro hx
    obtain ⟨e, he, rfl⟩ := List.mem_map.1 hx
    exact ⟨e, he, rfl⟩
  · rintro ⟨e, he, hx⟩
    cases hx
    exact List.mem_map_of_mem he
end FreshW
end Go.Proofs.Ybulkcmoq
