/-
  LawS4423CFresh: slices.SortFunc at the model, off the shelf; the closure.
-/
import Derived.Test.YbulkcmoqFreshBMem2
import Derived.Test.YbulkcmoqFreshShelf
namespace Go.Proofs.Ybulkcmoq
namespace FreshW
open Go.Maps Go.Sort Go.RowKit Go.Shelf

/-- A value that is a slice; else the nil slice. -/
def gd (v : Value) : Value := match v with
  | .slice a n c => .slice a n c
  | _ => .slice none 0 0

theorem gd_shape (v : Value) : ∃ a n c, gd v = .slice a n c := by
  unfold gd
  split
  · exact ⟨_, _, _, rfl⟩
  · exact ⟨_, _, _, rfl⟩

def encE (e : Ent) : List Value := [.string e.nm, gd e.nv]

set_option maxRecDepth 100000 in
set_option maxHeartbeats 2000000 in
theorem closure16 (a b : ByteArray) (p q : Option Addr) (n c m d : Nat) (W : World) : Calls Yba.prog 16 #[.agg #[.string a, .slice p n c], .agg #[.string b, .slice q m d]] W fun e w' => e = .returned (.int .i64 (Lib.compareBytes a.data.toList b.data.toList)) ∧ ∃ q os', w' = grow (W.drewN q) os' := by
  have hcon := fun W' => Any.strings_Compare FreshS.compareA a b W'
  change ∀ W', Calls Yba.prog 17 _ _ _ at hcon
  generalize Lib.compareBytes a.data.toList b.data.toList = r at hcon ⊢
  go_enter Yba.func16, Yba.ntmps16
  go_wp2_with (go_at_call 17; refine (hcon _).mono ?_; rintro e w' ⟨rfl, rfl⟩)
  go_ret
  exact ⟨rfl, 0, _, by rw [alloc_eq_grow, alloc_eq_grow, grow_grow]; rfl⟩

theorem cmpLays16 (blk off size : Nat) (w : World) : CmpLays Yba.prog 16 #[] encE 2 cf blk off size w := by
  intro m os dk hs x y
  obtain ⟨p, n, c, hx⟩ := gd_shape x.nv
  obtain ⟨q, k, d, hy⟩ := gd_shape y.nv
  have h := closure16 x.nm y.nm p q n c k d (sortWorldK encE 2 w blk off m dk os)
  unfold encE
  rw [hx, hy]
  exact h

/-- The flat row of the entries. -/
theorem flat_get (d : Array Ent) {j : Nat} (hj : j < d.size) : (flatK encE 2 d)[j * 2]! = .string (d[j]!).nm ∧ (flatK encE 2 d)[j * 2 + 1]! = gd (d[j]!).nv := by
  constructor
  · rw [get_flatK _ _ _ _ (by omega), show j * 2 / 2 = j from by omega, show j * 2 % 2 = 0 from by omega]
    rfl
  · rw [get_flatK _ _ _ _ (by omega), show (j * 2 + 1) / 2 = j from by omega, show (j * 2 + 1) % 2 = 1 from by omega]
    rfl

/-- The block of a row that is held. -/
theorem mod_block {B blk cap : Nat} {L : List Ent} {w : World} (h : ModAt B L (.slice (some ⟨blk, 0, none⟩) L.length cap) w) : ∃ cur, B ≤ blk ∧ w.heap[blk]? = some (.cells cur 35 (0, 0)) ∧ L.length ≤ cap ∧ cap ≤ maxLen ∧ cur.size = cap * 2 ∧ cur.toList.take (L.length * 2) = ucells L.length (fun j => .string (L[j]!).nm) (fun j => (L[j]!).nv) := by
  rcases h.2 with ⟨h1, _⟩ | ⟨g, cp, cur, h1, h2, h3, h4, h5, h6, h7⟩
  · cases h1
  · cases h1
    exact ⟨cur, h2, h3, h4, h5, h6, h7⟩

theorem heap_sortedK {w : World} {g n : Nat} {os : Array Obj} {cur : Array Value} {e : TypeId} {fr : Nat × Nat} (d : Array Ent) (hb : w.heap[g]? = some (.cells cur e fr)) :
    (sortWorldK encE 2 w g 0 n d os).heap[g]? = some (.cells (putCells id 0 (flatK encE 2 d) cur) e fr) := by
  have hg : g < w.heap.size := (Array.getElem?_eq_some_iff.1 hb).1
  unfold sortWorldK putRowK
  rw [heap_grow_old _ _ (by simpa using hg)]
  simp [putRow, mapBlock, Sort.ahead, Array.getElem?_modify, hb, onCells]

theorem grownBy_sortedK {w : World} {g n : Nat} {os : Array Obj} (d : Array Ent) : w.grownBy (sortWorldK encE 2 w g 0 n d os) (some g) := by
  unfold sortWorldK putRowK
  refine ⟨rfl, rfl, rfl, by simp, fun k hk hne => ?_⟩
  rw [heap_grow_old _ _ (by simpa using hk)]
  have : g ≠ k := fun e => hne (by rw [e])
  simp [putRow, mapBlock, Sort.ahead, Array.getElem?_modify, this]

theorem sort_some (B blk cap : Nat) (L : List Ent) (w : World) (h : ModAt B L (.slice (some ⟨blk, 0, none⟩) L.length cap) w) (hnv : ∀ e ∈ L, ∃ b c, e.nv = .slice (some ⟨b, 0, none⟩) e.sl.length c) (hfew : L.length ≤ 1000) :
    Calls Yba.prog 15 #[.slice (some ⟨blk, 0, none⟩) L.length cap, .func (.func 16) #[] #[]] w fun e w' => e = .returned (.tuple #[]) ∧ ∃ L' : List Ent, L'.Perm L ∧ (L'.map Ent.key).Pairwise (fun a b => decide (a ≤ b) = true) ∧ ModAt B L' (.slice (some ⟨blk, 0, none⟩) L.length cap) w' ∧ w.grownBy w' (some blk) := by
  obtain ⟨cur, hB, hblk, hlc, hcm, hcs, hct⟩ := mod_block h
  have hlt : blk < w.heap.size := (Array.getElem?_eq_some_iff.1 hblk).1
  have hgd : ∀ e ∈ L, gd e.nv = e.nv := fun e he => by
    obtain ⟨b, c, hv⟩ := hnv e he
    rw [hv]
    rfl
  have hH : HoldsK encE 2 w blk 0 L.toArray := by
    intro t ht
    rw [size_flatK] at ht
    have ht' : t < L.length * 2 := by simpa using ht
    obtain ⟨j, hj⟩ : ∃ j, t = j * 2 ∨ t = j * 2 + 1 := ⟨t / 2, by omega⟩
    have hjn : j < L.length := by omega
    obtain ⟨p1, p2⟩ := ucells_get (fun j => .string (L[j]!).nm) (fun j => (L[j]!).nv) L.length j hjn
    obtain ⟨q1, q2⟩ := flat_get L.toArray (j := j) (by simpa using hjn)
    have e0 : L.toArray[j]! = L[j]! := by simp
    rw [e0] at q1 q2
    have hmem : L[j]! ∈ L := by rw [getElem!_pos L j hjn]; exact List.getElem_mem hjn
    rw [hgd _ hmem] at q2
    have hc : cur[t]? = (ucells L.length (fun j => .string (L[j]!).nm) (fun j => (L[j]!).nv))[t]? := by
      rw [← hct, List.getElem?_take_of_lt ht', Array.getElem?_toList]
    refine ⟨?_, by simp [World.frozen?, hblk]⟩
    simp only [World.cell?, hblk, Nat.zero_add, Option.isSome_none, Bool.false_eq_true, if_false, id_eq]
    rw [hc]
    rcases hj with rfl | rfl
    · rw [p1, q1]
    · rw [p2, q2]
  have hO : SWO (ltOf cf) := by
    have he : ltOf cf = fun x y : Ent => decide (x.key < y.key) := by
      funext x y
      exact cf_lt x y
    rw [he]
    exact swo_key
  have hcon := AnyQ.slices_SortFunc FreshS.sortFnA 2 Yba.isAgg35 Yba.sizeOf35 encE (fun _ => rfl) (fun x v hv => by
    obtain ⟨p, n, c, hx⟩ := gd_shape x.nv
    simp only [encE, hx, List.mem_cons, List.not_mem_nil, or_false] at hv
    rcases hv with rfl | rfl <;> rfl) cf hO 16 #[] blk 0 cap L.toArray w (enters_of Yba.func16 (by kernel_rfl) rfl) (cmpLays16 blk 0 _ w) hH hlt (by simp; omega)
  rw [show L.toArray.size = L.length from by simp] at hcon
  refine hcon.mono ?_
  rintro e w' ⟨rfl, d', n, os, hp, hs, rfl⟩
  obtain ⟨hsz, _, hperm⟩ := hp
  have hsz' : d'.size = L.length := by simpa using hsz
  have hperm' : d'.toList.Perm L := by
    have e1 : (d'.extract 0 L.length).toList = d'.toList := by rw [← hsz']; simp
    have e2 : (L.toArray.extract 0 L.length).toList = L := by simp
    rw [e1, e2] at hperm
    exact hperm
  refine ⟨rfl, d'.toList, hperm', ?_, ?_, ?_⟩
  · rw [List.pairwise_map]
    refine List.pairwise_iff_getElem.2 fun i j hi hj hij => ?_
    have hi' : i < d'.size := by simpa using hi
    have hj' : j < d'.size := by simpa using hj
    have h1 := hs i j (Nat.zero_le _) hij (by omega)
    have h2 : ltOf cf d'[j]! d'[i]! = decide ((d'[j]!).key < (d'[i]!).key) := cf_lt _ _
    rw [h2] at h1
    simp only [decide_eq_false_iff_not] at h1
    rw [getElem!_pos d' i hi', getElem!_pos d' j hj'] at h1
    simp only [Array.getElem_toList, decide_eq_true_eq]
    exact List.not_lt.1 h1
  · have hl : d'.toList.length = L.length := by simpa using hsz'
    unfold ModAt
    rw [hl]
    refine ⟨ucells_len _ _ _, .inr ⟨blk, cap, _, rfl, hB, heap_sortedK d' hblk, hlc, hcm, by simp [putCells, hcs], ?_⟩⟩
    apply List.ext_getElem?
    intro t
    by_cases ht : t < L.length * 2
    · rw [List.getElem?_take_of_lt ht, Array.getElem?_toList]
      have hf : (putCells id 0 (flatK encE 2 d') cur)[t]? = some (flatK encE 2 d')[t]! := by
        simp [putCells, hsz', ht, show t < cur.size from by omega]
      rw [hf]
      obtain ⟨j, hj⟩ : ∃ j, t = j * 2 ∨ t = j * 2 + 1 := ⟨t / 2, by omega⟩
      have hjn : j < L.length := by omega
      obtain ⟨p1, p2⟩ := ucells_get (fun j => .string (d'.toList[j]!).nm) (fun j => (d'.toList[j]!).nv) L.length j hjn
      obtain ⟨q1, q2⟩ := flat_get d' (j := j) (by omega)
      have e0 : d'.toList[j]! = d'[j]! := by rw [getElem!_pos d'.toList j (by omega), getElem!_pos d' j (by omega)]; simp
      have hmem : d'[j]! ∈ L := by
        refine hperm'.mem_iff.1 ?_
        rw [← e0, getElem!_pos d'.toList j (by omega)]
        exact List.getElem_mem _
      rw [hgd _ hmem] at q2
      rw [← e0] at q1 q2
      rcases hj with rfl | rfl
      · rw [p1, q1]
      · rw [p2, q2]
    · rw [List.getElem?_take_eq_none (by omega), List.getElem?_eq_none (by rw [ucells_len]; omega)]
  · exact grownBy_sortedK d'

theorem sortFn15 : SortFn15 :=
  ⟨fun B blk cap L w h hnv _ hfew => sort_some B blk cap L w h hnv hfew, fun p cap fv w => AnyF.slices_SortFunc_none FreshS.sortFnA p cap fv w⟩
end FreshW
end Go.Proofs.Ybulkcmoq
