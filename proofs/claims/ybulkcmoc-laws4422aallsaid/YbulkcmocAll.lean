import Derived.Test.YbulkcmocFresh
import Derived.Maps.RangeWalk
import Derived.Deep.OwnRows
import Derived.Defers
import Derived.LaidEqlPtr
import Derived.Lib.Builder
namespace Go.Proofs.Ybulkcmoc
namespace AllW
open Go.RowKit Go.Maps

theorem info25 : (Yba.prog.info? 25).map (fun i => (i.zero, i.size, i.bytes)) = some (some (.pointer none), 1, 8) := by kernel_rfl
theorem law26 : Keyed Yba.prog 26 := int_keyed Yba.underlying26

/-- A pointer to block b's head. -/
def ptr (b : Nat) : Value := .pointer (some ⟨b, 0, none⟩)

/-- How a map's element, a pointer to a block's head, is told: by the block's number. -/
def Rp : Value → Option (DataW Unit × List MemPlace)
  | .pointer (some ⟨b, 0, none⟩) => some (.lit (.int .u64 b), [])
  | _ => none

theorem Rp_ptr (b : Nat) : Rp (.pointer (some ⟨b, 0, none⟩)) = some (.lit (.int .u64 b), []) := rfl
theorem Rp_inv {v : Value} {y : DataW Unit × List MemPlace} (h : Rp v = some y) : ∃ b : Nat, v = .pointer (some ⟨b, 0, none⟩) ∧ y = (.lit (.int .u64 b), []) := by
  unfold Rp at h
  split at h
  · cases h; exact ⟨_, rfl, rfl⟩
  · cases h

/-- A row of n pointers, as a list. -/
def ptrs (n : Nat) (f : Nat → Value) : List Value := (List.range n).map f

theorem ptrs_get {n : Nat} {f : Nat → Value} {j : Nat} {u : Value} (h : (ptrs n f)[j]? = some u) : j < n ∧ u = f j := by
  unfold ptrs at h
  rw [List.getElem?_map] at h
  cases hr : (List.range n)[j]? with
  | none => rw [hr] at h; cases h
  | some x =>
    rw [hr] at h
    obtain ⟨hlt, hx⟩ := List.getElem?_eq_some_iff.1 hr
    simp at hlt hx
    subst hx
    simp at h
    exact ⟨hlt, h.symm⟩

set_option maxRecDepth 100000 in
set_option maxHeartbeats 800000 in
theorem clone_any (R nr : Nat) (f : Nat → Value) (w : World) (hR : w.rowIs R 25 nr f) (h1 : ∀ i, i < nr → (f i).oneCell' = true) (hn : nr < 100000) :
    Calls Yba.prog 20 #[.slice (some ⟨R, 0, none⟩) nr nr] w fun e w' => ∃ v', e = .returned v' ∧ w'.ownsRow w.heap.size 25 1 v' nr (ptrs nr f) ∧ v' ≠ .slice none 0 0 ∧ Below w.heap.size w w' := by
  obtain ⟨i0, hi, hz0, hz1, hz2⟩ := info_parts info25
  have hnil := fun wx n' c' => Lib.run_eql_slice_nil (P := Yba.prog) wx 24 25 (some ⟨R, 0, none⟩) nr nr n' c' Yba.underlying24
  go_enter Yba.func20, Yba.ntmps20
  go_wp2_with (first | (at_builtin; refine wpList_append_own _ rfl (.tmp 5) (.tmp 6) 24 rfl w.heap.size 25 i0 (.pointer none) 1 8 Yba.underlying24 hi hz0 hz1 hz2 rfl (by decide) _ 0 [] rfl ?c0 ⟨R, 0, none⟩ nr nr (ptrs nr f) rfl (by simp [ptrs]) ?c1 ?c2 ?c3 ?c4 ?c5 ?_) | fail)
  case c0 => exact ⟨rfl, .inr ⟨w.heap.size, 0, #[], rfl, Nat.le_refl _, MapKept.heap_alloc w _ |>.1, Nat.le_refl _, Nat.zero_le _, rfl, rfl⟩⟩
  case c1 =>
    intro j u hj
    obtain ⟨hlt, rfl⟩ := ptrs_get hj
    have := (hR.alloc (.cells #[] 25)).cell hlt
    rw [show (⟨R, 0, none⟩ : Addr).add j = ⟨R, j, none⟩ from by rw [Go.WideShapes.add_plain]; simp]
    exact this
  case c2 =>
    intro u hu
    obtain ⟨j, hj, rfl⟩ := List.mem_map.1 hu
    exact h1 j (by simpa using hj)
  case c3 => unfold maxLen; omega
  case c4 => omega
  case c5 => simp
  intro v' w1 hown' hgrow hnil'
  have hB : Below w.heap.size w w1 := ((Below.refl _ w).alloc (Nat.le_refl _) _).grown hgrow (by simp) (fun k hk => by simp [Value.ownBlock] at hk; omega)
  have hv : v' ≠ .slice none 0 0 := hnil'
  clear hgrow hnil' hnil hR
  go_wp2
  go_ret
  exact ⟨v', rfl, hown', hv, hB⟩

set_option maxRecDepth 100000 in
set_option maxHeartbeats 1600000 in
-- '(*sync.Mutex).Unlock', entered as a deferred call, the lock held and nobody waiting.
theorem unlock_deferred (a : Addr) (u : FrameMode) (w : World) (hc : w.cell? a = some (.int .i32 1)) (hz : w.frozen? a = false) :
    CallsD Yba.prog 19 #[.pointer (some a)] u w fun e u' w' => u' = u ∧ (e = .returned (.tuple #[]) ∧ w' = w.setCell a (.int .i32 0)) := by
  have hd := MuW.disable
  have he := MuW.enable
  have hr := MuW.releaseMerge
  have hcv := run_convert_to_unsafe (P := Yba.prog) (src := 110) (dst := 86) Yba.underlying110 Yba.underlying86 (by kernel_rfl) hc
  have hadd := run_call_add (P := Yba.prog) Yba.func32 (by kernel_rfl) (by kernel_rfl) (by kernel_rfl) .i32 (by kernel_rfl) (y := -1) (s := 0) hc hz (by simp [go_sem]; rfl)
  go_enter_d Yba.func19, Yba.ntmps19
  go_wp2
  go_end0
  go_wp2
  go_end0
  exact ⟨rfl, rfl⟩

/-- The store back into a cell of an old block, seen through 'Below'. -/
theorem below_back {w wr : World} {S : Nat} (hc : w.cell? ⟨S, 0, none⟩ = some (.int .i32 0)) (hb : Below w.heap.size (w.setCell ⟨S, 0, none⟩ (.int .i32 1)) wr) : Below w.heap.size w (wr.setCell ⟨S, 0, none⟩ (.int .i32 0)) := by
  have hback := MuW.setCell_back w ⟨S, 0, none⟩ (.int .i32 1) (.int .i32 0) hc
  refine ⟨hb.os, hb.tape, hb.output, ?_, ?_⟩
  · have := hb.size
    simpa using this
  · intro k hk
    have hk1 := hb.block k hk
    by_cases e : k = S
    · subst e
      have h2 : (wr.setCell ⟨k, 0, none⟩ (.int .i32 0)).heap[k]? = ((w.setCell ⟨k, 0, none⟩ (.int .i32 1)).setCell ⟨k, 0, none⟩ (.int .i32 0)).heap[k]? := by
        simp only [World.setCell, Array.getElem?_modify] at hk1 ⊢
        rw [hk1]
      rw [h2, hback]
    · rw [Below.heap_setCell _ _ _ _ (by simpa using e), hk1, Below.heap_setCell _ _ _ _ (by simpa using e)]

/-- A row of the call's own is neither the map's block nor the iterator's. -/
theorem apart {w : World} {B : Nat} {v : Value} {n : Nat} {xs : List Value} {b r m : Nat} {D : DataW Unit} {left : Lit → Bool} {cnt : Nat} (ho : w.ownsRow B 25 1 v n xs) (hr : w.ranges Yba.prog 26 Rp b r m D left cnt) :
    v.ownBlock ≠ some r ∧ v.ownBlock ≠ some b := by
  obtain ⟨es, clock, since, seen, c0, hb, _, _, _, hit, _⟩ := hr
  rcases ho.2 with ⟨rfl, _⟩ | ⟨g, cap, cur, rfl, _, hg, _⟩
  · simp [Value.ownBlock]
  · simp only [Value.ownBlock, ne_eq, Option.some.injEq]
    refine ⟨fun e => ?_, fun e => ?_⟩
    · subst e; rw [hg] at hit; cases hit
    · subst e; rw [hg] at hb; cases hb

/-- What 'all' hands back of the map: its keys, each once, with the blocks that they lead to. -/
structure Told (D : DataW Unit) (left : Lit → Bool) (ps : List (Int × Nat)) : Prop where
  nodup : (ps.map (·.1)).Nodup
  at_ : ∀ p ∈ ps, ∀ z, D.atKey (.int .u32 p.1) z = .lit (.int .u64 p.2)
  left_ : ∀ id, left (.int .u32 id) = true → id ∉ ps.map (·.1)
  has_ : ∀ id, has D (.int .u32 id) = true → left (.int .u32 id) = true ∨ id ∈ ps.map (·.1)
  in_ : ∀ id, id ∈ ps.map (·.1) → has D (.int .u32 id) = true

theorem told_start (D : DataW Unit) : Told D (has D) [] := ⟨List.nodup_nil, by simp, by simp, fun id h => .inl h, by simp⟩

theorem told_step {D : DataW Unit} {left : Lit → Bool} {ps : List (Int × Nat)} {x : Int} {b : Nat} (h : Told D left ps) (hl : left (.int .u32 x) = true) (hat : ∀ z, D.atKey (.int .u32 x) z = .lit (.int .u64 b)) :
    Told D (fun z => left z && !z.sameKey (.int .u32 x)) (ps ++ [(x, b)]) := by
  refine ⟨?_, ?_, ?_, ?_, ?_⟩
  · rw [List.map_append, List.nodup_append]
    refine ⟨h.nodup, by simp, ?_⟩
    intro a ha c hc
    simp at hc
    subst hc
    intro e
    subst e
    exact h.left_ _ hl ha
  · intro p hp z
    rcases List.mem_append.1 hp with hp | hp
    · exact h.at_ p hp z
    · simp at hp
      subst hp
      exact hat z
  · intro id hid
    simp only [Bool.and_eq_true, Bool.not_eq_true'] at hid
    simp only [List.map_append, List.mem_append, not_or]
    refine ⟨h.left_ id hid.1, ?_⟩
    simp
    intro e
    subst e
    have := hid.2
    simp [Lit.sameKey] at this
  · intro id hid
    by_cases e : id = x
    · subst e
      exact .inr (by simp)
    · rcases h.has_ id hid with h1 | h1
      · refine .inl ?_
        simp only [h1, Bool.true_and, Bool.not_eq_true']
        exact sameKey_ne (by simpa using e)
      · exact .inr (by simp at h1 ⊢; exact .inl h1)
  · intro id hid
    simp only [List.map_append, List.mem_append] at hid
    rcases hid with hid | hid
    · exact h.in_ id hid
    · simp at hid
      subst hid
      exact has_true_of_atKey hat

set_option maxRecDepth 100000 in
set_option maxHeartbeats 3200000 in
theorem all_any (S R b nr n : Nat) (f : Nat → Value) (D : DataW Unit) (w : World)
    (hmu : w.cell? ⟨S, 0, none⟩ = some (.int .i32 0)) (hfz : w.frozen? ⟨S, 0, none⟩ = false) (hby : w.cell? ⟨S, 11, none⟩ = some (.map (some b))) (hret : w.cell? ⟨S, 13, none⟩ = some (.slice (some ⟨R, 0, none⟩) nr nr))
    (hR : w.rowIs R 25 nr f) (h1 : ∀ i, i < nr → (f i).oneCell' = true) (hn : nr < 100000) (hm : w.ownsMap Yba.prog 26 Rp b n D) (hn2 : n < 100000) (hRS : R ≠ S) (hbS : b ≠ S) :
    Calls Yba.prog 7 #[.pointer (some ⟨S, 0, none⟩)] w fun e w' => ∃ v' ps, e = .returned v' ∧ w'.ownsRow w.heap.size 25 1 v' (nr + ps.length) (ptrs nr f ++ ps.map (fun p => ptr p.2)) ∧ v' ≠ .slice none 0 0 ∧
      Told D (fun _ => false) ps ∧ Below w.heap.size w w' := by
  obtain ⟨i0, hi, hz0, hz1, hz2⟩ := info_parts info25
  have hby1 : (w.setCell ⟨S, 0, none⟩ (.int .i32 1)).cell? ⟨S, 11, none⟩ = some (.map (some b)) := by rw [World.cell?_setCell_other _ _ _ _ (by simp)]; exact hby
  have hret1 : (w.setCell ⟨S, 0, none⟩ (.int .i32 1)).cell? ⟨S, 13, none⟩ = some (.slice (some ⟨R, 0, none⟩) nr nr) := by rw [World.cell?_setCell_other _ _ _ _ (by simp)]; exact hret
  have hR1 : (w.setCell ⟨S, 0, none⟩ (.int .i32 1)).rowIs R 25 nr f := hR.setOther (by simpa using hRS) _
  have hm1 : (w.setCell ⟨S, 0, none⟩ (.int .i32 1)).ownsMap Yba.prog 26 Rp b n D := by
    obtain ⟨es, clock, hb, F, hs, hD⟩ := hm
    exact ⟨es, clock, by rw [Below.heap_setCell _ _ _ _ (by simpa using hbS)]; exact hb, F, hs, hD⟩
  have hmu1 : (w.setCell ⟨S, 0, none⟩ (.int .i32 1)).cell? ⟨S, 0, none⟩ = some (.int .i32 1) := World.cell?_setCell_same _ _ _ hmu
  have hfz1 : (w.setCell ⟨S, 0, none⟩ (.int .i32 1)).frozen? ⟨S, 0, none⟩ = false := by simp [go_sem, hfz]
  have hsz1 : (w.setCell ⟨S, 0, none⟩ (.int .i32 1)).heap.size = w.heap.size := by simp
  go_enter_defers Yba.func7, Yba.ntmps7
  go_wp2_with fail
  refine (MuW.lock_free S 0 _ hmu hfz).mono ?_
  rintro e w1 ⟨rfl, rfl⟩
  have Hb : Hid (∀ wr, Below w.heap.size (w.setCell ⟨S, 0, none⟩ (.int .i32 1)) wr → Below w.heap.size w (wr.setCell ⟨S, 0, none⟩ (.int .i32 0))) := fun wr h => below_back hmu h
  clear hmu hfz hby hret hR hm
  generalize w.setCell ⟨S, 0, none⟩ (.int .i32 1) = W1 at *
  go_wp2_with fail
  refine (clone_any R nr f _ hR1 h1 hn).mono ?_
  rintro e w2 ⟨v0, rfl, hown, hv0, hB2⟩
  have hby2 := cell_later hB2 hby1
  have hm2 : w2.ownsMap Yba.prog 26 Rp b n D := by
    have hl := hm1.lt
    obtain ⟨es, clock, hb, F, hs, hD⟩ := hm1
    exact ⟨es, clock, (hB2.block b hl).trans hb, F, hs, hD⟩
  have hmu2 := cell_later hB2 hmu1
  have hfz2 : w2.frozen? ⟨S, 0, none⟩ = false := (hB2.frozen (p := ⟨S, 0, none⟩) (World.block_lt_of_cell? _ _ hmu1)).trans hfz1
  have hS : S < w.heap.size := by have := World.block_lt_of_cell? _ _ hmu1; simpa [hsz1] using this
  have hbl : b < w.heap.size := by have := hm1.lt; omega
  clear hby1 hret1 hR1 hm1 hmu1 hfz1
  rw [hsz1] at hB2 hown
  go_wp2_with (first
    | (at_range; refine wpList_range_own _ rfl _ 64 rfl 26 25 law26 Yba.underlying64 _ b n _ rfl hm2 ?_; intro w0 hrg0 hg0 hs0)
    | fail)
  go_frame
  have hle0 := hrg0.owns.size_le
  have hB0 : Below w.heap.size W1 w0 := hB2.grown hg0 (by have := hB2.size; omega) (fun k hk => by cases hk)
  have hown0 : w0.ownsRow w.heap.size 25 1 v0 nr (ptrs nr f) := hown.kept hg0 (by cases v0.ownBlock <;> simp)
  have hmu0 : w0.cell? ⟨S, 0, none⟩ = some (.int .i32 1) := hg0.cell hmu2 (by simp)
  have hfz0 : w0.frozen? ⟨S, 0, none⟩ = false := (World.frozen?_of_block (w := w2) (hg0.block S (World.block_lt_of_cell? _ _ hmu2) (by simp))).trans hfz2
  have hr0 : w.heap.size ≤ w2.heap.size := by have := hB2.size; omega
  clear hown hB2 hby2 hm2 hmu2 hfz2 hg0 hs0
  generalize w2.heap.size = r at *
  go_loopw [3] (fun v wr => ∃ (left : Lit → Bool) (cnt : Nat) (ps : List (Int × Nat)), wr.ranges Yba.prog 26 Rp b r n D left cnt ∧ wr.ownsRow w.heap.size 25 1 v (nr + ps.length) (ptrs nr f ++ ps.map (fun p => ptr p.2)) ∧ v ≠ .slice none 0 0 ∧
      Told D left ps ∧ wr.cell? ⟨S, 0, none⟩ = some (.int .i32 1) ∧ wr.frozen? ⟨S, 0, none⟩ = false ∧ Below w.heap.size W1 wr ∧ ps.length + cnt ≤ n)
    (fun _ wr => wr.rangeLeft b r)
  case atStart => exact ⟨_, _, [], hrg0, by simpa using hown0, hv0, told_start D, hmu0, hfz0, hB0, by simpa using hle0⟩
  case round =>
    clear hrg0 hown0 hv0 hmu0 hfz0 hB0 hle0
    obtain ⟨left, cnt, ps, hrg, hown, hv, htold, hmu, hfz, hB, hcnt⟩ := hrel
    go_wp2_with (first
      | (at_next; refine wpList_next_ranges _ rfl _ rfl 26 law26 Rp (Value.int .u32) (fun q : Nat => Value.pointer (some ⟨q, 0, none⟩)) ?k1 ?k2 b r n _ _ _ rfl hrg ?_ ?_)
      | fail)
    case k1 => intro key kl hkey; obtain ⟨x, rfl, _⟩ := Maps.keyOf_int_inv Yba.underlying26 hkey; exact ⟨x, rfl⟩
    case k2 => intro v y hv; obtain ⟨q, rfl, _⟩ := Rp_inv hv; exact ⟨q, rfl⟩
    · intro hc0 hl0
      have hend : Told D (fun _ => false) ps := ⟨htold.nodup, htold.at_, by simp, fun id h => by rcases htold.has_ id h with h1 | h1; (rw [hl0] at h1; cases h1); exact .inr h1, htold.in_⟩
      clear hrg hcnt
      go_wp2
      refine leaves_cons (f := 19) (args := #[.pointer (some ⟨S, 0, none⟩)]) (by simp) (by simp [go_sem]) ?_
      refine (unlock_deferred ⟨S, 0, none⟩ .returning _ hmu hfz).mono ?_
      rintro e u' w'' ⟨rfl, rfl, rfl⟩
      have hfin : (wr.setCell ⟨S, 0, none⟩ (.int .i32 0)).ownsRow w.heap.size 25 1 u3 (nr + ps.length) (ptrs nr f ++ ps.map (fun p => ptr p.2)) := ownsRow_setCell_below hown hS _
      exact ⟨u3, by simp [results, Yba.results7, go_sem], u3, ps, rfl, hfin, hv, hend, Hb.out wr hB⟩
    · intro x q kl y y2 w1 cnt1 hkey hlx hy hat hrg1 hlt hg1 hs1 hen
      obtain ⟨x', ex, rfl, hwx⟩ := Maps.keyOf_int_inv Yba.underlying26 hkey
      cases ex
      obtain ⟨q', eq', ey⟩ := Rp_inv hy
      cases eq'
      cases ey
      have hap := apart hown hrg
      have hown1 := hown.kept hg1 (.inr hap.1)
      have hmu1 : w1.cell? ⟨S, 0, none⟩ = some (.int .i32 1) := hg1.cell hmu (by simp; omega)
      have hfz1 : w1.frozen? ⟨S, 0, none⟩ = false := (World.frozen?_of_block (w := wr) (hg1.block S (World.block_lt_of_cell? _ _ hmu) (by simp; omega))).trans hfz
      have hB1 : Below w.heap.size W1 w1 := hB.grown hg1 (by have := hB.size; omega) (fun k hk => by cases hk; omega)
      have ht1 := told_step htold hlx hat
      have hwB : w.heap.size ≤ w1.heap.size := by have := hB1.size; omega
      have hSl : S < w1.heap.size := by omega
      clear hown hmu hfz hB htold hg1 hat hs1
      go_wp2_with (first
        | (at_builtin; refine wpList_append_own _ rfl (.tmp 27) (.tmp 29) 24 rfl w.heap.size 25 i0 (.pointer none) 1 8 Yba.underlying24 hi hz0 hz1 hz2 rfl (by decide) _ _ _ rfl (hown1.alloc _) ⟨w1.heap.size, 0, none⟩ 1 1 [.pointer (some ⟨q, 0, none⟩)] rfl rfl ?c1 ?c2 ?c3 ?c4 ?c5 ?_)
        | fail)
      case c1 =>
        intro j u hj
        match j, hj with
        | 0, hj => simp at hj; subst hj; simp [Addr.add]
      case c2 => intro u hu; simp at hu; subst hu; rfl
      case c3 => unfold maxLen; omega
      case c4 => omega
      case c5 => simp; omega
      intro v' w3 hown2 hgrow hnil'
      have hap1 := apart (hown1.alloc (.cells #[.pointer (some ⟨q, 0, none⟩)] 25)) (hrg1.alloc (.cells #[.pointer (some ⟨q, 0, none⟩)] 25))
      have hrg3 := (hrg1.alloc (.cells #[.pointer (some ⟨q, 0, none⟩)] 25)).kept hgrow (fun e => hap1.2 e.symm) (fun e => hap1.1 e.symm)
      have hSne : some S ≠ u3.ownBlock := fun e => by have := (hown1.lt S e.symm).1; omega
      have hmu3 : w3.cell? ⟨S, 0, none⟩ = some (.int .i32 1) := hgrow.cell (World.cell?_alloc_past _ _ _ hSl |>.trans hmu1) hSne
      have hfz3 : w3.frozen? ⟨S, 0, none⟩ = false := (World.frozen?_of_block (hgrow.block S (by simp; omega) hSne)).trans ((World.frozen?_of_block (Below.heap_alloc _ _ _ hSl)).trans hfz1)
      have hB3 : Below w.heap.size W1 w3 := (hB1.alloc hwB _).grown hgrow (by simp; omega) (fun k hk => (hown1.lt k hk).1)
      have hv3 : v' ≠ .slice none 0 0 := hnil'
      have hown3 : w3.ownsRow w.heap.size 25 1 v' (nr + (ps ++ [(x, q)]).length) (ptrs nr f ++ (ps ++ [(x, q)]).map (fun p => ptr p.2)) := by simpa [ptr, Nat.add_assoc] using hown2
      clear hown2 hgrow hnil' hmu1 hfz1 hB1 hown1 hap1 hen
      go_wp2
      go_roundw
      case rel => exact ⟨_, cnt1, ps ++ [(x, q)], hrg3, hown3, hv3, ht1, hmu3, hfz3, hB3, by simp; omega⟩
      case measure => rw [hrg3.left_eq, hrg.left_eq]; exact hlt


end AllW
end Go.Proofs.Ybulkcmoc
