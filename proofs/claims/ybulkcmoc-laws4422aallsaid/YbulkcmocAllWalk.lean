import Derived.Test.YbulkcmocAllMid
import Derived.Deep.QuietTactic
import Derived.BigQuiet
import Derived.RegionTactic
import Derived.BigRegion
namespace Go.Proofs.Ybulkcmoc
namespace AllW
open Go.RowKit Go.Maps

theorem info4 : (Yba.prog.info? 4).map (fun i => (i.zero, i.size, i.bytes)) = some (some (.bool false), 1, 1) := by kernel_rfl

/-- The first loop's round. -/
theorem ret_step {w wr : World} {B nr k : Nat} {Z : Array Value} (hrow : wr.rowIs B 25 nr (fun j => if j < k then ptr (B + 1 + j) else .pointer none)) (hsz : wr.heap.size = B + 1 + k) (hB : Below B w wr) :
    ((wr.setCell ⟨B, k, none⟩ (.pointer (some ⟨wr.heap.size, 0, none⟩))).alloc (.cells Z 62)).rowIs B 25 nr (fun j => if j < k + 1 then ptr (B + 1 + j) else .pointer none) ∧
    Hid (((wr.setCell ⟨B, k, none⟩ (.pointer (some ⟨wr.heap.size, 0, none⟩))).alloc (.cells Z 62)).heap.size = B + 1 + (k + 1)) ∧
    Below B w ((wr.setCell ⟨B, k, none⟩ (.pointer (some ⟨wr.heap.size, 0, none⟩))).alloc (.cells Z 62)) := by
  refine ⟨?_, ?_, ?_⟩
  · refine ((hrow.set k (.pointer (some ⟨wr.heap.size, 0, none⟩))).alloc _).congr fun j _ => ?_
    by_cases e : j = k
    · subst e; simp [ptr, hsz]
    · simp only [e, if_false]
      by_cases e1 : j < k
      · simp [e1, show j < k + 1 from by omega]
      · simp [e1, show ¬ j < k + 1 from by omega]
  · show _ = _
    simp [hsz]; omega
  · exact (hB.setCell (Nat.le_refl _) _).alloc (by simp; omega) _

/-- The memory ahead of the second loop. -/
def bigW (wr : World) (b R nr m : Nat) : World :=
  ((((wr.alloc (Obj.map #[] 0)).alloc (Obj.map #[] 0)).alloc
    (Obj.cells #[Value.int IntKind.i32 0, Value.int IntKind.u32 0, Value.int IntKind.u32 0, Value.slice none 0 0, Value.int IntKind.u64 0, Value.nilFunc, Value.nilFunc, Value.nilFunc, Value.nilFunc, Value.nilFunc,
      Value.nilFunc, Value.map (some b), Value.map (some (b + 1)), Value.slice (some ⟨R, 0, none⟩) nr nr] 67)).alloc
    (Obj.cells (madeCells #[Value.pointer none] m) 25)).alloc (Obj.cells (madeCells #[Value.bool false] m) 4)

theorem heap_at (w : World) (o : Obj) (k : Nat) (h : k = w.heap.size) : (w.alloc o).heap[k]? = some o := by
  subst h
  show (w.heap.push o)[w.heap.size]? = _
  simp

theorem heap_past (w : World) (o o' : Obj) (k : Nat) (h : w.heap[k]? = some o') : (w.alloc o).heap[k]? = some o' := by
  rw [Below.heap_alloc _ _ _ (Array.getElem?_eq_some_iff.1 h).1]; exact h

theorem mid_start {w wr : World} {B R nr m b : Nat} {ids : Nat → Int} {f : Nat → Nat} (hB : Below B w wr) (hret : wr.rowIs R 25 nr (fun j => ptr (f j))) (hb : wr.heap.size = b) (hR : R < b) (hBR : B ≤ R) :
    Mid w B ids f R nr m b 0 0 0 0 (bigW wr b R nr m) := by
  have h2 : (bigW wr b R nr m).heap[b + 1 + 1]? = some (Obj.cells #[Value.int IntKind.i32 0, Value.int IntKind.u32 0, Value.int IntKind.u32 0, Value.slice none 0 0, Value.int IntKind.u64 0, Value.nilFunc, Value.nilFunc, Value.nilFunc, Value.nilFunc, Value.nilFunc,
      Value.nilFunc, Value.map (some b), Value.map (some (b + 1)), Value.slice (some ⟨R, 0, none⟩) nr nr] 67) := by
    iterate 2 (refine heap_past _ _ _ _ ?_)
    exact heap_at _ _ _ (by simp [hb])
  refine ⟨hR, hBR, ((((hret.alloc _).alloc _).alloc _).alloc _).alloc _, ?_, ?_, ?_, ?_, ?_, ?_, ?_, ?_, ?_, ?_⟩
  · have := (((((World.ownsMap_made wr Yba.prog 26 Rp)).alloc (Obj.map #[] 0)).alloc (Obj.cells #[Value.int IntKind.i32 0, Value.int IntKind.u32 0, Value.int IntKind.u32 0, Value.slice none 0 0, Value.int IntKind.u64 0, Value.nilFunc, Value.nilFunc, Value.nilFunc, Value.nilFunc, Value.nilFunc,
      Value.nilFunc, Value.map (some b), Value.map (some (b + 1)), Value.slice (some ⟨R, 0, none⟩) nr nr] 67)).alloc (Obj.cells (madeCells #[Value.pointer none] m) 25)).alloc (Obj.cells (madeCells #[Value.bool false] m) 4)
    rw [hb] at this
    exact this
  · simp [World.cell?, h2]
  · simp [World.frozen?, h2]
  · simp [World.cell?, h2]
  · simp [World.cell?, h2]
  · have := (World.rowIs_made (((wr.alloc (Obj.map #[] 0)).alloc (Obj.map #[] 0)).alloc (Obj.cells #[Value.int IntKind.i32 0, Value.int IntKind.u32 0, Value.int IntKind.u32 0, Value.slice none 0 0, Value.int IntKind.u64 0, Value.nilFunc, Value.nilFunc, Value.nilFunc, Value.nilFunc, Value.nilFunc,
      Value.nilFunc, Value.map (some b), Value.map (some (b + 1)), Value.slice (some ⟨R, 0, none⟩) nr nr] 67)) (.pointer none) m 25).alloc (Obj.cells (madeCells #[Value.bool false] m) 4)
    simp only [World.size_alloc, hb] at this
    exact this.congr fun j _ => by simp
  · have := World.rowIs_made ((((wr.alloc (Obj.map #[] 0)).alloc (Obj.map #[] 0)).alloc (Obj.cells #[Value.int IntKind.i32 0, Value.int IntKind.u32 0, Value.int IntKind.u32 0, Value.slice none 0 0, Value.int IntKind.u64 0, Value.nilFunc, Value.nilFunc, Value.nilFunc, Value.nilFunc, Value.nilFunc,
      Value.nilFunc, Value.map (some b), Value.map (some (b + 1)), Value.slice (some ⟨R, 0, none⟩) nr nr] 67)).alloc (Obj.cells (madeCells #[Value.pointer none] m) 25)) (.bool false) m 4
    simp only [World.size_alloc, hb] at this
    exact this.congr fun j _ => by simp
  · intro j hj; omega
  · simp [bigW, hb]
  · unfold bigW
    repeat (refine Below.alloc ?_ (by first | omega | (simp; omega)) _)
    exact hB

theorem mid_bound {w : World} {B : Nat} {ids : Nat → Int} {f : Nat → Nat} {R nr m b iM iD iL iC : Nat} {wr : World} (h : Mid w B ids f R nr m b iM iD iL iC wr) {q o : Nat} {v : Value} (hB : B = w.heap.size) (hc : w.cell? ⟨q, o, none⟩ = some v) : wr.cell? ⟨q, o, none⟩ = some v := by
  subst hB
  exact cell_later h.below hc

/-- The memory behind the call of 'all'. -/
structure Fin (ids : Nat → Int) (f : Nat → Nat) (R nr m b g : Nat) (idx : List Nat) (W : World) : Prop where
  ret : W.rowIs R 25 nr (fun j => ptr (f j))
  map : W.ownsMap Yba.prog 26 Rp b m (Dm ids (b + 1 + 1 + 1 + 1 + 1) m)
  by_ : W.cell? ⟨b + 1 + 1, 11, none⟩ = some (.map (some b))
  re : W.cell? ⟨b + 1 + 1, 13, none⟩ = some (.slice (some ⟨R, 0, none⟩) nr nr)
  mine : W.rowIs (b + 1 + 1 + 1) 25 m (fun j => ptr (b + 1 + 1 + 1 + 1 + 1 + j))
  last : W.rowIs (b + 1 + 1 + 1 + 1) 4 m (fun j => .bool (isLast ids m j))
  cl : ∀ j, j < m → ∃ c, W.heap[b + 1 + 1 + 1 + 1 + 1 + j]? = some (.cells c 62 (0, 0))
  got1 : ∀ j, j < nr → W.cell? ⟨g, j, none⟩ = some (ptr (f j))
  got2 : ∀ t, (h : t < idx.length) → W.cell? ⟨g, nr + t, none⟩ = some (ptr (b + 1 + 1 + 1 + 1 + 1 + idx[t]))

theorem Fin.later {ids : Nat → Int} {f : Nat → Nat} {R nr m b g : Nat} {idx : List Nat} {W W' : World} (h : Fin ids f R nr m b g idx W) (hb : Below W.heap.size W W') : Fin ids f R nr m b g idx W' :=
  ⟨h.ret.of_block (hb.block _ h.ret.lt), owns_of_block h.map (hb.block _ h.map.lt), cell_later hb h.by_, cell_later hb h.re, h.mine.of_block (hb.block _ h.mine.lt), h.last.of_block (hb.block _ h.last.lt),
    fun j hj => by obtain ⟨c, hc⟩ := h.cl j hj; exact ⟨c, (hb.block _ (Array.getElem?_eq_some_iff.1 hc).1).trans hc⟩, fun j hj => cell_later hb (h.got1 j hj), fun t ht => cell_later hb (h.got2 t ht)⟩

theorem fin_start {w : World} {B : Nat} {ids : Nat → Int} {f : Nat → Nat} {R nr m b : Nat} {wr W : World} {idx : List Nat} {g cap : Nat} (h : Mid w B ids f R nr m b m m m m wr) (hb : Below wr.heap.size wr W)
    (hown : W.ownsRow wr.heap.size 25 1 (.slice (some ⟨g, 0, none⟩) (nr + idx.length) cap) (nr + idx.length) (ptrs nr (fun j => ptr (f j)) ++ idx.map (fun J => ptr (b + 1 + 1 + 1 + 1 + 1 + J)))) : Fin ids f R nr m b g idx W := by
  have hcg : ∀ t u, t < nr + idx.length → (ptrs nr (fun j => ptr (f j)) ++ idx.map (fun J => ptr (b + 1 + 1 + 1 + 1 + 1 + J)))[t]? = some u → W.cell? ⟨g, t, none⟩ = some u := by
    intro t u ht hu
    rcases hown.2 with ⟨hv, _⟩ | ⟨g', cap', cur, hv, _, hcur, _, _, _, hts⟩
    · cases hv
    · cases hv
      rw [← hts, List.getElem?_take_of_lt (by omega)] at hu
      simp [World.cell?, hcur]
      simpa using hu
  refine ⟨h.ret.of_block (hb.block _ h.ret.lt), owns_of_block h.map (hb.block _ h.map.lt), cell_later hb h.by_, cell_later hb h.re, (h.mine.congr fun j hj => by simp [hj]).of_block (hb.block _ h.mine.lt),
    (h.last.congr fun j hj => by simp [hj]).of_block (hb.block _ h.last.lt), fun j hj => by obtain ⟨c, hc⟩ := h.cl j hj; exact ⟨c, (hb.block _ (Array.getElem?_eq_some_iff.1 hc).1).trans hc⟩, ?_, ?_⟩
  · intro j hj
    refine hcg j _ (by omega) ?_
    rw [List.getElem?_append_left (by simp [ptrs, hj])]
    simp [ptrs, hj]
  · intro t ht
    refine hcg (nr + t) _ (by omega) ?_
    rw [List.getElem?_append_right (by simp [ptrs])]
    simp [ptrs, ht]

/-- A new Client's cells: whatever they are. -/
theorem zero62 : ∃ Z : Array Value, ∀ w, (zeroValue 62).run Yba.prog w = .ok (.agg Z) w := by
  have h : ((Yba.prog.info? 62).bind (fun i => i.zero)).map (fun v => match v with | .agg _ => true | _ => false) = some true := by kernel_rfl
  obtain ⟨v, hv, hm⟩ := Option.map_eq_some_iff.1 h
  obtain ⟨i, hi, hz⟩ := Option.bind_eq_some_iff.1 hv
  cases v with
  | agg Z => exact ⟨Z, fun w => by simp [zeroValue, typeInfo, hi, hz]⟩
  | _ => cases hm

set_option maxRecDepth 100000 in
set_option maxHeartbeats 4000000 in
theorem law_any (a0 : Int) (a1 : Option Addr) (len1 cap1 : Nat) (ids : Nat → Int) (w : World) (h0 : 0 ≤ a0) (h1 : a0 ≤ 65535)
    (hids : ∀ i, i < len1 → ∃ b off, a1 = some ⟨b, off, none⟩ ∧ ∀ j, j < len1 → w.cell? ⟨b, off + j, none⟩ = some (.int .u32 (ids j))) (hwf : ∀ i, i < len1 → (Lit.int .u32 (ids i)).wf = true) :
    Calls Yba.prog 3 #[.int .u16 a0, .slice a1 len1 cap1] w fun e w' => e = .returned (.bool true) ∧ Below w.heap.size w w' := by
  by_cases g1 : (1024 : Int) < (len1 : Int)
  · go_enter Yba.func3, Yba.ntmps3
    go_wp2
    go_ret
    exact ⟨rfl, Below.refl _ _⟩
  have hmk := fun (n : Nat) (h : n ≤ 2000) => run_make_row' (P := Yba.prog) 24 25 (.pointer none) 8 Yba.underlying24 info25 rfl .i64 .i64 n (by omega) (by omega)
  have hmk4 := fun (n : Nat) (h : n ≤ 2000) => run_make_row' (P := Yba.prog) 68 4 (.bool false) 1 Yba.underlying68 info4 rfl .i64 .i64 n (by omega) (by omega)
  have hmm := @run_makeMap Yba.prog
  obtain ⟨nr, hnr⟩ : ∃ nr : Nat, a0 % 300 = (nr : Int) := ⟨(a0 % 300).toNat, by omega⟩
  have hnr2 : nr < 300 := by omega
  obtain ⟨Z, hZ⟩ := zero62
  have hmkR := hmk nr (by omega)
  have hmkM := hmk len1 (by omega)
  have hmkL := hmk4 len1 (by omega)
  clear hmk hmk4
  have Hids : Hid _ := hids
  clear hids
  go_enter Yba.func3, Yba.ntmps3
  go_wp2_with fail
  go_loopw [33] (fun i wr => ∃ k : Nat, k ≤ nr ∧ i = .int .i64 k ∧ wr.rowIs w.heap.size 25 nr (fun j => if j < k then ptr (w.heap.size + 1 + j) else .pointer none) ∧ Hid (wr.heap.size = w.heap.size + 1 + k) ∧ Below w.heap.size w wr)
    (fun i _ => nr - (intOf i).toNat)
  case atStart => exact ⟨0, Nat.zero_le _, rfl, by simpa using World.rowIs_made w (.pointer none) nr 25, by show _ = _; simp, (Below.refl _ _).alloc (Nat.le_refl _) _⟩
  case round =>
    obtain ⟨k, hk, rfl, hrow, hsz, hB⟩ := hrel
    by_cases hlt : k < nr
    · have hfz := hrow.frozen k
      have hcl := hrow.cell hlt
      simp only [Nat.lt_irrefl, if_false] at hcl
      have hrs := hrow.lt
      have hst := ret_step (Z := Z) hrow hsz.out hB
      have Hst : Hid _ := hst
      clear hst hB hsz hrow
      go_wp2_with fail
      go_roundw
      case rel => exact ⟨k + 1, by omega, by go_num, Hst.out.1, Hst.out.2.1, Hst.out.2.2⟩
      case measure => simp [intOf]; omega
    · have hkn : k = nr := by omega
      subst hkn
      have hbB : w.heap.size < wr.heap.size := by have := hsz.out; omega
      have hret : wr.rowIs w.heap.size 25 k (fun j => ptr (w.heap.size + 1 + j)) := hrow.congr fun j hj => by simp [hj]
      clear hsz hrow hmkR
      obtain ⟨b, hb⟩ : ∃ b, wr.heap.size = b := ⟨_, rfl⟩
      have Hst : Hid (Mid w w.heap.size ids (fun j => w.heap.size + 1 + j) w.heap.size k len1 b 0 0 0 0 (bigW wr b w.heap.size k len1)) := mid_start hB hret hb (by omega) (Nat.le_refl _)
      clear hret hB hbB
      go_wp2_with fail
      clear hmm hmkM hb
      go_loopw [11, 58] (fun wn i wx => ∃ j : Nat, j ≤ len1 ∧ i = .int .i64 j ∧ wn = .int .i64 (cnt ids len1 j) ∧ Mid w w.heap.size ids (fun j => w.heap.size + 1 + j) w.heap.size k len1 b j j j j wx)
        (fun _ i _ => len1 - (intOf i).toNat)
      case atStart => exact ⟨0, Nat.zero_le _, rfl, rfl, Hst.out⟩
      case round =>
        clear Hst
        obtain ⟨i, hi, rfl, rfl, hM⟩ := hrel
        by_cases hlt : i < len1
        · obtain ⟨bb, off, rfl, hc⟩ := Hids.out i hlt
          have hcx := mid_bound hM rfl (hc i hlt)
          have hmc := hM.mine.cell hlt
          have hmf := hM.mine.frozen i
          have hml := hM.mine.lt
          simp only [Nat.lt_irrefl, if_false] at hmc
          have hm2 := (hM.setMine wr.heap.size hM.size).alloc Z
          have Hm2 : Hid _ := hm2
          have Hc : Hid _ := hc
          clear hm2 hc hM
          go_wp2_with fail
          generalize (wr.setCell ⟨b + 1 + 1 + 1, i, none⟩ (Value.pointer (some ⟨wr.heap.size, 0, none⟩))).alloc (Obj.cells Z 62) = W2 at Hm2 ⊢
          clear hcx hmc hmf hml
          have hM2 := Hm2.out
          have hby := hM2.by_
          have hmc := hM2.mine.cell hlt
          rw [if_pos (by omega)] at hmc
          unfold ptr at hmc
          obtain ⟨w3, hrun, hown3, hturn⟩ := (hM2.map.drew).store law26 Yba.underlying64 (by unfold maxLen; omega) (keyOf_int_mk Yba.underlying26 (hwf i hlt)) (Rp_ptr (b + 1 + 1 + 1 + 1 + 1 + i))
          have hM3 : Mid w w.heap.size ids (fun j => w.heap.size + 1 + j) w.heap.size k len1 b (i + 1) (i + 1) i (i + 1) w3 := by
            have hs3 : w3.heap.size = W2.heap.size := by
              obtain ⟨es, clock, es', clock', _, rfl⟩ := hturn
              simp [ChangeMaps.setBlock]
            exact hM2.put hown3 (have g := hturn.grown; ⟨g.os, g.tape, g.output, g.size, g.block⟩) hs3
          have Hm3 : Hid _ := hM3
          clear hM2 hM3 hown3 hturn Hm2
          go_region
          go_wp2_with fail
          clear hby hmc hrun
          go_loop [14, 15] (fun lst jv => ∃ j : Nat, i + 1 ≤ j ∧ j ≤ len1 ∧ jv = .int .i64 j ∧ lst = .bool true ∧ Hid (∀ l, i < l → l < j → ids l ≠ ids i)) (fun _ jv => len1 - (intOf jv).toNat)
          case atStart => exact ⟨i + 1, Nat.le_refl _, by omega, by go_num, rfl, fun l h1 h2 => by omega⟩
          case round =>
            obtain ⟨j, hj1, hj2, rfl, rfl, hno⟩ := hrel
            by_cases hjl : j < len1
            · have hcj := mid_bound Hm3.out rfl (Hc.out j hjl)
              by_cases heq : ids j = ids i
              · have hbq : (ids j == ids i) = true := by simp [heq]
                have hil := isLast_false hjl (by omega) heq
                have hlc := Hm3.out.last.cell hlt
                have hlf := Hm3.out.last.frozen i
                have Hm4 : Hid _ := Hm3.out.setLast false hil.symm
                have hct := cnt_succ ids len1 i
                rw [hil] at hct
                have Hct : Hid _ := hct
                have Hx : Hid _ := heq
                clear heq hct hil
                go_wp2_with fail
                go_roundw
                case rel => exact ⟨i + 1, by omega, by go_num, by rw [Hct.out]; go_num, Hm4.out⟩
                case measure => simp [intOf]; omega
              · have hbq : (ids j == ids i) = false := by simp [heq]
                have Hno : Hid (∀ l, i < l → l < j + 1 → ids l ≠ ids i) := fun l h1 h2 => by
                  by_cases e : l = j
                  · subst e; exact heq
                  · exact hno.out l h1 (by omega)
                clear heq
                go_wp2_with fail
                go_round
                case rel => exact ⟨j + 1, by omega, by omega, by go_num, rfl, Hno⟩
                case measure => simp [intOf]; omega
            · have hil : isLast ids len1 i = true := isLast_true.2 fun l h1 h2 => hno.out l h2 (by omega)
              have hlc := Hm3.out.last.cell hlt
              have hlf := Hm3.out.last.frozen i
              have Hm4 : Hid _ := Hm3.out.setLast true hil.symm
              have hct := cnt_succ ids len1 i
              rw [hil] at hct
              have Hct : Hid _ := hct
              have hcl := cnt_le ids len1 i
              clear hct hil
              go_wp2_with fail
              go_roundw
              case rel => exact ⟨i + 1, by omega, by go_num, by rw [Hct.out]; go_num, Hm4.out⟩
              case measure => simp [intOf]; omega
        · have hin : i = len1 := by omega
          subst hin
          have hL := hM.last
          go_wp2_with fail
          refine (all_any (b + 1 + 1) w.heap.size b k i (fun j => ptr (w.heap.size + 1 + j)) (Dm ids (b + 1 + 1 + 1 + 1 + 1) i) wr hM.mu hM.fz hM.by_ hM.re hM.ret (fun _ _ => rfl) (by omega) hM.map (by omega) (by have := hM.rb; omega) (by omega)).mono ?_
          rintro e w4 ⟨v4, ps, rfl, hown4, hv4, htold, hB4⟩
          obtain ⟨idx, hx1, hx2, hx3, hx4, hx5, hx6⟩ := plain_law htold (hM.map.entries law26)
          obtain ⟨g, cap, hv, hcap, hcm⟩ : ∃ g cap, v4 = .slice (some ⟨g, 0, none⟩) (k + idx.length) cap ∧ k + idx.length ≤ cap ∧ cap ≤ maxLen := by
            rcases hown4.2 with ⟨h1, _⟩ | ⟨g, cap, cur, h1, _, _, h2, h3, _⟩
            · exact absurd h1 hv4
            · exact ⟨g, cap, by rw [h1, hx5], by omega, h3⟩
          rw [hx1, hx5, hv] at hown4
          have hF := fin_start hM hB4 hown4
          have hlen := (hF.map).len Yba.underlying64 3
          rw [hx6] at hlen
          have hBw : Below w.heap.size w w4 := hM.below.trans (hB4.mono hM.below.size)
          rw [hv, ← hx4]
          have hn1 : idx.length ≤ 1024 := by have := cnt_le ids i i; omega
          have Hx : Hid _ := And.intro hx2 hx3
          have hby := hF.by_
          have hre := hF.re
          clear hown4 hv hv4 htold hx1 hx2 hx3 hx4 hx5 hx6 hB4 hM hL
          go_wp2_with fail
          go_loopw [17] (fun jv wx => ∃ j q : Nat, j ≤ k ∧ jv = .int .i64 j ∧ wx = w4.drewN q) (fun jv _ => k - (intOf jv).toNat)
          case atStart => exact ⟨0, 0, Nat.zero_le _, rfl, rfl⟩
          case round =>
            obtain ⟨j, q, hj, rfl, rfl⟩ := hrel
            by_cases hjk : j < k
            · have hg1 := hF.got1 j hjk
              have hr1 := hF.ret.cell hjk
              unfold ptr at hg1 hr1
              have hns := neq_same (w.heap.size + 1 + j)
              go_wp2_with fail
              go_quiet (fail)
              go_wp2_with fail
              go_roundw
              case rel => exact ⟨j + 1, _, by omega, by go_num, rfl⟩
              case measure => simp [intOf]; omega
            · have hjk' : j = k := by omega
              subst hjk'
              clear hre hby hlen
              by_cases hn0 : idx = []
              · subst hn0
                go_wp2_with fail
                all_goals
                  go_loopw [158] (fun tv wx => tv = .int .i64 0 ∧ Below w.heap.size w wx) (fun _ _ => 0)
                  case atStart => exact ⟨rfl, (below_drewN hBw _).alloc hBw.size _⟩
                  case round =>
                    obtain ⟨rfl, hBx⟩ := hrel
                    go_wp2_with fail
                    go_ret
                    exact ⟨rfl, hBx⟩
              · have hnp : 0 < idx.length := List.length_pos_iff.2 hn0
                have hjc : ¬ j = cap := by omega
                have hjc2 : j < cap := by omega
                have HF : Hid _ := hF
                clear hF hn0
                go_wp2_with fail
                go_loopw [158] (fun tv wx => ∃ t : Nat, t ≤ idx.length ∧ tv = .int .i64 t ∧ wx.rowIs w4.heap.size 4 i (fun J => .bool (decide (J ∈ idx.take t))) ∧ Below w4.heap.size w4 wx) (fun tv _ => idx.length - (intOf tv).toNat)
                case atStart => exact ⟨0, Nat.zero_le _, rfl, by simpa using World.rowIs_made (w4.drewN q) (.bool false) i 4, (below_drewN (Below.refl _ _) _).alloc (Nat.le_refl _) _⟩
                case round =>
                  obtain ⟨t, ht, rfl, hseen, hBx⟩ := hrel
                  by_cases htl : t < idx.length
                  · have hFx := HF.out.later hBx
                    have hc := hFx.got2 t htl
                    unfold ptr at hc
                    obtain ⟨hJm, hJl⟩ := Hx.out.2 idx[t] (List.getElem_mem htl)
                    have hJn : idx[t] ∉ idx.take t := by
                      intro hin
                      obtain ⟨s, hs1, hs2⟩ := List.getElem_of_mem hin
                      have hst : s < t := by simp at hs1; omega
                      rw [List.getElem_take] at hs2
                      exact (List.pairwise_iff_getElem.1 Hx.out.1 s t (by omega) htl hst) hs2
                    obtain ⟨J, hJ⟩ : ∃ J, idx[t] = J := ⟨_, rfl⟩
                    rw [hJ] at hc hJm hJl hJn
                    have HJ : Hid _ := hJ
                    have Hn : Hid _ := hJn
                    have HFx : Hid _ := hFx
                    have hll := hFx.last.cell hJm
                    rw [hJl] at hll
                    have hsc := hseen.cell hJm
                    have hsd : decide (J ∈ idx.take t) = false := by simpa using hJn
                    rw [hsd] at hsc
                    have hsf := hseen.frozen J
                    clear hJ hJn hFx hJl hsd
                    go_wp2_with fail
                    go_loop [21, 164] (fun kv sv => ∃ s : Nat, s ≤ J ∧ sv = .int .i64 s ∧ kv = .int .i64 (-1)) (fun _ sv => i - (intOf sv).toNat)
                    case atStart => exact ⟨0, Nat.zero_le _, rfl, rfl⟩
                    case round =>
                      obtain ⟨s, hs, rfl, rfl⟩ := hrel
                      have hsm : s < i := by omega
                      have hmn := HFx.out.mine.cell hsm
                      unfold ptr at hmn
                      by_cases hsJ : s = J
                      · subst hsJ
                        have hes := eql_same (b + 1 + 1 + 1 + 1 + 1 + s) wr
                        have hs1 : Hid ((wr.setCell ⟨w4.heap.size, s, none⟩ (.bool true)).rowIs w4.heap.size 4 i (fun J => .bool (decide (J ∈ idx.take (t + 1))))) := by
                          refine (hseen.set s (.bool true)).congr fun J' _ => ?_
                          rw [List.take_succ_eq_append_getElem htl, HJ.out]
                          by_cases e : J' = s
                          · simp [e]
                          · simp [e]
                        have hs2 : Hid (Below w4.heap.size w4 (wr.setCell ⟨w4.heap.size, s, none⟩ (.bool true))) := hBx.setCell (Nat.le_refl _) _
                        clear hseen hBx
                        go_wp2_with fail
                        go_roundw
                        case rel => exact ⟨t + 1, by omega, by go_num, hs1.out, hs2.out⟩
                        case measure => simp [intOf]; omega
                      · obtain ⟨c1, hc1⟩ := HFx.out.cl s hsm
                        obtain ⟨c2, hc2⟩ := HFx.out.cl J hJm
                        have heo := eql_other _ _ wr c1 c2 hc1 hc2 (by omega)
                        clear hc1 hc2
                        go_wp2_with fail
                        go_round
                        case rel => exact ⟨s + 1, by omega, by go_num, rfl⟩
                        case measure => simp [intOf]; omega
                  · go_wp2_with fail
                    go_ret
                    exact ⟨rfl, hBw.trans (hBx.mono hBw.size)⟩
end AllW
end Go.Proofs.Ybulkcmoc
