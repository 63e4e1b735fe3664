/-
  LawS4423CFresh: (*Policy).Users.
-/
import Derived.Test.YbulkcmoqFreshUsers
namespace Go.Proofs.Ybulkcmoq
namespace FreshW
open Go.Maps Go.Sort Go.RowKit

/-- What is asked of maps.Keys. -/
def Keys19 : Prop := ∀ (mb : Nat) (W : World), Calls Yba.prog 19 #[.map (some mb)] W fun e w' => e = .returned (.func (.func 26) #[] #[.pointer (some ⟨W.heap.size, 0, none⟩)]) ∧ w' = W.alloc (.cells #[.map (some mb)] 45)

/-- What is asked of slices.Sorted, behind maps.Keys. -/
def Sorted18 : Prop := ∀ (b n : Nat) (D : DataW Unit) (W : World), W.ownsMap Yba.prog 9 Rs b n D → Maps.size D ≤ maxLen → Maps.size D * 16 ≤ 140737488355328 →
  Calls Yba.prog 18 #[.func (.func 26) #[] #[.pointer (some ⟨W.heap.size, 0, none⟩)]] (W.alloc (.cells #[.map (some b)] 45)) fun e w' => ∃ (v : Value) (ss : List (List UInt8)), e = .returned v ∧ ss.Perm (strKeys D) ∧
    w'.ownsRow W.heap.size 9 1 v ss.length ((ss.mergeSort (fun x y => decide (x ≤ y))).map encStr) ∧ (v = .slice none 0 0 ↔ ss = []) ∧ Below W.heap.size W w'

theorem info35 : (Yba.prog.info? 35).map (fun i => (i.zero, i.size, i.bytes)) = some (some (.agg #[.string ByteArray.empty, .slice none 0 0]), 2, 40) := by kernel_rfl

theorem make29 (n : Nat) (h : n ≤ 2000) (w : World) : (Instr.makeSlice 29 (.int .i64 0) (.int .i64 ((n : Nat) : Int))).run Yba.prog w = .ok (.slice (some ⟨w.heap.size, 0, none⟩) 0 n) (w.alloc (.cells (madeCells #[.string ByteArray.empty, .slice none 0 0] (n * 2)) 35)) := by
  obtain ⟨i, hi, hz0, hz1, hz2⟩ := info_parts info35
  have := run_make (P := Yba.prog) w 29 35 i _ Yba.underlying29 hi hz0 .i64 .i64 0 ((n : Nat) : Int) (by omega) (by omega) (by rw [hz2]; omega) (by omega)
  rw [hz1] at this
  simpa [Value.cells] using this

theorem addr_add (b o i : Nat) : (⟨b, o, none⟩ : Addr).add i = ⟨b, o + i, none⟩ := by unfold Addr.add; split <;> simp_all

theorem enc_key (e : Ent) : encStr e.key = .string e.nm := by
  unfold Ent.key
  simp [encStr]

set_option maxRecDepth 100000 in
set_option maxHeartbeats 4000000 in
theorem users_any (hS : Sort14) (hK : Keys19) (h18 : Sorted18) {pb rb mb k cap : Nat} {Rn : Nat → ByteArray} {L : List Ent} {w : World} (hp : Pol pb rb mb k cap Rn L w) (hs : (L.map Ent.key).Pairwise (fun a b => decide (a ≤ b) = true)) :
    Calls Yba.prog 11 #[.pointer (some ⟨pb, 0, none⟩)] w fun ev w' => ∃ q v, ev = .returned v ∧ UAt w.heap.size Rn L L.length q v w' ∧ Below w.heap.size w w' := by
  obtain ⟨n, D, hm, hD⟩ := hp.map
  have hfew := hp.few
  have hsz := hD.sz
  have hlen := fun ty => hm.len (t := 45) (e := 47) Yba.underlying45 ty
  rw [hsz] at hlen
  have hmk := make29 L.length (by omega) w
  have c8 := hp.p8
  obtain ⟨w1, hw1⟩ : ∃ w1, w.alloc (.cells (madeCells #[.string ByteArray.empty, .slice none 0 0] (L.length * 2)) 35) = w1 := ⟨_, rfl⟩
  have hB1 : Below w.heap.size w w1 := by rw [← hw1]; exact (Below.refl _ _).alloc (Nat.le_refl _) _
  have hs1 : w.heap.size < w1.heap.size := by rw [← hw1]; simp
  have c81 := cell_on hB1 c8
  have hst : UAt w.heap.size Rn L 0 (fun _ => 0) (.slice (some ⟨w.heap.size, 0, none⟩) 0 L.length) w1 := ⟨by
    rw [← hw1]
    exact World.ownsRow_made w _ _ (Nat.le_refl _) (by unfold maxLen; omega) (by simp [size_madeCells]), fun j hj => by omega⟩
  have hkc := hK mb w1
  have hsc := h18 mb n D w1 (map_on hB1 hm) (by rw [hsz]; unfold maxLen; omega) (by rw [hsz]; omega)
  have Hp := hd hp
  have HS := hd hS
  have HD := hd hD
  have Hs := hd hs
  have Hm := hd hm
  have Hst := hd hst
  have HB1 := hd hB1
  have Hw1 := hd hw1
  have Hkc := hd hkc
  have Hsc := hd hsc
  rw [hw1] at hmk
  clear hp hS hK h18 hD hs hm hst hB1 hw1 hkc hsc
  go_enter Yba.func11, Yba.ntmps11
  go_wp2_with fail
  refine Hkc.out.mono ?_
  rintro e2 w2 ⟨rfl, rfl⟩
  go_wp2_with fail
  refine Hsc.out.mono ?_
  rintro e3 w3 ⟨kv, ss, rfl, hperm, hrow, _, hb3⟩
  have hkeys := sorted_keys (hperm.trans (HD.out.keys Hm.out Yba.underlying9).symm) Hs.out
  have hsl : ss.length = L.length := by rw [(hperm.trans (HD.out.keys Hm.out Yba.underlying9).symm).length_eq]; simp
  rw [hkeys, hsl] at hrow
  obtain ⟨ka, kcap, rfl, hka⟩ : ∃ ka kcap, kv = .slice ka L.length kcap ∧ (0 < L.length → ∃ kb, ka = some ⟨kb, 0, none⟩) := by
    rcases hrow.2 with ⟨h1, h2⟩ | ⟨g, c, cur, h1, _⟩
    · exact ⟨none, 0, by rw [h1, h2], fun h => by omega⟩
    · exact ⟨_, _, h1, fun _ => ⟨g, rfl⟩⟩
  have Hst3 := hd (Hst.out.later hb3)
  have Hrow := hd hrow
  have HB3 := hd (HB1.out.trans (hb3.mono (by omega)))
  have Hka := hd hka
  clear hperm hrow hb3 hkeys hsl Hst HB1 Hkc Hsc hka hlen hmk
  obtain ⟨i0, hi0, hz0, hz1, hz2⟩ := info_parts info35
  go_wp2_with fail
  go_loopw [3, 19] (fun uv iv wr => ∃ (i : Nat) (q : Nat → Nat), i ≤ L.length ∧ iv = .int .i64 i ∧ UAt w.heap.size Rn L i q uv wr ∧ wr.ownsRow w1.heap.size 9 1 (.slice ka L.length kcap) L.length ((L.map Ent.key).map encStr) ∧ Below w.heap.size w wr) (fun _ i _ => L.length - (intOf i).toNat)
  case atStart => exact ⟨0, _, Nat.zero_le _, rfl, Hst3.out, Hrow.out, HB3.out⟩
  case round =>
    clear Hst3 Hrow HB3
    obtain ⟨i, q, hi, rfl, hU, hrow, hB⟩ := hrel
    have HU := hd hU
    have Hrow := hd hrow
    have HB := hd hB
    by_cases hil : i < L.length
    · obtain ⟨kb, rfl⟩ := Hka.out (by omega)
      have he : L[i]! = L[i] := getElem!_pos L i hil
      have hmem : L[i]! ∈ L := by rw [he]; exact List.getElem_mem hil
      have c1 : wr.cell? ⟨kb, i, none⟩ = some (.string (L[i]!).nm) := by
        have h1 := hrow.cells (g := kb) rfl i (.string (L[i]!).nm) (by rw [he, List.getElem?_map, List.getElem?_map, List.getElem?_eq_getElem hil]; simp [enc_key])
        rwa [addr_add, Nat.zero_add] at h1
      have hP := Hp.out.later hB
      have c8' := hP.p8
      have hlook := (hP.look hmem).2
      have hcall := roleNames_any HS.out hP (hP.slots _ hmem)
      have Hcall := hd hcall
      have Hown := hd hU.own
      have hown0 := hU.own
      have HP := hd hP
      obtain ⟨nm, hnm⟩ : ∃ nm, (L[i]!).nm = nm := ⟨_, rfl⟩
      obtain ⟨sl, hsl⟩ : ∃ sl, (L[i]!).sl = sl := ⟨_, rfl⟩
      obtain ⟨sv, hsv⟩ : ∃ sv, (L[i]!).sv = sv := ⟨_, rfl⟩
      rw [hnm] at c1
      rw [hnm, hsv] at hlook
      rw [hsv, hsl] at Hcall
      have Hnm := hd hnm
      have Hsl := hd hsl
      clear hU hrow hB hP hcall he hmem hnm hsl hsv
      go_wp2_with fail
      refine Hcall.out.mono ?_
      rintro e4 w4 ⟨rfl, hrow4, hb4⟩
      obtain ⟨xs, hxs⟩ : ∃ xs, ucells i (fun j => .string (L[j]!).nm) (fun j => .slice (some ⟨q j, 0, none⟩) (L[j]!).sl.length (L[j]!).sl.length) = xs := ⟨_, rfl⟩
      have hown := own_later hown0 hb4
      rw [hxs] at hown
      have Hxs := hd hxs
      have Hrow4 := hd hrow4
      have Hb4 := hd hb4
      clear hown0 hrow4 hb4 Hcall hxs Hown
      go_wp2_with (first | (at_builtin; refine wpList_append_own _ rfl (.tmp 23) (.tmp 34) 29 rfl w.heap.size 35 i0 (.agg #[.string ByteArray.empty, .slice none 0 0]) 2 40 Yba.underlying29 hi0 hz0 hz1 hz2 rfl (by decide) _ _ _ rfl (hown.alloc _) ⟨w4.heap.size, 0, none⟩ 1 1 [.string nm, .slice (some ⟨wr.heap.size, 0, none⟩) sl.length sl.length] rfl rfl ?d1 ?d2 ?d3 ?d4 ?d5 ?_) | fail)
      case d1 =>
        intro j u hu
        rw [addr_add, Nat.zero_add, World.cell?_alloc_at (hn := rfl)]
        match j, hu with
        | 0, hu => simpa using hu
        | 1, hu => simpa using hu
        | j + 2, hu => simp at hu
      case d2 => intro u hu; simp at hu; rcases hu with rfl | rfl <;> rfl
      case d3 => unfold maxLen; omega
      case d4 => omega
      case d5 =>
        have h1 := HB.out.size
        have h2 := Hb4.out.size
        simp
        omega
      intro v' w5 hown' hgrow _
      have hrelU := HU.out.step (w1 := w4) (v' := v') (w3 := w5) HB.out.size Hb4.out (by rw [Hsl.out]; exact Hrow4.out) ((Below.refl _ _).alloc (Nat.le_refl _) _) hgrow (by rw [Hsl.out, Hnm.out, Hxs.out]; exact hown')
      have hrow5 : w5.ownsRow w1.heap.size 9 1 (.slice (some ⟨kb, 0, none⟩) L.length kcap) L.length ((L.map Ent.key).map encStr) :=
        ((own_later Hrow.out Hb4.out).alloc _).kept hgrow (own_ne_own hown (own_later Hrow.out Hb4.out) (by decide))
      have hB5 : Below w.heap.size w w5 :=
        ((HB.out.trans (Hb4.out.mono HB.out.size)).alloc (Nat.le_trans HB.out.size Hb4.out.size) _).grown hgrow (by have h1 := HB.out.size; have h2 := Hb4.out.size; simp; omega) (fun k hk => (hown.lt k hk).1)
      have HrelU := hd hrelU
      have Hrow5 := hd hrow5
      have HB5 := hd hB5
      clear hrelU hrow5 hB5 hown' hgrow hown Hrow Hrow4 Hb4 HB HU
      go_wp2_with fail
      go_roundw
      case rel => exact ⟨i + 1, _, by omega, by go_num, HrelU.out, Hrow5.out, HB5.out⟩
      case measure => simp [intOf]; omega
    · have hin : i = L.length := by omega
      rw [hin] at hU
      have HU2 := hd hU
      clear hU hrow hB HU Hrow hin
      go_wp2_with fail
      go_ret
      exact ⟨_, _, rfl, HU2.out, HB.out⟩
end FreshW
end Go.Proofs.Ybulkcmoq
