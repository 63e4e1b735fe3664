/-
  LawS4423CFresh: the law's walk.
-/
import Derived.Test.YbulkcmoqFreshLaw
namespace Go.Proofs.Ybulkcmoq
namespace FreshW
open Go.Maps Go.Sort Go.RowKit

/-- The first list, its names' rows overwritten or not. -/
structure Ov (B : Nat) (L : List Ent) (q : Nat → Nat) (v : Value) (w : World) : Prop where
  own : w.ownsRow B 35 2 v L.length (ucells L.length (fun j => .string (L[j]!).nm) (fun j => .slice (some ⟨q j, 0, none⟩) (L[j]!).sl.length (L[j]!).sl.length))
  row : ∀ j, j < L.length → B ≤ q j ∧ ∃ f, w.rowIs (q j) 9 (L[j]!).sl.length f

theorem UAt.ov {B : Nat} {Rn : Nat → ByteArray} {L : List Ent} {q : Nat → Nat} {v : Value} {w : World} (h : UAt B Rn L L.length q v w) : Ov B L q v w :=
  ⟨h.own, fun j hj => ⟨(h.row j hj).1, _, (h.row j hj).2⟩⟩

theorem Ov.set {B : Nat} {L : List Ent} {q : Nat → Nat} {v : Value} {w : World} (h : Ov B L q v w) {i : Nat} (hi : i < L.length) (t : Nat) (u : Value) : Ov B L q v (w.setCell ⟨q i, t, none⟩ u) := by
  obtain ⟨_, f, hf⟩ := h.row i hi
  refine ⟨h.own.kept (grown_set w ⟨q i, t, none⟩ u) (.inr (fun e => own_ne h.own hf (by decide) e.symm)), fun j hj => ⟨(h.row j hj).1, ?_⟩⟩
  obtain ⟨_, fj, hfj⟩ := h.row j hj
  by_cases e : q j = q i
  · rw [← e]
    exact ⟨_, hfj.set t u⟩
  · exact ⟨_, hfj.setOther e u⟩

set_option maxRecDepth 100000 in
set_option maxHeartbeats 8000000 in
theorem law_any (hS : Sort14) (hK : Keys19) (h18 : Sorted18) (hE : Equal13) (hF : SortFn15) {aR aU : Option Addr} {lR cR lU cU : Nat} {rn nm : Nat → ByteArray} {ra : Nat → Option Addr} {rl rc : Nat → Nat} {rf : Nat → Nat → Int} {w : World} (hR : StrsIn w aR lR rn) (hU : UsersIn w aU lU nm ra rl rc rf) :
    Calls Yba.prog 6 #[.slice aR lR cR, .slice aU lU cU] w fun e w' => e = .returned (.bool true) ∧ Below w.heap.size w w' := by
  have HS := hd hS
  have HK := hd hK
  have H18 := hd h18
  have HE := hd hE
  have HF := hd hF
  have HR := hd hR
  have HU := hd hU
  clear hS hK h18 hE hF hR hU
  go_enter Yba.func6, Yba.ntmps6
  go_wp2_with fail
  refine (ok_any (rl := rl) HU.out).mono ?_
  rintro e1 w1 ⟨r, rfl, hr, hb1⟩
  have HB1 := hd hb1
  cases r with
  | false =>
    clear hr hb1
    go_wp2_with fail
    go_ret
    exact ⟨rfl, HB1.out⟩
  | true =>
    obtain ⟨g1, g2, g3⟩ := hr rfl
    have hcall := build_any (cR := cR) (cU := cU) (HR.out.later hb1) (HU.out.later hb1) g1 g2 g3 HS.out HF.out
    have Hcall := hd hcall
    clear hr hb1 hcall g3
    go_wp2_with fail
    refine Hcall.out.mono ?_
    rintro e2 w2 ⟨pb, rb, mb, k, cap, Rn, L, mv, rfl, hP, hM, hs, hb2⟩
    have hcall2 := users_any HS.out HK.out H18.out hP hs
    have HP := hd hP
    have HM := hd hM
    have Hs := hd hs
    have HB2 := hd (HB1.out.trans (hb2.mono HB1.out.size))
    have Hcall2 := hd hcall2
    have hfew := hP.few
    clear hP hM hs hb2 hcall2 Hcall
    go_wp2_with fail
    refine Hcall2.out.mono ?_
    rintro e3 w3 ⟨q, v, rfl, hU3, hb3⟩
    obtain ⟨av, cv, rfl, hav⟩ := own_shape hU3.own
    have HU3 := hd hU3
    have HP3 := hd (HP.out.later hb3)
    have HM3 := hd (HM.out.later hb3)
    have HB3 := hd (HB2.out.trans (hb3.mono HB2.out.size))
    have Hb3 := hd hb3
    have Hav := hd hav
    clear hU3 hb3 hav Hcall2
    go_wp2_with fail
    go_loopw [27] (fun iv wr => ∃ (i : Nat), i ≤ L.length ∧ iv = .int .i64 i ∧ Below w3.heap.size w3 wr) (fun i _ => L.length - (intOf i).toNat)
    case atStart => exact ⟨0, Nat.zero_le _, rfl, Below.refl _ _⟩
    case round =>
      obtain ⟨i, hi, rfl, hB⟩ := hrel
      have HB := hd hB
      by_cases hil : i < L.length
      · obtain ⟨g, rfl, hg⟩ := Hav.out (by omega)
        have hU4 := HU3.out.later hB
        have hmem : L[i]! ∈ L := by rw [getElem!_pos L i hil]; exact List.getElem_mem hil
        obtain ⟨p1, p2⟩ := own_pair hU4.own hil
        have hrowq := (hU4.row i hil).2
        have hcall := fun m => user_any HS.out (HP3.out.later (below_dr hB m)) hmem
        have hsl := (HP3.out.slots _ hmem).le
        have hl := names_len Rn (L[i]!).sl
        have Hprev := hd (show 0 < i → ∃ x, wr.cell? ⟨g, (i - 1) * 2, none⟩ = some (.string x) ∧ Op.bytesLess x.toList (L[i]!).nm.toList = true from fun h0 => by
          obtain ⟨p3, _⟩ := own_pair hU4.own (i := i - 1) (by omega)
          obtain ⟨n, D, _, hD⟩ := HP3.out.map
          have h5 := rise Hs.out hD.nodup (i := i - 1) (by omega)
          rw [show i - 1 + 1 = i from by omega] at h5
          exact ⟨_, p3, less_of h5⟩)
        obtain ⟨nm', hnm⟩ : ∃ x, (L[i]!).nm = x := ⟨_, rfl⟩
        obtain ⟨sl, hsl'⟩ : ∃ x, (L[i]!).sl = x := ⟨_, rfl⟩
        obtain ⟨qi, hqi⟩ : ∃ x, q i = x := ⟨_, rfl⟩
        rw [hnm] at p1 Hprev
        simp only [hnm, hsl'] at hcall
        rw [hsl', hqi] at p2 hrowq
        rw [hsl'] at hsl hl
        have Hrowq := hd hrowq
        have Hcall := hd hcall
        clear hB hU4 hmem hrowq hcall hnm hsl' hqi
        by_cases hi0 : i = 0
        · subst hi0
          go_wp2_with fail
          go_quiet (fail)
          go_wp2_with fail
          refine (Hcall.out _).mono ?_
          rintro e4 w4 ⟨qu, rfl, hrow4, hb4⟩
          go_wp2_with fail
          obtain ⟨w5, hw5⟩ : ∃ w5, w4.alloc (.cells #[.string nm', .slice (some ⟨qu, 0, none⟩) sl.length sl.length] 35) = w5 := ⟨_, rfl⟩
          have hBw : Below wr.heap.size wr w5 := by
            rw [← hw5]
            exact ((below_dr (Below.refl _ wr) _).trans hb4).alloc hb4.size _
          have hrow5 : w5.rowIs w4.heap.size 35 2 (fun x => if x = 0 then .string nm' else .slice (some ⟨qu, 0, none⟩) sl.length sl.length) := by
            rw [← hw5]
            refine World.rowIs_alloc w4 #[.string nm', .slice (some ⟨qu, 0, none⟩) sl.length sl.length] 35 (fun x => if x = 0 then .string nm' else .slice (some ⟨qu, 0, none⟩) sl.length sl.length) (fun x hx => ?_)
            match x, hx with
            | 0, _ => rfl
            | 1, _ => rfl
          have d0 := hrow5.cell (i := 0) (by omega)
          have d1 := hrow5.cell (i := 1) (by omega)
          simp at d0 d1
          have p1' := cell_on hBw p1
          have p2' := cell_on hBw p2
          have hrq := Hrowq.out.of_block (hBw.block _ Hrowq.out.lt)
          have hr4 : w5.rowIs qu 9 sl.length (fun j => encStr ((names Rn sl).getD j [])) := by rw [← hw5]; exact hrow4.alloc _
          have h13 : ∀ m, Calls Yba.prog 13 #[.slice (some ⟨qu, 0, none⟩) sl.length sl.length, .slice (some ⟨qi, 0, none⟩) sl.length sl.length] (w5.drewN m) fun e w' => e = .returned (.bool true) ∧ ∃ z, w' = (w5.drewN m).drewN z := fun m => by
            have h := HE.out qu sl.length qi sl.length (names Rn sl) (w5.drewN m) (by omega) (fun j hj => by rw [World.cell?_drewN]; exact hr4.cell (i := j) (by omega)) (fun j hj => by rw [World.cell?_drewN]; exact hrq.cell (i := j) (by omega))
            rw [hl] at h
            exact h
          have HBw := hd hBw
          rw [hw5]
          clear hw5 hBw hrow5 hrq hr4 hb4 hrow4 p1 p2
          go_quiet (first | (go_at_call 13; exact Calls.quiet_of (h13 _)))
          go_wp2_with fail
          go_roundw
          case rel => exact ⟨0 + 1, by omega, by go_num, below_dr (HB.out.trans (HBw.out.mono HB.out.size)) _⟩
          case measure => simp [intOf]; omega
        · obtain ⟨i', rfl⟩ : ∃ i', i = i' + 1 := ⟨i - 1, by omega⟩
          obtain ⟨x, p3, hless⟩ := Hprev.out (by omega)
          rw [show i' + 1 - 1 = i' from by omega] at p3
          go_wp2_with fail
          go_quiet (fail)
          go_wp2_with fail
          refine (Hcall.out _).mono ?_
          rintro e4 w4 ⟨qu, rfl, hrow4, hb4⟩
          go_wp2_with fail
          obtain ⟨w5, hw5⟩ : ∃ w5, w4.alloc (.cells #[.string nm', .slice (some ⟨qu, 0, none⟩) sl.length sl.length] 35) = w5 := ⟨_, rfl⟩
          have hBw : Below wr.heap.size wr w5 := by
            rw [← hw5]
            exact ((below_dr (Below.refl _ wr) _).trans hb4).alloc hb4.size _
          have hrow5 : w5.rowIs w4.heap.size 35 2 (fun x => if x = 0 then .string nm' else .slice (some ⟨qu, 0, none⟩) sl.length sl.length) := by
            rw [← hw5]
            refine World.rowIs_alloc w4 #[.string nm', .slice (some ⟨qu, 0, none⟩) sl.length sl.length] 35 (fun x => if x = 0 then .string nm' else .slice (some ⟨qu, 0, none⟩) sl.length sl.length) (fun x hx => ?_)
            match x, hx with
            | 0, _ => rfl
            | 1, _ => rfl
          have d0 := hrow5.cell (i := 0) (by omega)
          have d1 := hrow5.cell (i := 1) (by omega)
          simp at d0 d1
          have p1' := cell_on hBw p1
          have p2' := cell_on hBw p2
          have hrq := Hrowq.out.of_block (hBw.block _ Hrowq.out.lt)
          have hr4 : w5.rowIs qu 9 sl.length (fun j => encStr ((names Rn sl).getD j [])) := by rw [← hw5]; exact hrow4.alloc _
          have h13 : ∀ m, Calls Yba.prog 13 #[.slice (some ⟨qu, 0, none⟩) sl.length sl.length, .slice (some ⟨qi, 0, none⟩) sl.length sl.length] (w5.drewN m) fun e w' => e = .returned (.bool true) ∧ ∃ z, w' = (w5.drewN m).drewN z := fun m => by
            have h := HE.out qu sl.length qi sl.length (names Rn sl) (w5.drewN m) (by omega) (fun j hj => by rw [World.cell?_drewN]; exact hr4.cell (i := j) (by omega)) (fun j hj => by rw [World.cell?_drewN]; exact hrq.cell (i := j) (by omega))
            rw [hl] at h
            exact h
          have HBw := hd hBw
          rw [hw5]
          clear hw5 hBw hrow5 hrq hr4 hb4 hrow4 p1 p2
          go_quiet (first | (go_at_call 13; exact Calls.quiet_of (h13 _)))
          go_wp2_with fail
          go_roundw
          case rel => exact ⟨i' + 1 + 1, by omega, by go_num, below_dr (HB.out.trans (HBw.out.mono HB.out.size)) _⟩
          case measure => simp [intOf]; omega
      · have Hov := hd (HU3.out.later hB).ov
        have HB2w := hd (Hb3.out.trans (hB.mono Hb3.out.size))
        clear hB HU3 HP3 HM3 HB3 HB Hb3
        go_wp2_with fail
        go_loopw [83] (fun iv wx => ∃ (i : Nat), i ≤ L.length ∧ iv = .int .i64 i ∧ Ov w2.heap.size L q (.slice av L.length cv) wx ∧ Below w2.heap.size w2 wx) (fun i _ => L.length - (intOf i).toNat)
        case atStart => exact ⟨0, Nat.zero_le _, rfl, Hov.out, HB2w.out⟩
        case round =>
          clear Hov HB2w hi hil
          obtain ⟨i, hi, rfl, hov, hB⟩ := hrel
          have Hov := hd hov
          have HB := hd hB
          by_cases hil : i < L.length
          · obtain ⟨g, rfl, hg⟩ := Hav.out (by omega)
            obtain ⟨p1, p2⟩ := own_pair hov.own hil
            have hmem : L[i]! ∈ L := by rw [getElem!_pos L i hil]; exact List.getElem_mem hil
            have hsl := (HP.out.slots _ hmem).le
            obtain ⟨m, hm⟩ : ∃ x, (L[i]!).sl.length = x := ⟨_, rfl⟩
            obtain ⟨qi, hqi⟩ : ∃ x, q i = x := ⟨_, rfl⟩
            rw [hm, hqi] at p2
            rw [hm] at hsl
            have Hm := hd hm
            have Hqi := hd hqi
            clear hov hB p1 hmem hm hqi
            go_wp2_with fail
            clear p2
            go_loopw [92] (fun jv wx => ∃ (j : Nat), j ≤ m ∧ jv = .int .i64 j ∧ Ov w2.heap.size L q (.slice (some ⟨g, 0, none⟩) L.length cv) wx ∧ Below w2.heap.size w2 wx) (fun j _ => m - (intOf j).toNat)
            case atStart => exact ⟨0, Nat.zero_le _, rfl, Hov.out, HB.out⟩
            case round =>
              clear Hov HB
              obtain ⟨j, hj, rfl, hov, hB⟩ := hrel
              have Hov := hd hov
              have HB := hd hB
              by_cases hjm : j < m
              · obtain ⟨p1, p2⟩ := own_pair hov.own hil
                obtain ⟨hge, f, hf⟩ := hov.row i hil
                rw [Hm.out, Hqi.out] at p2
                rw [Hm.out, Hqi.out] at hf
                have c1 := hf.cell hjm
                have hfz := hf.frozen j
                have Hset := hd (fun u => hov.set hil j u)
                have HBs := hd (fun u => hB.setCell (p := ⟨q i, j, none⟩) hge u)
                rw [Hqi.out] at Hset HBs
                clear hov hB p1 hf hge
                go_wp2_with fail
                go_roundw
                case rel => exact ⟨j + 1, by omega, by go_num, Hset.out _, HBs.out _⟩
                case measure => simp [intOf]; omega
              · clear hov hB
                go_wp2_with fail
                go_roundw
                case rel => exact ⟨i + 1, by omega, by go_num, Hov.out, HB.out⟩
                case measure => simp [intOf]; omega
          · have hcall := users_any HS.out HK.out H18.out (HP.out.later hB) Hs.out
            have Hcall := hd hcall
            clear hov hB hcall
            go_wp2_with fail
            refine Hcall.out.mono ?_
            rintro e9 w9 ⟨q9, v9, rfl, hU9, hb9⟩
            have hcall := same_any HE.out hU9 (HM.out.later (HB.out.trans (hb9.mono HB.out.size))) hfew (fun e he => (HP.out.slots e he).le)
            have HB9 := hd (HB2.out.trans ((HB.out.trans (hb9.mono HB.out.size)).mono HB2.out.size))
            have Hcall9 := hd hcall
            clear hU9 hb9 hcall Hcall
            go_wp2_with fail
            refine Hcall9.out.mono ?_
            rintro e8 w8 ⟨rfl, hb8⟩
            have HB8 := hd (HB9.out.trans (hb8.mono HB9.out.size))
            clear hb8
            go_wp2_with fail
            go_ret
            exact ⟨rfl, HB8.out⟩
end FreshW
end Go.Proofs.Ybulkcmoq
