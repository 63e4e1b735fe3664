/-
  LawS4423CFresh: zzs4423cbuild.
-/
import Derived.Test.YbulkcmoqFreshBMem2
namespace Go.Proofs.Ybulkcmoq
namespace FreshW
open Go.Maps Go.Sort Go.RowKit

/-- The names of the roles: the two fixed ones ahead. -/
def roleAt (f : Nat → ByteArray) : Nat → ByteArray
  | 0 => ⟨#[77, 97, 120, 82, 111, 108, 101]⟩
  | 1 => ⟨#[77, 105, 110, 82, 111, 108, 101]⟩
  | n + 2 => f n

theorem info43 : (Yba.prog.info? 43).map (fun i => (i.zero, i.size, i.bytes)) = some (some (.agg #[.string ByteArray.empty, .slice none 0 0, .slice none 0 0, .slice none 0 0, .int .i64 0]), 5, 96) := by kernel_rfl
theorem info3 : (Yba.prog.info? 3).map (fun i => (i.zero, i.size, i.bytes)) = some (some (.int .i64 0), 1, 8) := by kernel_rfl
theorem info4 : (Yba.prog.info? 4).map (fun i => (i.zero, i.size, i.bytes)) = some (some (.bool false), 1, 1) := by kernel_rfl

theorem str_ne {a b : ByteArray} (h : ¬ a = b) : (a.toList == b.toList) = false := by
  cases hb : (a.toList == b.toList) with
  | false => rfl
  | true =>
    have h1 : a.toList = b.toList := by simpa using hb
    rw [ByteArray.toList_eq, ByteArray.toList_eq] at h1
    exact absurd (bytes_ext h1) h

/-- The first row of roles. -/
theorem roles_start (w : World) (f : Nat → ByteArray) : (w.alloc (.cells #[.string ⟨#[77, 97, 120, 82, 111, 108, 101]⟩, .slice none 0 0, .slice none 0 0, .slice none 0 0, .int .i64 0, .string ⟨#[77, 105, 110, 82, 111, 108, 101]⟩, .slice none 0 0, .slice none 0 0, .slice none 0 0, .int .i64 0] 43)).ownsRow w.heap.size 43 5 (.slice (some ⟨w.heap.size, 0, none⟩) 2 2) 2 (rcells 2 (roleAt f)) :=
  ⟨by rw [rcells_len], .inr ⟨w.heap.size, 2, _, rfl, Nat.le_refl _, heap_alloc_new w _, Nat.le_refl _, by unfold maxLen; omega, rfl, rfl⟩⟩

def BuildEnd (w : World) (e : Ending) (w' : World) : Prop :=
  ∃ pb rb mb k cap Rn L mv, e = .returned (.tuple #[.pointer (some ⟨pb, 0, none⟩), mv]) ∧ Pol pb rb mb k cap Rn L w' ∧ MAt w.heap.size Rn L mv w' ∧ (L.map Ent.key).Pairwise (fun a b => decide (a ≤ b) = true) ∧ Below w.heap.size w w'

set_option maxRecDepth 100000 in
set_option maxHeartbeats 8000000 in
theorem build_any {aR aU : Option Addr} {lR cR lU cU : Nat} {rn : Nat → ByteArray} {nm : Nat → ByteArray} {ra : Nat → Option Addr} {rl rc : Nat → Nat} {rf : Nat → Nat → Int} {w : World} (hR : StrsIn w aR lR rn) (hU : UsersIn w aU lU nm ra rl rc rf)
    (h1 : lR ≤ 300) (h2 : lU ≤ 300) (h3 : ∀ j, j < lU → rl j ≤ 300) (hS : Sort14) (hF : SortFn15) :
    Calls Yba.prog 9 #[.slice aR lR cR, .slice aU lU cU] w fun e w' => BuildEnd w e w' := by
  obtain ⟨i43, hi0, hz0, hz1, hz2⟩ := info_parts info43
  have HR := hd hR
  have HU := hd hU
  have H3 := hd h3
  have HS := hd hS
  have HF := hd hF
  have Hrs := hd (roles_start w rn)
  clear hR hU h3 hS hF
  go_enter Yba.func9, Yba.ntmps9
  go_wp2_with fail
  go_loopw [6, 27] (fun rv iv wr => ∃ (i : Nat), i ≤ lR ∧ iv = .int .i64 i ∧ wr.ownsRow w.heap.size 43 5 rv (2 + i) (rcells (2 + i) (roleAt rn)) ∧ Below w.heap.size w wr) (fun _ i _ => lR - (intOf i).toNat)
  case atStart => exact ⟨0, Nat.zero_le _, rfl, Hrs.out, (Below.refl _ _).alloc (Nat.le_refl _) _⟩
  case round =>
    clear Hrs
    obtain ⟨i, hi, rfl, hown, hB⟩ := hrel
    have HB := hd hB
    by_cases hil : i < lR
    · obtain ⟨b, off, rfl, hc⟩ := HR.out i hil
      have c1 := cell_on hB (hc i hil)
      have hstep := rcells_succ (2 + i) (roleAt rn)
      have hri : roleAt rn (2 + i) = rn i := by rw [Nat.add_comm]; rfl
      rw [hri] at hstep
      have Hstep := hd hstep
      obtain ⟨s, hs⟩ : ∃ s, rn i = s := ⟨_, rfl⟩
      rw [hs] at c1 Hstep
      obtain ⟨xs, hxs⟩ : ∃ xs, rcells (2 + i) (roleAt rn) = xs := ⟨_, rfl⟩
      rw [hxs] at hown Hstep
      clear hc hB hstep hri hs hxs
      go_wp2_with (first | (at_builtin; refine wpList_append_own _ rfl (.tmp 31) (.tmp 34) 44 rfl w.heap.size 43 i43 (.agg #[.string ByteArray.empty, .slice none 0 0, .slice none 0 0, .slice none 0 0, .int .i64 0]) 5 96 Yba.underlying44 hi0 hz0 hz1 hz2 rfl (by decide) _ _ _ rfl (hown.alloc _) ⟨wr.heap.size, 0, none⟩ 1 1 (rcell s) rfl rfl ?d1 ?d2 ?d3 ?d4 ?d5 ?_) | fail)
      case d1 =>
        intro j u hu
        rw [addr_add, Nat.zero_add, World.cell?_alloc_at (hn := rfl)]
        match j, hu with
        | 0, hu => simpa [rcell] using hu
        | 1, hu => simpa [rcell] using hu
        | 2, hu => simpa [rcell] using hu
        | 3, hu => simpa [rcell] using hu
        | 4, hu => simpa [rcell] using hu
        | j + 5, hu => simp [rcell] at hu
      case d2 => intro u hu; simp [rcell] at hu; rcases hu with rfl | rfl | rfl <;> rfl
      case d3 => unfold maxLen; omega
      case d4 => omega
      case d5 =>
        have h1 := HB.out.size
        simp
        omega
      intro v' w5 hown' hgrow _
      have Hown' := hd (show w5.ownsRow w.heap.size 43 5 v' (2 + (i + 1)) (rcells (2 + (i + 1)) (roleAt rn)) from by
        have h5 := Hstep.out
        rw [show 2 + (i + 1) = 2 + i + 1 from by omega, h5]
        exact hown')
      have HB5 := hd (show Below w.heap.size w w5 from (HB.out.alloc HB.out.size _).grown hgrow (by have h1 := HB.out.size; simp; omega) (fun k hk => (hown.lt k hk).1))
      clear hown' hgrow hown Hstep HB
      go_wp2_with fail
      go_roundw
      case rel => exact ⟨i + 1, by omega, by go_num, Hown'.out, HB5.out⟩
      case measure => simp [intOf]; omega
    · have hil' : i = lR := by omega
      rw [hil'] at hown
      clear hil'
      obtain ⟨ar, cap, rfl, har⟩ := own_shape hown
      obtain ⟨rb, rfl, hrb⟩ := har (by omega)
      have Hown := hd hown
      obtain ⟨k, hk⟩ : ∃ k, 2 + lR = k := ⟨_, rfl⟩
      rw [hk] at Hown
      clear hown hB har
      rw [hk]
      have hk1 : 2 ≤ k := by omega
      have hk2 : k ≤ 302 := by omega
      clear hk
      have hmm := @run_makeMap Yba.prog
      have Hbl := hd (bl_start HB.out Hown.out)
      have hmbge := HB.out.size
      obtain ⟨mb, hmb⟩ : ∃ mb, wr.heap.size = mb := ⟨_, rfl⟩
      rw [hmb] at hmbge
      rw [hmb] at Hbl
      clear Hown HB
      have Hmb := hd hmb
      clear hmb
      go_wp2_with fail
      rw [Hmb.out]
      clear hmm Hmb
      have Hf0 := hd (show polF rb k cap mb 0 = .slice (some ⟨rb, 0, none⟩) k cap from rfl)
      have Hf8 := hd (show polF rb k cap mb 8 = .map (some mb) from rfl)
      generalize polF rb k cap mb = fP at Hbl Hf0 Hf8
      go_loopw [11, 45] (fun mv iv wr => ∃ (i : Nat) (L : List Ent), i ≤ lU ∧ iv = .int .i64 i ∧ BL w (mb + 1) rb mb k cap fP (roleAt rn) i L mv wr) (fun _ i _ => lU - (intOf i).toNat)
      case atStart => exact ⟨0, [], Nat.zero_le _, rfl, Hbl.out⟩
      case round =>
        clear Hbl
        obtain ⟨t, L, ht, rfl, hbl⟩ := hrel
        rename World => wq
        obtain ⟨am, cm, rfl, ham⟩ := own_shape hbl.own
        have Ham := hd ham
        clear ham
        have HBL := hd hbl
        by_cases htl : t < lU
        · obtain ⟨b, off, rfl, hc⟩ := HU.out t htl
          obtain ⟨c1, c2, hnm, hby⟩ := hc t htl
          have hrl := H3.out t htl
          have c1' := cell_on hbl.be c1
          have c2' := cell_on hbl.be c2
          clear hc c1 c2
          obtain ⟨s, hs⟩ : ∃ x, nm t = x := ⟨_, rfl⟩
          obtain ⟨rv, hrv⟩ : ∃ x, ra t = x := ⟨_, rfl⟩
          obtain ⟨n, hn⟩ : ∃ x, rl t = x := ⟨_, rfl⟩
          obtain ⟨rcap, hrc⟩ : ∃ x, rc t = x := ⟨_, rfl⟩
          obtain ⟨bf, hbf⟩ : ∃ x, rf t = x := ⟨_, rfl⟩
          rw [hs] at c1' hnm
          rw [hrv, hn, hrc] at c2'
          rw [hrv, hn, hbf] at hby
          rw [hn] at hrl
          have Hby := hd hby
          have Hnm := hd hnm
          clear hs hrv hn hrc hbf hby hnm hbl
          by_cases hz : n = 0
          · have hz1 : (((n : Nat) : Int) == 0) = true := by simp [hz]
            go_wp2_with fail
            go_roundw
            case rel => exact ⟨t + 1, L, by omega, by go_num, (HBL.out.later ((Below.refl _ _).alloc (Nat.le_refl _) _)).next⟩
            case measure => simp [intOf]; omega
          · have hz1 : (((n : Nat) : Int) == 0) = false := by simp; omega
            obtain ⟨bb, bo, rfl, hbc⟩ := Hby.out 0 (by omega)
            have Hbc := hd hbc
            have hmk := run_make_row' (P := Yba.prog) 60 4 (.bool false) 1 Yba.underlying60 info4 rfl .i64 .i64 k (by omega) (by omega)
            have Hst3 := hd (show ((wq.alloc (.cells #[.string s, .slice (some ⟨bb, bo, none⟩) n rcap] 41)).alloc (.cells (madeCells #[.bool false] k) 4)).rowIs (wq.heap.size + 1) 4 k (fun _ => .bool false) ∧ ((wq.alloc (.cells #[.string s, .slice (some ⟨bb, bo, none⟩) n rcap] 41)).alloc (.cells (madeCells #[.bool false] k) 4)).rowIs wq.heap.size 41 2 (fun x => if x = 0 then .string s else .slice (some ⟨bb, bo, none⟩) n rcap) ∧ Below wq.heap.size wq ((wq.alloc (.cells #[.string s, .slice (some ⟨bb, bo, none⟩) n rcap] 41)).alloc (.cells (madeCells #[.bool false] k) 4)) from by
              have e1 := World.rowIs_made (wq.alloc (.cells #[.string s, .slice (some ⟨bb, bo, none⟩) n rcap] 41)) (.bool false) k 4
              have e2 : (wq.alloc (.cells #[.string s, .slice (some ⟨bb, bo, none⟩) n rcap] 41)).heap.size = wq.heap.size + 1 := by simp
              rw [e2] at e1
              refine ⟨e1, (World.rowIs_alloc wq #[.string s, .slice (some ⟨bb, bo, none⟩) n rcap] 41 (fun x => if x = 0 then .string s else .slice (some ⟨bb, bo, none⟩) n rcap) (fun x hx => ?_)).alloc _, ((Below.refl _ _).alloc (Nat.le_refl _) _).alloc (by simp) _⟩
              match x, hx with
              | 0, _ => rfl
              | 1, _ => rfl)
            clear hbc Hby
            go_wp2_with fail
            clear hmk c1' c2'
            go_loopw [58] (fun jv wx => ∃ (j : Nat) (pr : Nat → Bool), j ≤ n ∧ jv = .int .i64 j ∧ wx.rowIs (wq.heap.size + 1) 4 k (fun x => .bool (pr x)) ∧ (0 < j → ∃ x, x < k ∧ pr x = true) ∧ wx.rowIs wq.heap.size 41 2 (fun x => if x = 0 then .string s else .slice (some ⟨bb, bo, none⟩) n rcap) ∧ Below wq.heap.size wq wx) (fun j _ => n - (intOf j).toNat)
            case atStart => exact ⟨0, _, Nat.zero_le _, rfl, Hst3.out.1, (fun h => by omega), Hst3.out.2.1, Hst3.out.2.2⟩
            case round =>
              clear Hst3
              obtain ⟨j, pr, hj, rfl, hrow, hex, hu, hB⟩ := hrel
              have Hrow := hd hrow
              have Hex := hd hex
              have Hu := hd hu
              have HB := hd hB
              by_cases hjn : j < n
              · obtain ⟨c1, hx0, hx1⟩ := Hbc.out j hjn
                have c1' := cell_on (HBL.out.be.trans (hB.mono HBL.out.be.size)) c1
                obtain ⟨y, hy⟩ : ∃ y : Nat, bf j % ((k : Nat) : Int) = ((y : Nat) : Int) := ⟨(bf j % ((k : Nat) : Int)).toNat, by
                  have := Int.emod_nonneg (bf j) (b := ((k : Nat) : Int)) (by omega)
                  omega⟩
                have hyk : y < k := by
                  have := Int.emod_lt_of_pos (bf j) (b := ((k : Nat) : Int)) (by omega)
                  omega
                have c2 := hrow.cell hyk
                have hfz := hrow.frozen y
                clear hrow hex hu hB c1
                go_wp2_with fail
                go_roundw
                case rel =>
                  refine ⟨j + 1, (fun x => if x = y then true else pr x), by omega, by go_num, (Hrow.out.set y (.bool true)).congr (fun x _ => ?_), (fun _ => ⟨y, hyk, by simp⟩), Hu.out.setOther (by show wq.heap.size ≠ wq.heap.size + 1; omega) _, HB.out.setCell (by show wq.heap.size ≤ wq.heap.size + 1; omega) _⟩
                  by_cases e : x = y <;> simp [e]
                case measure => simp [intOf]; omega
              · obtain ⟨x0, hx0, hx1⟩ := hex (by omega)
                have Hx := hd (show ∃ x, x < k ∧ pr x = true from ⟨x0, hx0, hx1⟩)
                clear hrow hex hu hB hx1
                obtain ⟨i3, hi3, hy0, hy1, hy2⟩ := info_parts info3
                obtain ⟨i9, hi9, hq0, hq1, hq2⟩ := info_parts info9
                go_wp2_with fail
                go_loopw [17, 18, 19] (fun sv nv iv wx => ∃ (j : Nat), j ≤ k ∧ iv = .int .i64 j ∧ wx.ownsRow wq.heap.size 3 1 sv (fl pr j).length (icells (fl pr j)) ∧ wx.ownsRow wq.heap.size 9 1 nv (fl pr j).length (scells (roleAt rn) (fl pr j)) ∧ wx.rowIs (wq.heap.size + 1) 4 k (fun x => .bool (pr x)) ∧ wx.rowIs wq.heap.size 41 2 (fun x => if x = 0 then .string s else .slice (some ⟨bb, bo, none⟩) n rcap) ∧ Below wq.heap.size wq wx) (fun _ _ j _ => k - (intOf j).toNat)
                case atStart => exact ⟨0, Nat.zero_le _, rfl, World.ownsRow_nil _ _ _ _, World.ownsRow_nil _ _ _ _, Hrow.out, Hu.out, HB.out⟩
                case round =>
                  clear Hrow Hex Hu HB
                  obtain ⟨j, hj, rfl, hsv, hnv, hrow, hu, hB⟩ := hrel
                  rename World => w4
                  have HB := hd hB
                  have Hrow := hd hrow
                  have Hu := hd hu
                  have Hsv := hd hsv
                  have Hnv := hd hnv
                  by_cases hjk : j < k
                  · have c1 := hrow.cell hjk
                    cases hpr : pr j with
                    | false =>
                      have Hfl := hd (fl_no hpr)
                      rw [hpr] at c1
                      clear hrow hu hB hsv hnv hpr
                      go_wp2_with fail
                      go_roundw
                      case rel => exact ⟨j + 1, by omega, by go_num, by rw [Hfl.out]; exact Hsv.out, by rw [Hfl.out]; exact Hnv.out, Hrow.out, Hu.out, HB.out⟩
                      case measure => simp [intOf]; omega
                    | true =>
                      have Hfl := hd (fl_yes hpr)
                      have hfll := fl_len pr j
                      rw [hpr] at c1
                      obtain ⟨xs, hxs⟩ : ∃ xs, icells (fl pr j) = xs := ⟨_, rfl⟩
                      obtain ⟨ys, hys⟩ : ∃ ys, scells (roleAt rn) (fl pr j) = ys := ⟨_, rfl⟩
                      obtain ⟨m, hm⟩ : ∃ m, (fl pr j).length = m := ⟨_, rfl⟩
                      rw [hxs, hm] at hsv Hsv
                      rw [hys, hm] at hnv Hnv
                      rw [hm] at hfll
                      have Hxs := hd hxs
                      have Hys := hd hys
                      have Hm := hd hm
                      have hsz := hB.size
                      clear hrow hu hB hnv hpr hxs hys hm
                      go_wp2_with (first | (at_builtin; refine wpList_append_own _ rfl (.tmp 78) (.tmp 80) 47 rfl wq.heap.size 3 i3 (.int .i64 0) 1 8 Yba.underlying47 hi3 hy0 hy1 hy2 rfl (by decide) _ _ _ rfl (hsv.alloc _) ⟨w4.heap.size, 0, none⟩ 1 1 [.int .i64 (j : Int)] rfl rfl ?d1 ?d2 ?d3 ?d4 ?d5 ?_) | fail)
                      case d1 =>
                        intro x u hx
                        rw [addr_add, Nat.zero_add, World.cell?_alloc_at (hn := rfl)]
                        match x, hx with
                        | 0, hx => simpa using hx
                        | x + 1, hx => simp at hx
                      case d2 => intro u hx; simp at hx; subst hx; rfl
                      case d3 => unfold maxLen; omega
                      case d4 => omega
                      case d5 => simp; omega
                      intro v1 w5 hown1 hgrow1 _
                      have hB5 : Below wq.heap.size wq w5 := (HB.out.alloc hsz _).grown hgrow1 (by simp; omega) (fun x hx => (hsv.lt x hx).1)
                      have hnv5 := (Hnv.out.alloc (.cells #[.int .i64 (j : Int)] 3)).kept hgrow1 (own_ne_own hsv Hnv.out (by decide))
                      have hrow5 := row_kept (Hrow.out.alloc (.cells #[.int .i64 (j : Int)] 3)) hgrow1 (own_ne hsv Hrow.out (by decide))
                      have hu5 := row_kept (Hu.out.alloc (.cells #[.int .i64 (j : Int)] 3)) hgrow1 (own_ne hsv Hu.out (by decide))
                      have c2 : w5.cell? ⟨rb, j * 5, none⟩ = some (.string (roleAt rn j)) := by
                        have h5 := (HBL.out.bE.later hB5).rol.cells (g := rb) rfl (j * 5) _ (rcells_get (roleAt rn) k j hjk)
                        rwa [addr_add, Nat.zero_add] at h5
                      obtain ⟨rnj, hrnj⟩ : ∃ x, roleAt rn j = x := ⟨_, rfl⟩
                      rw [hrnj] at c2
                      have Hrnj := hd hrnj
                      have HB5 := hd hB5
                      have Hrow5 := hd hrow5
                      have Hu5 := hd hu5
                      have Hown1 := hd hown1
                      have hsz5 := hB5.size
                      clear hB5 hrow5 hu5 hgrow1 hsv HB Hrow Hu Hsv Hnv hown1 c1 hrnj
                      go_wp2_with (first | (at_builtin; refine wpList_append_own _ rfl (.tmp 82) (.tmp 88) 25 rfl wq.heap.size 9 i9 (.string ByteArray.empty) 1 16 Yba.underlying25 hi9 hq0 hq1 hq2 rfl (by decide) _ _ _ rfl (hnv5.alloc _) ⟨w5.heap.size, 0, none⟩ 1 1 [.string rnj] rfl rfl ?d1 ?d2 ?d3 ?d4 ?d5 ?_) | fail)
                      case d1 =>
                        intro x u hx
                        rw [addr_add, Nat.zero_add, World.cell?_alloc_at (hn := rfl)]
                        match x, hx with
                        | 0, hx => simpa using hx
                        | x + 1, hx => simp at hx
                      case d2 => intro u hx; simp at hx; subst hx; rfl
                      case d3 => unfold maxLen; omega
                      case d4 => omega
                      case d5 => simp; omega
                      intro v2 w6 hown2 hgrow2 _
                      have HB6 := hd (show Below wq.heap.size wq w6 from (HB5.out.alloc hsz5 _).grown hgrow2 (by simp; omega) (fun x hx => (hnv5.lt x hx).1))
                      have Hown6 := hd ((Hown1.out.alloc (.cells #[.string rnj] 9)).kept hgrow2 (own_ne_own hnv5 Hown1.out (by decide)))
                      have Hrow6 := hd (row_kept (Hrow5.out.alloc (.cells #[.string rnj] 9)) hgrow2 (own_ne hnv5 Hrow5.out (by decide)))
                      have Hu6 := hd (row_kept (Hu5.out.alloc (.cells #[.string rnj] 9)) hgrow2 (own_ne hnv5 Hu5.out (by decide)))
                      have Hown2 := hd hown2
                      clear hgrow2 hown2 hnv5 HB5 Hown1 Hrow5 Hu5 c2
                      go_wp2_with fail
                      go_roundw
                      case rel =>
                        refine ⟨j + 1, by omega, by go_num, ?_, ?_, Hrow6.out, Hu6.out, HB6.out⟩
                        · have h7 := Hown6.out
                          rw [← Hxs.out, ← Hm.out] at h7
                          rw [Hfl.out]
                          simpa [icells] using h7
                        · have h7 := Hown2.out
                          rw [← Hys.out, ← Hm.out, ← Hrnj.out] at h7
                          rw [Hfl.out]
                          simpa [scells] using h7
                      case measure => simp [intOf]; omega
                  · have hjk' : j = k := by omega
                    rw [hjk'] at hsv hnv
                    have hfne := fl_ne Hx.out
                    have hflt : ∀ x ∈ fl pr k, x < k := fun x hx => fl_lt hx
                    have hfll := fl_len pr k
                    generalize fl pr k = sl at hsv hnv hfne hflt hfll
                    have hpos : 0 < sl.length := List.length_pos_iff.2 hfne
                    obtain ⟨ax, cs, rfl, hax⟩ := own_shape hsv
                    obtain ⟨gs, rfl, hgs⟩ := hax hpos
                    obtain ⟨an, cn, rfl, han⟩ := own_shape hnv
                    obtain ⟨gn, rfl, hgn⟩ := han hpos
                    have c1 := hu.cell (i := 0) (by omega)
                    simp only [if_true] at c1
                    have hBL4 := HBL.out.later hB
                    have c8 : w4.cell? ⟨mb + 1, 8, none⟩ = some (.map (some mb)) := by
                      rw [hBL4.bE.pol.cell (i := 8) (by omega), Hf8.out]
                    obtain ⟨nn, D, hmap, hD, hnn⟩ := hBL4.map
                    obtain ⟨w5, hrun, hmap5, hg5⟩ := hmap.drew.update law9 Yba.underlying45 (by unfold maxLen; omega) (key9 Hnm.out) (val := .slice (some ⟨gs, 0, none⟩) sl.length cs) (Rs_slice _ _ _)
                    have Hsv4 := hd hsv
                    have Hnv4 := hd hnv
                    have Hflt := hd hflt
                    have Hfne := hd hfne
                    have Hmap := hd hmap
                    have HD := hd hD
                    have Hmap5 := hd hmap5
                    have Hg5 := hd hg5
                    clear hrow hu hB hsv hnv hjk' hax han hBL4 hmap hD hmap5 hg5 hflt hfne Hsv Hnv Hrow
                    go_wp2_with fail
                    go_region
                    go_wp2_with fail
                    obtain ⟨hhold, hgl, hbm⟩ := bm_make (e := ⟨s, sl, .slice (some ⟨gs, 0, none⟩) sl.length cs, .slice (some ⟨gn, 0, none⟩) sl.length cn⟩) HBL.out hmbge HB.out Hmap.out HD.out hnn Hmap5.out Hg5.out Hsv4.out Hnv4.out rfl Hflt.out Hfne.out (by show sl.length ≤ 1000; omega) Hnm.out Hu.out
                    have hcall := HS.out gn 0 cn _ w5 hhold hgl (by simp; omega)
                    have hl : (sl.map fun x => (roleAt rn x).data.toList).length = sl.length := by simp
                    simp only [hl] at hcall
                    have Hbm := hd hbm
                    clear hhold hgl hbm hl Hmap HD Hmap5 Hg5 Hsv4 Hnv4 Hflt Hfne hrun
                    refine hcall.mono ?_
                    rintro e2 w6 ⟨rfl, nd, os, hw6⟩
                    obtain ⟨hBM, hu6⟩ := Hbm.out nd os
                    have hw7 : grow (putRow encStr (Sort.ahead w5 nd) gn 0 (names (roleAt rn) sl).toArray) os = w6 := hw6.symm
                    rw [show (⟨s, sl, .slice (some ⟨gs, 0, none⟩) sl.length cs, .slice (some ⟨gn, 0, none⟩) sl.length cn⟩ : Ent).sl = sl from rfl, hw7] at hBM hu6
                    have HBM := hd hBM
                    have Hu6 := hd hu6
                    clear hBM hu6 hw6 hw7 hcall Hbm
                    go_wp2_with fail
                    have hLf : L.length ≤ 1000 := by
                      have h5 := HBL.out.few
                      omega
                    go_loopw [20, 21] (fun rv jv wx => rv = .bool false ∧ ∃ (j m : Nat), j ≤ L.length ∧ jv = .int .i64 j ∧ (∀ x, x < j → (L[x]!).nm ≠ s) ∧ wx = w6.drewN m) (fun _ j _ => L.length - (intOf j).toNat)
                    case atStart => exact ⟨rfl, 0, 0, Nat.zero_le _, rfl, (fun x hx => by omega), rfl⟩
                    case round =>
                      obtain ⟨rfl, j, m, hj, rfl, hno, hwx⟩ := hrel
                      rename World => w7
                      have hB7 : Below w6.heap.size w6 w7 := by rw [hwx]; exact below_dr (Below.refl _ _) m
                      have HBM7 := hd (HBM.out.later hB7)
                      have hu7 := Hu6.out.of_block (hB7.block _ Hu6.out.lt)
                      have c1 := hu7.cell (i := 0) (by omega)
                      simp only [if_true] at c1
                      have Hno := hd hno
                      have Hwx := hd hwx
                      clear hno hwx hB7 hu7
                      by_cases hjl : j < L.length
                      · obtain ⟨g, rfl, hg⟩ := Ham.out (by omega)
                        have ho := HBM7.out.own
                        obtain ⟨p1, p2⟩ := own_pair ho hjl
                        have hfz := own_frozen ho (j * 2 + 1)
                        obtain ⟨y, hy⟩ : ∃ y, (L[j]!).nm = y := ⟨_, rfl⟩
                        obtain ⟨z, hz9⟩ : ∃ z, (L[j]!).nv = z := ⟨_, rfl⟩
                        rw [hy] at p1
                        rw [hz9] at p2
                        have Hy := hd hy
                        clear ho hy hz9
                        by_cases hys : y = s
                        · have Hk := hd (show (L[j]).nm = s from by rw [← getElem!_pos L j hjl, Hy.out, hys])
                          subst hys
                          go_wp2_with fail
                          go_quiet (fail)
                          go_wp2_with fail
                          go_roundw
                          case rel => exact ⟨t + 1, _, by omega, by go_num, (HBM7.out.later (below_dr (Below.refl _ _) _)).rep hjl Hk.out⟩
                          case measure => simp [intOf]; omega
                        · have Hys := hd hys
                          have hys2 : (y.toList == s.toList) = false := str_ne hys
                          have hys3 : ¬ y.toList = s.toList := by simpa using hys2
                          go_wp2_with fail
                          go_quiet (fail)
                          go_wp2_with fail
                          all_goals first
                            | (exfalso; rename_i hh; exact absurd hh (by simpa using hys3))
                            | skip
                          go_roundw
                          case rel =>
                            refine ⟨rfl, j + 1, _, by omega, by go_num, fun x hx => ?_, by rw [Hwx.out, drewN_add]⟩
                            by_cases e : x = j
                            · rw [e, Hy.out]; exact Hys.out
                            · exact Hno.out x (Nat.lt_of_le_of_ne (Nat.lt_succ_iff.1 hx) e)
                          case measure => simp [intOf]; omega
                      · obtain ⟨i35, hv0, hv1, hv2, hv3⟩ := info_parts info35
                        have hown : w7.ownsRow w.heap.size 35 2 (.slice am L.length cm) L.length (ucells L.length (fun j => .string (L[j]!).nm) (fun j => (L[j]!).nv)) := HBM7.out.own
                        obtain ⟨xs, hxs⟩ : ∃ xs, ucells L.length (fun j => .string (L[j]!).nm) (fun j => (L[j]!).nv) = xs := ⟨_, rfl⟩
                        rw [hxs] at hown
                        have Hxs := hd hxs
                        have hsz7 := HBM7.out.be.size
                        have hfew := HBM7.out.few
                        have hjl' : j = L.length := by omega
                        have Hjl := hd hjl'
                        clear hxs hjl'
                        go_wp2_with (first | (at_builtin; refine wpList_append_own _ rfl (.tmp 120) (.tmp 125) 29 rfl w.heap.size 35 i35 (.agg #[.string ByteArray.empty, .slice none 0 0]) 2 40 Yba.underlying29 hv0 hv1 hv2 hv3 rfl (by decide) _ _ _ rfl (hown.alloc _) ⟨w7.heap.size, 0, none⟩ 1 1 [.string s, .slice (some ⟨gn, 0, none⟩) sl.length cn] rfl rfl ?d1 ?d2 ?d3 ?d4 ?d5 ?_) | fail)
                        case d1 =>
                          intro x u hx
                          rw [addr_add, Nat.zero_add, World.cell?_alloc_at (hn := rfl)]
                          match x, hx with
                          | 0, hx => simpa using hx
                          | 1, hx => simpa using hx
                          | x + 2, hx => simp at hx
                        case d2 => intro u hx; simp at hx; rcases hx with rfl | rfl <;> rfl
                        case d3 => unfold maxLen; omega
                        case d4 => omega
                        case d5 => simp; omega
                        intro v' w8 hown' hgrow _
                        have Hend := hd ((HBM7.out.later ((Below.refl _ _).alloc (Nat.le_refl _) _)).app (mv' := v') (fun x hx hk => by
                          obtain ⟨q, hq, hqx⟩ := List.getElem_of_mem hx
                          refine Hno.out q (by rw [Hjl.out]; exact hq) ?_
                          rw [getElem!_pos L q hq, hqx]
                          exact bytes_ext hk) hgrow (by rw [Hxs.out]; exact hown'))
                        clear hgrow hown' hown
                        go_wp2_with fail
                        go_roundw
                        case rel => exact ⟨t + 1, _, by omega, by go_num, Hend.out⟩
                        case measure => simp [intOf]; omega
        · have hfew := hbl.few
          by_cases hL : L = []
          · have hown := hbl.own
            have Hfin := hd (build_end (L' := L) (w' := wq) hbl (by omega) Hf0.out Hf8.out (List.Perm.refl _) hbl.own ⟨rfl, rfl, rfl, Nat.le_refl _, fun _ _ _ => rfl⟩)
            subst hL
            have hcall := fun fv => HF.out.none_ am cm fv wq
            clear hbl hown
            go_wp2_with fail
            refine (hcall _).mono ?_
            rintro e2 w2 ⟨rfl, rfl⟩
            go_wp2_with fail
            go_ret2
            exact ⟨_, _, _, _, _, _, _, _, rfl, Hfin.out.1, Hfin.out.2.1, List.Pairwise.nil, Hfin.out.2.2⟩
          · obtain ⟨g, rfl, hg⟩ := Ham.out (List.length_pos_iff.2 hL)
            have hcall := HF.out.some_ w.heap.size g cm L wq hbl.own (fun e he => by
              obtain ⟨b, c, hb, _⟩ := (hbl.bE.ent e he).names
              exact ⟨b, c, hb⟩) hL (by omega)
            have Hcall := hd hcall
            clear hbl hcall
            go_wp2_with fail
            refine Hcall.out.mono ?_
            rintro e2 w2 ⟨rfl, L', hp, hs, hmod, hgr⟩
            have Hfin := hd (build_end HBL.out (by omega) Hf0.out Hf8.out hp hmod hgr)
            have Hs := hd hs
            clear hp hs hmod hgr
            go_wp2_with fail
            go_ret2
            exact ⟨_, _, _, _, _, _, _, _, rfl, Hfin.out.1, Hfin.out.2.1, Hs.out, Hfin.out.2.2⟩
end FreshW
end Go.Proofs.Ybulkcmoq
