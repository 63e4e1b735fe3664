import Derived.Test.YbulkcmoqDoorMem6
import Derived.Deep.CutBlock
namespace Go.Proofs.YbulkcmoqDoor
namespace SideW
open Go.RowKit Go.Maps

set_option maxRecDepth 100000 in
set_option maxHeartbeats 8000000 in
theorem law_any (n8 m8 : Int) (aA aP aE : Option Addr) (lA cA lP cP lE cE : Nat) (fA fP fE : Nat → Int) (w : World) (h8 : 0 ≤ n8) (h8' : n8 ≤ 255) (hm0 : 0 ≤ m8) (hm1 : m8 ≤ 255)
    (hA : Bytes w aA lA fA) (hP : Bytes w aP lP fP) (hE : Bytes w aE lE fE) (ht : Tab w) :
    Calls Ybad.prog 3 #[.int .u8 n8, .int .u8 m8, .slice aA lA cA, .slice aP lP cP, .slice aE lE cE] w fun e w' => e = .returned (.bool true) ∧ Below w.heap.size w w' := by
  by_cases g1 : (1024 : Int) < (lP : Int)
  · go_enter Ybad.func3, Ybad.ntmps3
    go_wp2
    go_ret
    exact ⟨rfl, Below.refl _ _⟩
  by_cases g2 : (2048 : Int) < (lE : Int)
  · go_enter Ybad.func3, Ybad.ntmps3
    go_wp2
    go_ret
    exact ⟨rfl, Below.refl _ _⟩
  by_cases g3 : (1024 : Int) < (lA : Int)
  · go_enter Ybad.func3, Ybad.ntmps3
    go_wp2
    go_ret
    exact ⟨rfl, Below.refl _ _⟩
  obtain ⟨n, hn⟩ : ∃ n : Nat, n8 % 8 + 1 = (n : Int) := ⟨(n8 % 8 + 1).toNat, by omega⟩
  have hn1 : 1 ≤ n := by omega
  have hn8 : n ≤ 8 := by omega
  obtain ⟨mx, hmx⟩ : ∃ mx : Nat, m8 % (n : Int) = (mx : Int) := ⟨(m8 % (n : Int)).toNat, by
    have := Int.emod_nonneg m8 (b := (n : Int)) (by omega)
    omega⟩
  have hmx2 : mx < n := by
    have := Int.emod_lt_of_pos m8 (b := (n : Int)) (by omega)
    omega
  have HA := hd hA
  have HP := hd hP
  have HE := hd hE
  have HT := hd ht
  clear hA hP hE ht
  go_enter Ybad.func3, Ybad.ntmps3
  go_upto_block 0 with fail
  go_cut [12, 13, 15, 16, 17] from 43 to 94 (fun s12 s13 _ _ _ wx => s12 = .int .i64 (n : Int) ∧ s13 = .int .i64 (mx : Int) ∧ ∃ r : Nat → Nat → Bool, Within n r ∧ M1 w w.heap.size r wx)
  case first => as_aux_lemma =>
    go_wp2_with fail
    go_loopw [15] (fun i wr => ∃ (k : Nat) (r : Nat → Nat → Bool), k ≤ n ∧ i = .int .i64 k ∧ Within n r ∧ M1 w w.heap.size r wr) (fun i _ => n - (intOf i).toNat)
    case atStart => exact ⟨0, _, Nat.zero_le _, rfl, (fun a b h => by cases h), m1_start w⟩
    case round =>
      obtain ⟨k, r, hk, rfl, hr, hM⟩ := hrel
      have Hr := hd hr
      have HM := hd hM
      by_cases hkn : k < n ∧ k < lA
      · obtain ⟨hk1, hk2⟩ := hkn
        obtain ⟨b, off, rfl, hc⟩ := HA.out k hk2
        obtain ⟨hck, hf0, hf1⟩ := hc k hk2
        have hcx := cell_later hM.be hck
        clear hr hM hc hck
        go_wp2_with fail
        go_loopw [17] (fun j wx => ∃ (l : Nat) (r : Nat → Nat → Bool), l ≤ k ∧ j = .int .i64 l ∧ Within n r ∧ M1 w w.heap.size r wx) (fun j _ => k - (intOf j).toNat)
        case atStart => exact ⟨0, r, Nat.zero_le _, rfl, Hr.out, HM.out⟩
        case round =>
          clear Hr HM hcx
          obtain ⟨l, r', hl, rfl, hr, hM⟩ := hrel
          have Hr := hd hr
          have HM := hd hM
          by_cases hlk : l < k
          · have hcl := hM.rel.cell (i := k * 8 + l) (by omega)
            have hfz := hM.rel.frozen (k * 8 + l)
            clear hr hM
            go_wp2_with fail
            · go_roundw
              case rel => exact ⟨l + 1, _, by omega, by go_num, within_put Hr.out hk1 (by omega), HM.out.put (by omega)⟩
              case measure => simp [intOf]; omega
            · go_roundw
              case rel => exact ⟨l + 1, _, by omega, by go_num, Hr.out, HM.out⟩
              case measure => simp [intOf]; omega
          · clear hr hM
            go_wp2_with fail
            go_roundw
            case rel => exact ⟨k + 1, _, by omega, by go_num, Hr.out, HM.out⟩
            case measure => simp [intOf]; omega
      · clear hr hM
        by_cases hk1 : k < n
        · have hk3 : ¬ k < lA := fun h2 => hkn ⟨hk1, h2⟩
          clear hkn
          go_wp2_with fail
          go_meet
          case rel => exact ⟨rfl, rfl, r, Hr.out, HM.out⟩
        · clear hkn
          go_wp2_with fail
          go_meet
          case rel => exact ⟨rfl, rfl, r, Hr.out, HM.out⟩
  case rest =>
    obtain ⟨rfl, rfl, r, hr, hM⟩ := hcut
    have Hr := hd hr
    have HM := hd hM
    clear hr hM hn hmx HA
    go_upto_block 4 with fail
    go_cut [18, 19, 20] from 95 to 125 (fun _ _ _ wx => ∃ r : Nat → Nat → Bool, Within n r ∧ Trans n r ∧ M1 w w.heap.size r wx)
    case first => as_aux_lemma =>
      go_wp2_with fail
      go_loopw [18] (fun i wr => ∃ (k : Nat) (r : Nat → Nat → Bool), k ≤ n ∧ i = .int .i64 k ∧ Within n r ∧ Trans k r ∧ M1 w w.heap.size r wr) (fun i _ => n - (intOf i).toNat)
      case atStart => exact ⟨0, r, Nat.zero_le _, rfl, Hr.out, (fun m hm => by omega), HM.out⟩
      case round =>
        clear Hr HM
        obtain ⟨k, R, hk, rfl, hr, htr, hM⟩ := hrel
        have HR := hd hr
        have HT1 := hd htr
        have HM := hd hM
        clear hr htr hM
        by_cases hkn : k < n
        · go_wp2_with fail
          go_loopw [19] (fun i wr => ∃ (l : Nat), l ≤ n ∧ i = .int .i64 l ∧ M1 w w.heap.size (pass R k l 0) wr) (fun i _ => n - (intOf i).toNat)
          case atStart => exact ⟨0, Nat.zero_le _, rfl, by rw [pass_start]; exact HM.out⟩
          case round =>
            clear HM
            obtain ⟨l, hl, rfl, hM⟩ := hrel
            have HM := hd hM
            clear hM
            by_cases hln : l < n
            · go_wp2_with fail
              go_loopw [20] (fun i wr => ∃ (j : Nat), j ≤ n ∧ i = .int .i64 j ∧ M1 w w.heap.size (pass R k l j) wr) (fun i _ => n - (intOf i).toNat)
              case atStart => exact ⟨0, Nat.zero_le _, rfl, HM.out⟩
              case round =>
                clear HM
                obtain ⟨j, hj, rfl, hM⟩ := hrel
                have HM := hd hM
                by_cases hjn : j < n
                · have c1 := hM.rel.cell (i := l * 8 + k) (by omega)
                  have c2 := hM.rel.cell (i := k * 8 + j) (by omega)
                  have c3 := hM.rel.cell (i := l * 8 + j) (by omega)
                  have hfz := hM.rel.frozen (l * 8 + j)
                  rw [show (l * 8 + k) / 8 = l from by omega, show (l * 8 + k) % 8 = k from by omega, pass_ik] at c1
                  rw [show (k * 8 + j) / 8 = k from by omega, show (k * 8 + j) % 8 = j from by omega, pass_kj] at c2
                  clear hM
                  cases b1 : R l k with
                  | false =>
                    rw [b1] at c1
                    have Hno := hd (pass_no (R := R) (k := k) (i := l) (j := j) (by rw [b1]; rfl))
                    clear c2 c3 b1
                    go_wp2_with fail
                    go_roundw
                    case rel => exact ⟨j + 1, by omega, by go_num, by rw [Hno.out]; exact HM.out⟩
                    case measure => simp [intOf]; omega
                  | true =>
                    rw [b1] at c1
                    cases b2 : R k j with
                    | false =>
                      rw [b2] at c2
                      have Hno := hd (pass_no (R := R) (k := k) (i := l) (j := j) (by rw [b1, b2]; rfl))
                      clear c3 b1 b2
                      go_wp2_with fail
                      go_roundw
                      case rel => exact ⟨j + 1, by omega, by go_num, by rw [Hno.out]; exact HM.out⟩
                      case measure => simp [intOf]; omega
                    | true =>
                      rw [b2] at c2
                      have Hyes := hd (pass_yes b1 b2)
                      clear b1 b2
                      go_wp2_with fail
                      go_roundw
                      case rel => exact ⟨j + 1, by omega, by go_num, by rw [Hyes.out]; exact HM.out.put (by omega)⟩
                      case measure => simp [intOf]; omega
                · have hjn' : j = n := by omega
                  rw [hjn', pass_row HR.out] at hM
                  have HM := hd hM
                  clear hM
                  go_wp2_with fail
                  go_roundw
                  case rel => exact ⟨l + 1, by omega, by go_num, HM.out⟩
                  case measure => simp [intOf]; omega
            · have hln' : l = n := by omega
              have Hl := hd hln'
              clear hln'
              go_wp2_with fail
              go_roundw
              case rel =>
                have h1 := HM.out
                rw [Hl.out] at h1
                exact ⟨k + 1, _, by omega, by go_num, pass_within HR.out, pass_end HR.out HT1.out, h1⟩
              case measure => simp [intOf]; omega
        · have hkn' : k = n := by omega
          have Hk := hd hkn'
          clear hkn'
          go_wp2_with fail
          go_meet
          case rel => exact ⟨R, HR.out, by rw [← Hk.out]; exact HT1.out, HM.out⟩
    case rest =>
      clear Hr HM
      obtain ⟨r, hr, htr, hM⟩ := hcut
      have Hr := hd hr
      have Htr := hd htr
      have hmk := run_make_row' (P := Ybad.prog) 27 29 (.slice none 0 0) 24 Ybad.underlying27 info29 rfl .i64 .i64 n (by omega) (by omega)
      have hsz := hM.rel.lt
      obtain ⟨A, hA⟩ : ∃ A, wc.heap.size = A := ⟨_, rfl⟩
      have hrow := World.rowIs_made wc (.slice none 0 0) n 29
      rw [hA] at hrow hsz
      have Hst := hd (show M2 w w.heap.size r n A 0 (wc.alloc (Obj.cells (madeCells #[Value.slice none 0 0] n) 29)).heap.size (fun _ => .slice none 0 0) (wc.alloc (Obj.cells (madeCells #[Value.slice none 0 0] n) 29)) from
        ⟨hM.of_blocks (Below.heap_alloc _ _ _ (by omega)) (Below.heap_alloc _ _ _ (by omega)) (hM.be.alloc (by omega) _), hrow, hsz, (fun x hx => by omega), by simp; omega, Nat.le_refl _⟩)
      clear hr htr hM hrow hsz
      go_upto_block 10 with fail
      clear hA hmk
      go_cut [22, 23] from 126 to 152 (fun _ _ wx => ∃ f, M2 w w.heap.size r n A n wx.heap.size f wx)
      case first => as_aux_lemma =>
        obtain ⟨i0, hi0, hz0, hz1, hz2⟩ := info_parts info3
        go_wp2_with fail
        go_loopw [22] (fun i wr => ∃ (k : Nat) (f : Nat → Value), k ≤ n ∧ i = .int .i64 k ∧ M2 w w.heap.size r n A k wr.heap.size f wr ∧ ∀ x, k ≤ x → x < n → f x = .slice none 0 0) (fun i _ => n - (intOf i).toNat)
        case atStart => exact ⟨0, _, Nat.zero_le _, rfl, Hst.out, fun _ _ _ => rfl⟩
        case round =>
          clear Hst
          obtain ⟨k, f, hk, rfl, hM, hnil⟩ := hrel
          have HM := hd hM
          have Hnil := hd hnil
          clear hM hnil
          by_cases hkn : k < n
          · have Hn0 := hd (show M2 w w.heap.size r n A k wr.heap.size f wr ∧ wr.ownsRow wr.heap.size 3 1 (f k) (abOf 0 r k).length (intCells (abOf 0 r k)) ∧ ∀ x, k < x → x < n → f x = .slice none 0 0 from
              ⟨HM.out, by rw [Hnil.out k (Nat.le_refl _) hkn]; exact World.ownsRow_nil _ _ _ _, fun x h1 h2 => Hnil.out x (by omega) h2⟩)
            obtain ⟨Bi, hBi⟩ : ∃ Bi, wr.heap.size = Bi := ⟨_, rfl⟩
            rw [hBi] at Hn0
            clear hBi
            go_wp2_with fail
            go_loopw [23] (fun i wx => ∃ (j : Nat) (f : Nat → Value), j ≤ n ∧ i = .int .i64 j ∧ M2 w w.heap.size r n A k Bi f wx ∧ wx.ownsRow Bi 3 1 (f k) (abOf j r k).length (intCells (abOf j r k)) ∧ ∀ x, k < x → x < n → f x = .slice none 0 0) (fun i _ => n - (intOf i).toNat)
            case atStart => exact ⟨0, f, Nat.zero_le _, rfl, Hn0.out.1, Hn0.out.2.1, Hn0.out.2.2⟩
            case round =>
              clear Hn0 HM Hnil
              obtain ⟨j, f, hj, rfl, hM, hown, hnil⟩ := hrel
              have HM := hd hM
              have Hown := hd hown
              have Hnil := hd hnil
              by_cases hjn : j < n
              · have c1 := hM.m1.rel.cell (i := k * 8 + j) (by omega)
                rw [show (k * 8 + j) / 8 = k from by omega, show (k * 8 + j) % 8 = j from by omega] at c1
                have Hab := hd (ab_step r k j)
                cases hb : r k j with
                | false =>
                  rw [hb] at c1 Hab
                  clear hM hown hnil hb
                  go_wp2_with fail
                  go_roundw
                  case rel => exact ⟨j + 1, f, by omega, by go_num, HM.out, by have := Hab.out; simp at this; rw [this]; exact Hown.out, Hnil.out⟩
                  case measure => simp [intOf]; omega
                | true =>
                  rw [hb] at c1 Hab
                  have c2 := hM.row.cell hkn
                  have hlo := hM.lo
                  have hhi := hM.hi
                  have hll := ab_len j r k
                  have hfz := hM.row.frozen k
                  have hstp := fun (w1 : World) (v' : Value) hg ho => m2_step (w1 := w1) (v' := v') (m := j) (o := Obj.cells #[Value.int IntKind.i64 (j : Int)] 3) HM.out Hown.out hg ho
                  have Hstp := hd hstp
                  obtain ⟨vk, hvk⟩ : ∃ vk, f k = vk := ⟨_, rfl⟩
                  rw [hvk] at c2 hown
                  have Hvk := hd hvk
                  clear hM hnil hb hstp hvk
                  go_wp2_with (first | (at_builtin; refine wpList_append_own _ rfl (.tmp 148) (.tmp 150) 29 rfl Bi 3 i0 (.int .i64 0) 1 8 Ybad.underlying29 hi0 hz0 hz1 hz2 rfl (by decide) _ _ _ rfl (hown.alloc _) ⟨wr.heap.size, 0, none⟩ 1 1 [.int .i64 (j : Int)] rfl rfl ?d1 ?d2 ?d3 ?d4 ?d5 ?_) | fail)
                  case d2 => first | rfl | (intro u hu; simp at hu; subst hu; rfl)
                  case d3 => unfold maxLen; omega
                  case d4 => omega
                  case d5 => first | omega | (simp; omega)
                  intro v' w1 hown' hgrow hnil'
                  have hr1 := Hstp.out w1 v' (by rw [Hvk.out]; exact hgrow) hown'
                  have hAw : w1.heap[A]? = wr.heap[A]? := by
                    rw [hgrow.block A (by simp; omega) (fun e => by have := (hown.lt A e.symm).1; omega), Below.heap_alloc _ _ _ (by omega)]
                  have c3 : w1.cell? ⟨A, k, none⟩ = some vk := (World.cell?_of_block hAw).trans c2
                  have hfz1 : w1.frozen? ⟨A, k, none⟩ = false := (World.frozen?_of_block hAw).trans hfz
                  obtain ⟨g, cap', rfl⟩ : ∃ g cap', v' = .slice (some ⟨g, 0, none⟩) ((abOf j r k).length + 1) cap' := by
                    rcases hown'.2 with ⟨_, h2⟩ | ⟨g, cap', _, h1, _⟩
                    · omega
                    · exact ⟨g, cap', h1⟩
                  have Hr1 := hd hr1
                  clear hown' hgrow hnil' hr1 hAw hown c2 hfz
                  go_wp2_with fail
                  go_roundw
                  case rel =>
                    refine ⟨j + 1, (fun x => if x = k then .slice (some ⟨g, 0, none⟩) ((abOf j r k).length + 1) cap' else f x), by omega, by go_num, Hr1.out.1, ?_, fun x h1 h2 => ?_⟩
                    · have h1 := Hab.out
                      simp only [if_true] at h1 ⊢
                      rw [h1]
                      exact Hr1.out.2
                    · simp only [show ¬ x = k from by omega, if_false]
                      exact Hnil.out x h1 h2
                  case measure => simp [intOf]; omega
              · have hjn' : j = n := by omega
                rw [hjn'] at hown
                have Hnx := hd (m2_next hM hown)
                clear hM hown hnil
                go_wp2_with fail
                go_roundw
                case rel => exact ⟨k + 1, f, by omega, by go_num, Hnx.out, fun x h1 h2 => Hnil.out x (by omega) h2⟩
                case measure => simp [intOf]; omega
          · have hkn' : k = n := by omega
            have Hk := hd hkn'
            clear hkn'
            go_wp2_with fail
            go_meet
            case rel =>
              have h1 := HM.out
              rw [Hk.out] at h1
              exact ⟨f, h1⟩
      case rest =>
        obtain ⟨f, hM⟩ := hcut
        obtain ⟨C, hC⟩ : ∃ C, wc.heap.size = C := ⟨_, rfl⟩
        rw [hC] at hM
        have HM := hd hM
        have hmm := @run_makeMap Ybad.prog
        have Hown := hd (show (wc.alloc (.map #[] 0)).ownsMap Ybad.prog 9 (plainElem Ybad.prog 3) C 0 (Dn 0) from by
          have := World.ownsMap_made wc Ybad.prog 9 (plainElem (H := Unit) Ybad.prog 3)
          rw [hC] at this
          exact this)
        have hlo := hM.lo
        have haB := hM.aB
        clear hM Hst
        go_upto_block 14 with fail
        have Hwc := hd hC
        clear hC hmm
        go_cut [25] from 153 to 163 (fun _ wx => wx.ownsMap Ybad.prog 9 (plainElem Ybad.prog 3) C n (Dn n) ∧ Below C wc wx)
        case first => as_aux_lemma =>
          go_wp2_with fail
          go_loopw [25] (fun i wr => ∃ (k : Nat), k ≤ n ∧ i = .int .i64 k ∧ wr.ownsMap Ybad.prog 9 (plainElem Ybad.prog 3) C k (Dn k) ∧ Below C wc wr) (fun i _ => n - (intOf i).toNat)
          case atStart => exact ⟨0, Nat.zero_le _, rfl, Hown.out, (Below.refl _ _).alloc (by have := Hwc.out; omega) _⟩
          case round =>
            clear Hown
            obtain ⟨k, hk, rfl, hown, hB⟩ := hrel
            have Hown := hd hown
            have HB := hd hB
            by_cases hkn : k < n
            · have c1 := (HM.out.later hB).m1.nm.cell (i := k) (by omega)
              have hwf : (Lit.int .i64 ((k : Nat) : Int)).wf = true := by go_wf
              have hky := nm_key (i := k) (by omega)
              have hpl := plainElem_int (H := Unit) Ybad.underlying3 hwf
              have hml : k < maxLen := by unfold maxLen; omega
              clear hB
              go_wp2_with (first
                | (at_mapUpdate; refine wpList_mapUpdate_own _ rfl _ _ _ 30 rfl 9 3 law9 Ybad.underlying30 _ C k _ rfl hown hml _ _ _ rfl rfl hky _ _ hpl ?_; intro w1 hown1 hgrow1)
                | fail)
              have Hn := hd hown1
              have HB1 := hd (HB.out.grown hgrow1 (by have h1 := HB.out.size; have h2 := Hwc.out; omega) (fun j hj => by cases hj; exact Nat.le_refl _))
              clear hown1 hgrow1 hown
              go_roundw
              case rel => exact ⟨k + 1, by omega, by go_num, Hn.out, HB1.out⟩
              case measure => simp [intOf]; omega
            · have hkn' : k = n := by omega
              rw [hkn'] at hown
              have Hn := hd hown
              clear hown hB hkn'
              go_wp2_with fail
              go_meet
              case rel => exact ⟨Hn.out, HB.out⟩
        case rest =>
          clear Hown
          obtain ⟨hown, hB⟩ := hcut
          have HM5 := hd (HM.out.later hB)
          have Hown := hd hown
          have hmk61 := run_make_row' (P := Ybad.prog) 61 9 (.string ByteArray.empty) 16 Ybad.underlying61 info9 rfl .i64 .i64 lP (by omega) (by omega)
          have hmk28 := run_make_row' (P := Ybad.prog) 28 3 (.int .i64 0) 8 Ybad.underlying28 info3 rfl .i64 .i64 lP (by omega) (by omega)
          obtain ⟨G, hG⟩ : ∃ G, wc.heap.size = G := ⟨_, rfl⟩
          obtain ⟨ix, hix⟩ : ∃ ix : Nat → Nat, ∀ t, t < lP → fP t % ((n : Int) + 1) = ((ix t : Nat) : Int) ∧ ix t ≤ n := ⟨fun t => (fP t % ((n : Int) + 1)).toNat, fun t _ => by
            have h1 := Int.emod_nonneg (fP t) (b := (n : Int) + 1) (by omega)
            have h2 := Int.emod_lt_of_pos (fP t) (b := (n : Int) + 1) (by omega)
            dsimp only
            omega⟩
          have HG := hd hG
          have Hix := hd hix
          clear HM Hwc hown hB hix
          go_upto_block 16 with fail
          have Hst4 := hd (m4_start (ix := ix) (lP := lP) (m3_start (mx := mx)
            (c1 := #[Value.slice none 0 0, Value.map none, Value.slice none 0 0, Value.slice none 0 0, Value.int IntKind.i64 (mx : Int), Value.int IntKind.i64 0, Value.slice none 0 0, Value.slice none 0 0, Value.slice none 0 0, Value.slice none 0 0, Value.slice (some ⟨A, 0, none⟩) n n, Value.slice none 0 0, Value.slice none 0 0, Value.int IntKind.i64 0, Value.slice none 0 0, Value.int IntKind.u32 0, Value.int IntKind.i32 0, Value.int IntKind.u32 0, Value.bool false, Value.slice none 0 0, Value.slice none 0 0])
            (c2 := #[Value.slice none 0 0, Value.map (some C), Value.slice none 0 0, Value.int IntKind.i64 0, Value.slice none 0 0, Value.slice none 0 0, Value.pointer (some ⟨G, 0, none⟩), Value.int IntKind.u64 0, Value.map none, Value.slice none 0 0, Value.map none, Value.slice none 0 0, Value.slice none 0 0, Value.slice none 0 0, Value.slice none 0 0, Value.slice none 0 0, Value.slice none 0 0])
            HM5.out Hown.out HG.out rfl rfl rfl rfl) (by simp [HG.out]))
          clear hG hmk61 hmk28 Hown HM5
          go_cut [29, 30] from 164 to 211 (fun _ _ wx => M4 w w.heap.size r n A f C G mx ix lP lP wx)
          case first => as_aux_lemma =>
            go_wp2_with fail
            go_loopw [29] (fun i wr => ∃ (k : Nat), k ≤ lP ∧ i = .int .i64 k ∧ M4 w w.heap.size r n A f C G mx ix lP k wr) (fun i _ => lP - (intOf i).toNat)
            case atStart => exact ⟨0, Nat.zero_le _, rfl, Hst4.out⟩
            case round =>
              clear Hst4
              obtain ⟨k, hk, rfl, hM⟩ := hrel
              have HM := hd hM
              by_cases hkn : k < lP
              · obtain ⟨b, off, rfl, hc⟩ := HP.out k hkn
                obtain ⟨hck, hf0, hf1⟩ := hc k hkn
                obtain ⟨hx1, hx2⟩ := Hix.out k hkn
                have hcx := cell_later hM.m3.m2.m1.be hck
                have hnm := hM.m3.m2.m1.nm
                have hr1 := hM.rol.cell hkn
                have hr2 := hM.rol.frozen k
                have hs1 := hM.slo.cell hkn
                have hs2 := hM.slo.frozen k
                clear hM hc hck
                by_cases hin : ix k = n
                · have hb : (((ix k : Nat) : Int) == (n : Int)) = true := by simp [hin]
                  have h8 := hnm.cell (i := 8) (by omega)
                  have Hstp := hd (HM.out.step (s := nmB 8) (v := 0) (by simp [pk, hin]) (by simp [sl, hin]))
                  clear hnm hin
                  go_wp2_with fail
                  go_roundw
                  case rel => exact ⟨k + 1, by omega, by go_num, Hstp.out⟩
                  case measure => simp [intOf]; omega
                · have hb : (((ix k : Nat) : Int) == (n : Int)) = false := by simp; omega
                  have h8 := hnm.cell (i := ix k) (by omega)
                  have Hstp := hd (HM.out.step (s := nmB (ix k)) (v := ((ix k : Nat) : Int)) (by simp [pk, hin]) (by simp [sl, hin]))
                  clear hnm hin
                  go_wp2_with fail
                  go_roundw
                  case rel => exact ⟨k + 1, by omega, by go_num, Hstp.out⟩
                  case measure => simp [intOf]; omega
              · have hkn' : k = lP := by omega
                rw [hkn'] at hM
                have HM1 := hd hM
                clear hM hkn'
                go_wp2_with fail
                go_meet
                case rel => exact HM1.out
          case rest =>
            clear Hst4
            have HM4 := hd hcut
            clear hcut
            obtain ⟨nE, hnE⟩ : ∃ nE : Nat, (lE : Int) / 2 = ((nE : Nat) : Int) := ⟨lE / 2, by omega⟩
            have hn2 : 2 * nE ≤ lE := by omega
            have hn3 : nE ≤ 2000 := by omega
            obtain ⟨ev, hev⟩ : ∃ ev : Nat → Nat, ∀ t, t < lE → fE t % (n : Int) = ((ev t : Nat) : Int) ∧ ev t < n := ⟨fun t => (fE t % (n : Int)).toNat, fun t _ => by
              have h1 := Int.emod_nonneg (fE t) (b := (n : Int)) (by omega)
              have h2 := Int.emod_lt_of_pos (fE t) (b := (n : Int)) (by omega)
              dsimp only
              omega⟩
            have Hev := hd hev
            have hmk62 := make62 nE hn3
            obtain ⟨E, hE⟩ : ∃ E, wc.heap.size = E := ⟨_, rfl⟩
            have HE2 := hd hE
            have Hst5 := hd (m5_start (nE := nE) (ev := ev) HM4.out)
            rw [hE] at Hst5
            clear hev
            go_upto_block 18 with fail
            clear hmk62 hE hnE
            go_cut [32] from 212 to 242 (fun _ wx => M5 w w.heap.size r n A f C G mx ix lP E nE ev nE wx)
            case first => as_aux_lemma =>
              go_wp2_with fail
              go_loopw [32] (fun i wr => ∃ (k : Nat), k ≤ nE ∧ i = .int .i64 k ∧ M5 w w.heap.size r n A f C G mx ix lP E nE ev k wr) (fun i _ => nE - (intOf i).toNat)
              case atStart => exact ⟨0, Nat.zero_le _, rfl, Hst5.out⟩
              case round =>
                clear Hst5
                obtain ⟨k, hk, rfl, hM⟩ := hrel
                have HM := hd hM
                by_cases hkn : k < nE
                · obtain ⟨b, off, rfl, hc⟩ := HE.out (2 * k) (by omega)
                  obtain ⟨hck, hf0, hf1⟩ := hc (2 * k) (by omega)
                  obtain ⟨hck2, hf2, hf3⟩ := hc (2 * k + 1) (by omega)
                  obtain ⟨hx1, hx2⟩ := Hev.out (2 * k) (by omega)
                  obtain ⟨hx3, hx4⟩ := Hev.out (2 * k + 1) (by omega)
                  have hcx := cell_later hM.m4.m3.m2.m1.be hck
                  have hcy := cell_later hM.m4.m3.m2.m1.be hck2
                  have he1 := hM.edg.cell (i := k * 2) (by omega)
                  have he2 := hM.edg.cell (i := k * 2 + 1) (by omega)
                  have he3 := hM.edg.frozen (k * 2)
                  have he4 := hM.edg.frozen (k * 2 + 1)
                  have Hstp := hd hM.step
                  clear hM hc hck hck2
                  have hb1 : (2 * (k : Int)) < (lE : Int) := by omega
                  have hb2 : (2 * (k : Int) + 1) < (lE : Int) := by omega
                  go_wp2_with fail
                  go_region
                  go_wp2_with fail
                  go_roundw
                  case rel => exact ⟨k + 1, by omega, by go_num, Hstp.out.drew⟩
                  case measure => simp [intOf]; omega
                · have hkn' : k = nE := by omega
                  rw [hkn'] at hM
                  have HM1 := hd hM
                  clear hM hkn'
                  go_wp2_with fail
                  go_meet
                  case rel => exact HM1.out
            case rest =>
              clear Hst5
              have HM := hd hcut
              clear hcut
              go_wp2_with fail
              refine (sides_call HM.out HT.out hn1 hn8 Hr.out Htr.out hmx2 (by omega) (by omega) (fun t ht => (Hix.out t ht).2) (fun t ht => (Hev.out t (by omega)).2)).mono ?_
              rintro e w7 ⟨g, rfl, hM6, hB7⟩
              have HM6 := hd hM6
              clear hM6 hB7 HM HM4
              generalize wc.heap.size = Sb at HM6 ⊢
              go_wp2_with fail
              go_loopg [34] lP (fun gk kv wr => ∃ k : Nat, k ≤ lP ∧ kv = .int .i64 k ∧ M6 w w.heap.size r n A f C G mx ix lP E nE ev Sb g wr ∧ lP - k ≤ gk)
              case atStart => exact ⟨0, Nat.zero_le _, rfl, HM6.out, by omega⟩
              case round =>
                clear HM6
                obtain ⟨k, hk, rfl, hM, hgk⟩ := hrel
                rename World => wq
                have HM := hd hM
                by_cases hkn : k < lP
                · have hsl := hM.m5.m4.slo.cell hkn
                  rw [if_pos hkn] at hsl
                  have hs8 : sl n ix k < n := sl_lt hn1 (Hix.out k hkn).2
                  have hblt := hM.m5.m4.slo.lt
                  have Hin := hd (inm_start1 wq (sl n ix k))
                  have hz8 := zero8 (i := sl n ix k) (by omega)
                  clear hM
                  go_upto_block 22 with fail
                  clear hsl hblt hz8
                  generalize hI : wq.heap.size = I at Hin ⊢
                  have HI := hd hI
                  clear hI
                  go_cut [36, 37, 38, 40] from 263 to 301 (fun _ _ _ _ wx => ∃ J, InM wq I J wx ∧ InHalf n (abOf n r) (esOf nE ev) (sl n ix k) J ∧ Closed (abOf n r) (esOf nE ev) J)
                  case first => as_aux_lemma =>
                    go_wp2_with fail
                    go_loopw [36] (fun i wx => ∃ (t : Nat) (J : Nat → Bool), t ≤ n + 1 ∧ i = .int .i64 t ∧ InM wq I J wx ∧ InHalf n (abOf n r) (esOf nE ev) (sl n ix k) J ∧ (Closed (abOf n r) (esOf nE ev) J ∨ t + 1 ≤ card n J)) (fun i _ => n + 1 - (intOf i).toNat)
                    case atStart => exact ⟨0, _, Nat.zero_le _, rfl, Hin.out, inhalf_start hs8, .inr (card_one (r := r) (es := esOf nE ev) (inhalf_start hs8))⟩
                    case round =>
                      clear Hin
                      obtain ⟨t, J0, ht, rfl, hin, hhf, hcl⟩ := hrel
                      have Hin := hd hin
                      have Hhf := hd hhf
                      have Hcl := hd hcl
                      clear hin hhf hcl
                      by_cases htn : t ≤ n
                      · go_wp2_with fail
                        go_loopw [37] (fun i wx => ∃ (x : Nat) (J : Nat → Bool), x ≤ n ∧ i = .int .i64 x ∧ InM wq I J wx ∧ P13 n r (esOf nE ev) (sl n ix k) J0 x J) (fun i _ => n - (intOf i).toNat)
                        case atStart => exact ⟨0, _, Nat.zero_le _, rfl, Hin.out, p13_start Hhf.out⟩
                        case round =>
                          clear Hin
                          obtain ⟨x, J, hx, rfl, hin, hp⟩ := hrel
                          have Hin := hd hin
                          have Hp := hd hp
                          by_cases hxn : x < n
                          · have cx := hin.row.cell (i := x) (by omega)
                            clear hin hp
                            cases hJx : J x with
                            | false =>
                              rw [hJx] at cx
                              have Hsk := hd (Hp.out.skip hJx)
                              clear hJx
                              go_wp2_with fail
                              go_roundw
                              case rel => exact ⟨x + 1, J, by omega, by go_num, Hin.out, Hsk.out⟩
                              case measure => simp [intOf]; omega
                            | true =>
                              rw [hJx] at cx
                              have Hen := hd (Hp.out.enter hJx)
                              clear hJx
                              go_wp2_with fail
                              go_loopw [38] (fun i wx => ∃ (j : Nat) (J : Nat → Bool), j ≤ n ∧ i = .int .i64 j ∧ InM wq I J wx ∧ P14 n r (esOf nE ev) (sl n ix k) J0 x j J) (fun i _ => n - (intOf i).toNat)
                              case atStart => exact ⟨0, J, Nat.zero_le _, rfl, Hin.out, Hen.out⟩
                              case round =>
                                clear Hin Hp cx Hen
                                obtain ⟨j, J, hj, rfl, hin, hp⟩ := hrel
                                have Hin := hd hin
                                have Hp := hd hp
                                by_cases hjn : j < n
                                · have hM7 := HM.out.later (by rw [HI.out]; exact hin.be)
                                  have c1 := hM7.m5.m4.m3.m2.m1.rel.cell (i := x * 8 + j) (by omega)
                                  rw [show (x * 8 + j) / 8 = x from by omega, show (x * 8 + j) % 8 = j from by omega] at c1
                                  have c2 := hin.row.cell (i := j) (by omega)
                                  have hfz := hin.row.frozen j
                                  clear hM7 hin hp
                                  cases hb : r x j with
                                  | false =>
                                    rw [hb] at c1
                                    have Hno := hd (Hp.out.no hb)
                                    clear hb
                                    go_wp2_with fail
                                    go_roundw
                                    case rel => exact ⟨j + 1, J, by omega, by go_num, Hin.out, Hno.out⟩
                                    case measure => simp [intOf]; omega
                                  | true =>
                                    rw [hb] at c1
                                    have Hys := hd (Hp.out.yes Hr.out hb)
                                    clear hb
                                    go_wp2_with fail
                                    go_roundw
                                    case rel => exact ⟨j + 1, _, by omega, by go_num, Hin.out.put j, Hys.out⟩
                                    case measure => simp [intOf]; omega
                                · have hjn' : j = n := by omega
                                  rw [hjn'] at hp
                                  have Hlv := hd (hp.leave Hr.out)
                                  clear hin hp hjn'
                                  go_wp2_with fail
                                  go_roundw
                                  case rel => exact ⟨x + 1, J, by omega, by go_num, Hin.out, Hlv.out⟩
                                  case measure => simp [intOf]; omega
                          · have hxn' : x = n := by omega
                            rw [hxn'] at hp
                            have Hlv := hd (hp.leave Hr.out)
                            clear hin hp hxn'
                            go_wp2_with fail
                            go_loopw [290] (fun i wx => ∃ (q : Nat) (J : Nat → Bool), q ≤ nE ∧ i = .int .i64 q ∧ InM wq I J wx ∧ P15 n r nE ev (sl n ix k) J0 q J) (fun i _ => nE - (intOf i).toNat)
                            case atStart => exact ⟨0, J, Nat.zero_le _, rfl, Hin.out, Hlv.out⟩
                            case round =>
                              clear Hin Hp Hlv
                              obtain ⟨q, J, hq, rfl, hin, hp⟩ := hrel
                              have Hin := hd hin
                              have Hp := hd hp
                              by_cases hqn : q < nE
                              · have hM7 := HM.out.later (by rw [HI.out]; exact hin.be)
                                have hilt := hin.row.lt
                                obtain ⟨_, hx2⟩ := Hev.out (2 * q) (by omega)
                                obtain ⟨_, hx4⟩ := Hev.out (2 * q + 1) (by omega)
                                obtain ⟨c1, c2⟩ := edge_cell hM7.m5 hqn
                                have c3 := hin.row.cell (i := ev (2 * q)) (by omega)
                                have c4 := hin.row.cell (i := ev (2 * q + 1)) (by omega)
                                have hfz := hin.row.frozen (ev (2 * q + 1))
                                clear hM7 hin hp
                                cases hb : J (ev (2 * q)) with
                                | false =>
                                  rw [hb] at c3
                                  have Hno := hd (Hp.out.no hb)
                                  clear hb
                                  go_wp2_with fail
                                  go_roundw
                                  case rel => exact ⟨q + 1, J, by omega, by go_num, Hin.out.alloc _, Hno.out⟩
                                  case measure => simp [intOf]; omega
                                | true =>
                                  rw [hb] at c3
                                  have Hys := hd (Hp.out.yes hqn hx4 hb)
                                  clear hb
                                  go_wp2_with fail
                                  go_roundw
                                  case rel => exact ⟨q + 1, _, by omega, by go_num, (Hin.out.put _).alloc _, Hys.out⟩
                                  case measure => simp [intOf]; omega
                              · have hqn' : q = nE := by omega
                                rw [hqn'] at hp
                                have Hlv := hd (hp.leave Hr.out Hhf.out.m_ Hcl.out)
                                have Hh2 := hd hp.half
                                clear hin hp hqn'
                                go_wp2_with fail
                                go_roundw
                                case rel => exact ⟨t + 1, J, by omega, by go_num, Hin.out, Hh2.out, Hlv.out⟩
                                case measure => simp [intOf]; omega
                      · have htn' : t = n + 1 := by omega
                        have Ht := hd htn'
                        clear htn'
                        go_wp2_with fail
                        go_meet
                        case rel =>
                          have h1 := Hcl.out
                          rw [Ht.out] at h1
                          exact ⟨J0, Hin.out, Hhf.out, closed_end h1⟩
                  case rest =>
                    clear Hin
                    obtain ⟨J, hin, hhf, hcl⟩ := hcut
                    have Hin := hd hin
                    have Hhf := hd hhf
                    have Hcl := hd hcl
                    have c1 := hin.row.cell (i := mx) (by omega)
                    have hfz := hin.row.frozen mx
                    clear hin hhf hcl
                    have Hin2 := hd (Hin.out.put mx)
                    obtain ⟨g0, cap, S, hgv, hgne, hS, hcS, hside⟩ := HM.out.side k hkn
                    have hF := side_eq hside Hhf.out Hcl.out
                    have hpc := pop_card hn8 hF (put1_lt Hhf.out hmx2)
                    generalize put1 J mx = F at Hin2 hF hpc
                    have HF := hd hF
                    have Hpc := hd hpc
                    have HcS := hd hcS
                    have Hgv := hd hgv
                    clear hF hpc hcS hgv hside hgne
                    go_upto_block 30 with fail
                    clear Hin Hhf Hcl c1 hfz
                    go_wp2_with fail
                    go_loopw [41, 42] (fun cv iv wx => ∃ (i : Nat), i ≤ n ∧ iv = .int .i64 i ∧ cv = .int .i64 ((card i F : Nat) : Int) ∧ InM wq I F wx) (fun _ i _ => n - (intOf i).toNat)
                    case atStart => exact ⟨0, Nat.zero_le _, rfl, rfl, Hin2.out⟩
                    case round =>
                      clear Hin2
                      obtain ⟨i, hi, rfl, rfl, hin⟩ := hrel
                      have Hin := hd hin
                      have hbe : Below wq.heap.size wq wr := by rw [HI.out]; exact hin.be
                      have c0 := (HM.out.later hbe).row.cell hkn
                      rw [Hgv.out] at c0
                      have cS := cell_later hbe HcS.out
                      have hci := card_le i F
                      by_cases hin' : i < n
                      · have ci := hin.row.cell (i := i) (by omega)
                        have hcall := fun q => has_some g0 cap S i (wr.drewN q) (by omega) hS (by simpa using cS)
                        simp only [HF.out i] at hcall
                        have Hcd := hd (card_succ i F)
                        clear hin hbe
                        cases hb : F i with
                        | false =>
                          rw [hb] at ci Hcd
                          simp only [hb] at hcall
                          clear hb
                          go_wp2_with fail
                          go_quiet (first | (go_at_call 5; exact Calls.quiet_of (hcall _)))
                          go_wp2_with fail
                          go_roundw
                          case rel => exact ⟨i + 1, by omega, by go_num, by rw [Hcd.out]; rfl, Hin.out.drewN _⟩
                          case measure => simp [intOf]; omega
                        | true =>
                          rw [hb] at ci Hcd
                          simp only [hb] at hcall
                          clear hb
                          go_wp2_with fail
                          go_quiet (first | (go_at_call 5; exact Calls.quiet_of (hcall _)))
                          go_wp2_with fail
                          go_roundw
                          case rel => exact ⟨i + 1, by omega, by go_num, by rw [Hcd.out]; go_num, Hin.out.drewN _⟩
                          case measure => simp [intOf]; omega
                      · have hin2 : i = n := by omega
                        have hcnt := count_some g0 cap S wr hS cS
                        rw [Hpc.out, ← hin2] at hcnt
                        have Hcnt := hd hcnt
                        have Hbe := hd hbe
                        clear hin hbe hcnt hin2
                        go_wp2_with fail
                        refine Hcnt.out.mono ?_
                        rintro e w8 ⟨rfl, rfl⟩
                        go_wp2_with fail
                        go_roundg (lP - (k + 1))
                        case rel => exact ⟨k + 1, by omega, by go_num, HM.out.later Hbe.out, Nat.le_refl _⟩
                        case measure => omega
                · clear hM
                  go_wp2_with fail
                  go_ret
                  exact ⟨rfl, HM.out.m5.m4.m3.m2.m1.be⟩
end SideW
end Go.Proofs.YbulkcmoqDoor
