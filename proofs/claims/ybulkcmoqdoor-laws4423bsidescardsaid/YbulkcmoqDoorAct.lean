import Derived.Test.YbulkcmoqDoorPlain
import Derived.Deep.LoopGhost
namespace Go.Proofs.YbulkcmoqDoor
namespace SideW
open Go.RowKit

/-- The role graph in memory, below block B0. -/
structure Graph (B0 : Nat) (w : World) (n : Nat) (ab : Nat → List Nat) (G A maxR : Nat) : Prop where
  gB : G < B0
  aB : A < B0
  above : w.cell? ⟨G, 10, none⟩ = some (.slice (some ⟨A, 0, none⟩) n n)
  maxr : w.cell? ⟨G, 4, none⟩ = some (.int .i64 (maxR : Int))
  row : ∀ r, r < n → ∃ a cap, w.cell? ⟨A, r, none⟩ = some (.slice a (ab r).length cap) ∧ Ints B0 w a (ab r)

theorem Graph.later {B0 : Nat} {w w' : World} {n : Nat} {ab : Nat → List Nat} {G A maxR : Nat} (h : Graph B0 w n ab G A maxR) (hb : Below B0 w w') : Graph B0 w' n ab G A maxR :=
  ⟨h.gB, h.aB, (hb.cell (p := ⟨G, 10, none⟩) h.gB).trans h.above, (hb.cell (p := ⟨G, 4, none⟩) h.gB).trans h.maxr, fun r hr => by
    obtain ⟨a, cap, h1, h2⟩ := h.row r hr
    exact ⟨a, cap, (hb.cell (p := ⟨A, r, none⟩) h.aB).trans h1, h2.later hb⟩⟩

/-- What is known of the numbers. -/
structure Small (n : Nat) (ab : Nat → List Nat) (maxR : Nat) : Prop where
  n8 : n ≤ 8
  lt : ∀ r j, j ∈ ab r → j < n
  len : ∀ r, (ab r).length < 100000
  tr : ∀ x y z, y ∈ ab x → z ∈ ab y → z ∈ ab x
  mx : maxR < n

set_option maxRecDepth 100000 in
set_option maxHeartbeats 1600000 in
theorem reach_any (B0 q gv S r n G A maxR : Nat) (ab : Nat → List Nat) (w : World) (hs : Small n ab maxR) (h : BS B0 w q S) (hg : Graph B0 w n ab G A maxR) (hv : w.cell? ⟨gv, 0, none⟩ = some (.pointer (some ⟨G, 0, none⟩))) (hgv : gv < B0) (hr : r < n) :
    Calls Ybad.prog 10 #[.int .i64 (r : Int), .pointer (some ⟨q, 0, none⟩), .pointer (some ⟨gv, 0, none⟩)] w fun e w' => e = .returned (.tuple #[]) ∧ BS B0 w' q (reach ab S r) ∧ Below B0 w w' := by
  have hn8 := hs.n8
  go_enter Ybad.func10, Ybad.ntmps10
  go_wp2_with fail
  refine (add_any B0 q S r w (by omega) h).mono ?_
  rintro e w1 ⟨rfl, hbs1, hB1⟩
  have hg1 := hg.later hB1
  obtain ⟨a, cap, hrow, hints⟩ := hg1.row r hr
  have c1 := hg1.above
  have c2 := (hB1.cell (p := ⟨gv, 0, none⟩) hgv).trans hv
  have H1 := hd hbs1
  have H2 := hd hB1
  have H3 := hd hints
  clear hbs1 hB1 hg hg1 h hints
  go_wp2_with fail
  refine (addAll_any B0 q _ a cap (ab r) w1 H1.out H3.out (fun m hm => by have := hs.lt r m hm; omega) (hs.len r)).mono ?_
  rintro e w2 ⟨rfl, hbs2, hB2⟩
  have H4 := hd hbs2
  have H5 := hd (H2.out.trans hB2)
  clear hbs2 hB2
  go_wp2_with fail
  go_end0
  exact ⟨rfl, H4.out, H5.out⟩

/-- The activation-only edges in memory, below block B0. -/
def Edges (B0 : Nat) (w : World) (ae : Option Addr) (es : List (Nat × Nat)) : Prop :=
  es = [] ∨ ∃ b, ae = some ⟨b, 0, none⟩ ∧ b < B0 ∧ ∀ j, (h : j < es.length) → w.cell? ⟨b, j * 2, none⟩ = some (.int .i64 ((es[j].1 : Nat) : Int)) ∧ w.cell? ⟨b, j * 2 + 1, none⟩ = some (.int .i64 ((es[j].2 : Nat) : Int))

theorem Edges.later {B0 : Nat} {w w' : World} {ae : Option Addr} {es : List (Nat × Nat)} (h : Edges B0 w ae es) (hb : Below B0 w w') : Edges B0 w' ae es := by
  rcases h with h | ⟨b, rfl, hlt, hc⟩
  · exact .inl h
  · exact .inr ⟨b, rfl, hlt, fun j hj => ⟨(hb.cell (p := ⟨b, j * 2, none⟩) hlt).trans (hc j hj).1, (hb.cell (p := ⟨b, j * 2 + 1, none⟩) hlt).trans (hc j hj).2⟩⟩

theorem Tab.below {w w' : World} {B0 : Nat} (h : Tab w) (hB : 0 < B0) (hb : Below B0 w w') : Tab w' := fun i hi => (hb.cell (p := ⟨0, i, none⟩) hB).trans (h i hi)

theorem Ints.mono {B0 B1 : Nat} {w : World} {a : Option Addr} {ms : List Nat} (h : Ints B0 w a ms) (hb : B0 ≤ B1) : Ints B1 w a ms := by
  rcases h with h | ⟨b, off, rfl, hlt, hc⟩
  · exact .inl h
  · exact .inr ⟨b, off, rfl, by omega, hc⟩
theorem Edges.mono {B0 B1 : Nat} {w : World} {a : Option Addr} {es : List (Nat × Nat)} (h : Edges B0 w a es) (hb : B0 ≤ B1) : Edges B1 w a es := by
  rcases h with h | ⟨b, rfl, hlt, hc⟩
  · exact .inl h
  · exact .inr ⟨b, rfl, by omega, hc⟩
theorem Graph.mono {B0 B1 : Nat} {w : World} {n : Nat} {ab : Nat → List Nat} {G A maxR : Nat} (h : Graph B0 w n ab G A maxR) (hb : B0 ≤ B1) : Graph B1 w n ab G A maxR :=
  ⟨by have := h.gB; omega, by have := h.aB; omega, h.above, h.maxr, fun r hr => by
    obtain ⟨a, cap, h1, h2⟩ := h.row r hr
    exact ⟨a, cap, h1, h2.mono hb⟩⟩

/-- The memory of 'activators' under way: block B holds g, block B + 1 the set reached. -/
structure St (w : World) (B n : Nat) (ab : Nat → List Nat) (es : List (Nat × Nat)) (ae : Option Addr) (G A maxR S : Nat) (W : World) : Prop where
  bs : BS (B + 1) W (B + 1) S
  gr : Graph (B + 1) W n ab G A maxR
  gv : W.cell? ⟨B, 0, none⟩ = some (.pointer (some ⟨G, 0, none⟩))
  ed : Edges (B + 1) W ae es
  be : Below B w W
  sz : B + 1 < W.heap.size

theorem St.step {w : World} {B n : Nat} {ab : Nat → List Nat} {es : List (Nat × Nat)} {ae : Option Addr} {G A maxR S S' : Nat} {W W' : World} (h : St w B n ab es ae G A maxR S W) (hb : Below (B + 1) W W') (hs : BS (B + 1) W' (B + 1) S') : St w B n ab es ae G A maxR S' W' :=
  ⟨hs, h.gr.later hb, (hb.cell (p := ⟨B, 0, none⟩) (by show B < B + 1; omega)).trans h.gv, h.ed.later hb, h.be.trans (hb.mono (by omega)), Nat.lt_of_lt_of_le h.sz hb.size⟩

/-- Nothing that was there has turned. -/
theorem St.later {w : World} {B n : Nat} {ab : Nat → List Nat} {es : List (Nat × Nat)} {ae : Option Addr} {G A maxR S : Nat} {W W' : World} (h : St w B n ab es ae G A maxR S W) (hb : Below W.heap.size W W') : St w B n ab es ae G A maxR S W' :=
  h.step (hb.mono (by have := h.sz; omega)) (h.bs.of_block fun k _ hk => hb.block k hk)

theorem St.drewN {w : World} {B n : Nat} {ab : Nat → List Nat} {es : List (Nat × Nat)} {ae : Option Addr} {G A maxR S : Nat} {W : World} (h : St w B n ab es ae G A maxR S W) (q : Nat) : St w B n ab es ae G A maxR S (W.drewN q) :=
  h.later (below_drewN (Below.refl _ _) q)

/-- A pair that leads to nothing new. -/
theorem take_step {es : List (Nat × Nat)} {k S S' x y : Nat} {b' : Bool} (ht : es.take (k + 1) = es.take k ++ [(x, y)]) (hf : b' = false → S' = S ∧ ∀ e ∈ es.take k, S.testBit e.1 = true → S.testBit e.2 = true) (hxy : S'.testBit x = true → S'.testBit y = true) :
    b' = false → S' = S ∧ ∀ e ∈ es.take (k + 1), S.testBit e.1 = true → S.testBit e.2 = true := by
  intro hb
  obtain ⟨h1, h2⟩ := hf hb
  refine ⟨h1, ?_⟩
  rw [ht]
  intro e he
  rcases List.mem_append.1 he with he | he
  · exact h2 e he
  · simp at he
    subst he
    rw [← h1]
    exact hxy

theorem st_start {w : World} {n : Nat} {ab : Nat → List Nat} {es : List (Nat × Nat)} {ae : Option Addr} {G A maxR : Nat} (hg : Graph w.heap.size w n ab G A maxR) (he : Edges w.heap.size w ae es) :
    St w w.heap.size n ab es ae G A maxR 0 ((w.alloc (Obj.cells #[Value.pointer (some ⟨G, 0, none⟩)] 32)).alloc (Obj.cells #[Value.slice none 0 0] 67)) := by
  have hb : Below w.heap.size w ((w.alloc (Obj.cells #[Value.pointer (some ⟨G, 0, none⟩)] 32)).alloc (Obj.cells #[Value.slice none 0 0] 67)) := ((Below.refl _ _).alloc (Nat.le_refl _) _).alloc (by simp) _
  refine ⟨⟨Nat.le_refl _, by omega, .inl ⟨rfl, ?_⟩⟩, (hg.later hb).mono (by omega), ?_, (he.later hb).mono (by omega), hb, by simp⟩
  · have := (MapKept.heap_alloc (w.alloc (Obj.cells #[Value.pointer (some ⟨G, 0, none⟩)] 32)) (Obj.cells #[Value.slice none 0 0] 67)).1
    simpa using this
  · simp [go_sem]

set_option maxRecDepth 100000 in
set_option maxHeartbeats 4000000 in
theorem act_any (p g0 cap m n G A maxR : Nat) (ae : Option Addr) (ce : Nat) (ab : Nat → List Nat) (es : List (Nat × Nat)) (w : World) (hs : Small n ab maxR) (hm : m < n)
    (hp : w.cell? ⟨p, 6, none⟩ = some (.pointer (some ⟨G, 0, none⟩))) (hg : Graph w.heap.size w n ab G A maxR) (hw : w.cell? ⟨g0, 0, none⟩ = some (.int .u64 ((2 ^ m : Nat) : Int))) (ht : Tab w)
    (he : Edges w.heap.size w ae es) (hen : ∀ e ∈ es, e.1 < n ∧ e.2 < n) (hel : es.length < 100000) :
    Calls Ybad.prog 7 #[.pointer (some ⟨p, 0, none⟩), .slice (some ⟨g0, 0, none⟩) 1 cap, .slice ae es.length ce] w fun e w' => ∃ g cap' S, w.heap.size ≤ g ∧ e = .returned (.slice (some ⟨g, 0, none⟩) 1 cap') ∧ S < 256 ∧ w'.cell? ⟨g, 0, none⟩ = some (.int .u64 ((S : Nat) : Int)) ∧ Side ab es m maxR S ∧ Below w.heap.size w w' := by
  have hn8 := hs.n8
  have hlg : g0 < w.heap.size := World.block_lt_of_cell? _ _ hw
  have hmf : ∀ (fn : Fn) (first cap : Array Value) (w : World), (Instr.makeFunc fn first cap).run Ybad.prog w = .ok (.func fn first cap) w := fun _ _ _ _ => rfl
  have Hs := hd hs
  have Hg := hd hg
  have Ht := hd ht
  have He := hd he
  have Hen := hd hen
  clear hs hg ht he hen
  go_enter Ybad.func7, Ybad.ntmps7
  go_wp2_with fail
  have hst := st_start (ae := ae) Hg.out He.out
  have hB0 : Below w.heap.size w ((w.alloc (Obj.cells #[Value.pointer (some ⟨G, 0, none⟩)] 32)).alloc (Obj.cells #[Value.slice none 0 0] 67)) := hst.be
  have hT0 := Ht.out.later hB0
  have hw0 := cell_later hB0 hw
  have Hst := hd hst
  clear hst hB0 hp hw
  generalize (w.alloc (Obj.cells #[Value.pointer (some ⟨G, 0, none⟩)] 32)).alloc (Obj.cells #[Value.slice none 0 0] 67) = W0 at Hst hT0 hw0 ⊢
  refine (members_one g0 cap (2 ^ m) m W0 hw0 (oneBit hT0 (by omega))).mono ?_
  rintro e w1 ⟨b1, cap1, rfl, hc1, hB1⟩
  have Hst1 := hd (Hst.out.later hB1)
  clear hB1 hT0 hw0 Hst
  have hsz := Hst1.out.sz
  go_wp2_with fail
  refine wp_loop_rounds 2 ?_
  rw [rounds_succ]
  go_wp2_with fail
  refine (reach_any (w.heap.size + 1) (w.heap.size + 1) w.heap.size 0 m n G A maxR ab w1 Hs.out Hst1.out.bs Hst1.out.gr Hst1.out.gv (by omega) hm).mono ?_
  rintro e w2 ⟨rfl, hbs2, hB2⟩
  have Hst2 := hd (Hst1.out.step hB2 hbs2)
  have Hh2 := hd (half_start (es := es) (m := m) Hs.out.tr)
  clear hbs2 hB2 Hst1 hc1 hsz
  go_wp2_with fail
  rw [rounds_succ]
  go_wp2_with fail
  go_loopg [12] 257 (fun gk fl wr => ∃ (S : Nat) (b : Bool), fl = .bool b ∧ St w w.heap.size n ab es ae G A maxR S wr ∧ Half ab es m S ∧ (b = false → ∀ e ∈ es, S.testBit e.1 = true → S.testBit e.2 = true) ∧ (b = true → 257 - S ≤ gk))
  case atStart =>
    refine ⟨reach ab 0 m, decide (0 < es.length), rfl, Hst2.out, Hh2.out, ?_, fun _ => by omega⟩
    intro h0 e he
    have : es = [] := by simpa using h0
    rw [this] at he
    cases he
  case round =>
    clear Hst2 Hh2
    obtain ⟨S, fl, rfl, hst, hh, hcl, hgk⟩ := hrel
    have Hst := hd hst
    have Hh := hd hh
    have Hcl := hd hcl
    have hS := hst.bs.2.1
    cases fl with
    | false =>
      obtain ⟨v, hv, hcase⟩ := hst.bs.val
      rcases hcase with ⟨rfl, h0⟩ | ⟨g, cg, rfl, hg, _⟩
      · have := hh.m_
        rw [h0] at this
        simp at this
      · have hpp := pop_pos (by omega) hh.m_
        have hgr := hst.gr.maxr
        have hgv := hst.gv
        have hmx := Hs.out.mx
        clear hst hh hcl hgk
        go_wp2_with fail
        refine (count_some g cg S wr hS hg).mono ?_
        rintro e wx ⟨rfl, hwx⟩
        rw [hwx]
        clear hwx
        have hpp' : (0 : Int) < ((pop S : Nat) : Int) := by omega
        go_wp2_with fail
        refine (add_any (w.heap.size + 1) (w.heap.size + 1) S maxR wr (by omega) Hst.out.bs).mono ?_
        rintro e w5 ⟨rfl, hbs5, hB5⟩
        have Hbe := hd (Hst.out.be.trans (hB5.mono (by omega)))
        have hlt5 := hbs5.2.1
        obtain ⟨v5, hv5, hcase5⟩ := hbs5.val
        rcases hcase5 with ⟨rfl, h05⟩ | ⟨g5, cg5, rfl, hg5, hgB5⟩
        · have hb := bit_add S maxR maxR
          rw [h05] at hb
          simp at hb
        · have Hside := hd (Side.mk ⟨S, Hh.out, Hcl.out (by first | rfl | trivial), rfl⟩ : Side ab es m maxR (S ||| 2 ^ maxR))
          have Hg5 := hd hg5
          have Hlt := hd hlt5
          clear hbs5 hB5 hg5 hg hgr hgv hv hlt5
          go_wp2_with fail
          go_ret
          exact ⟨g5, cg5, S ||| 2 ^ maxR, by omega, rfl, Hlt.out, Hg5.out, Hside.out, Hbe.out⟩
    | true =>
      have Hgk := hd (hgk (by first | rfl | trivial))
      clear hst hh hcl hgk
      go_wp2_with fail
      go_loopg [12, 37] es.length (fun ik fl iv wx => ∃ (k S' : Nat) (b' : Bool), k ≤ es.length ∧ iv = .int .i64 k ∧ fl = .bool b' ∧ St w w.heap.size n ab es ae G A maxR S' wx ∧ Half ab es m S' ∧ (b' = false → S' = S ∧ ∀ e ∈ es.take k, S.testBit e.1 = true → S.testBit e.2 = true) ∧ (b' = true → S < S') ∧ es.length - k ≤ ik)
      case atStart => exact ⟨0, S, false, Nat.zero_le _, rfl, rfl, Hst.out, Hh.out, fun _ => ⟨rfl, by simp⟩, (fun h => by cases h), by omega⟩
      case round =>
        clear Hst Hh Hcl
        obtain ⟨k, S', b', hk, rfl, rfl, hst, hh, hf, ht, hik⟩ := hrel
        have Hst := hd hst
        have Hh := hd hh
        have Hf := hd hf
        have Ht' := hd ht
        have hS' := hst.bs.2.1
        clear hst hh hf ht
        by_cases hlt : k < es.length
        · rcases Hst.out.ed with hn | ⟨b, rfl, hbB, hc⟩
          · subst hn; simp at hlt
          · obtain ⟨hc1, hc2⟩ := hc k hlt
            clear hc
            have hen := Hen.out es[k] (List.getElem_mem hlt)
            have Hmem := hd (List.getElem_mem hlt)
            have Htk := hd (List.take_succ_eq_append_getElem hlt)
            generalize hek : es[k] = ek at hc1 hc2 hen Hmem Htk
            obtain ⟨x, y⟩ := ek
            simp only at hc1 hc2 hen
            clear hek
            obtain ⟨v, hv, hcase⟩ := Hst.out.bs.val
            rcases hcase with ⟨rfl, h0⟩ | ⟨g, cg, rfl, hg, _⟩
            · have := Hh.out.m_
              rw [h0] at this
              simp at this
            · have hsz := Hst.out.sz
              have hglt : g < wr.heap.size := World.block_lt_of_cell? _ _ hg
              go_wp2_with fail
              have Hst1 := hd (Hst.out.later ((Below.refl _ wr).alloc (Nat.le_refl _) (Obj.cells #[Value.int IntKind.i64 (x : Int), Value.int IntKind.i64 (y : Int)] 63)))
              have hg1 := cell_later ((Below.refl _ wr).alloc (Nat.le_refl _) (Obj.cells #[Value.int IntKind.i64 (x : Int), Value.int IntKind.i64 (y : Int)] 63)) hg
              have hv1 := cell_later ((Below.refl _ wr).alloc (Nat.le_refl _) (Obj.cells #[Value.int IntKind.i64 (x : Int), Value.int IntKind.i64 (y : Int)] 63)) hv
              have hx1 : (wr.alloc (Obj.cells #[Value.int IntKind.i64 (x : Int), Value.int IntKind.i64 (y : Int)] 63)).cell? ⟨wr.heap.size, 0, none⟩ = some (.int .i64 (x : Int)) := by simp
              have hy1 : (wr.alloc (Obj.cells #[Value.int IntKind.i64 (x : Int), Value.int IntKind.i64 (y : Int)] 63)).cell? ⟨wr.heap.size, 1, none⟩ = some (.int .i64 (y : Int)) := by simp [go_sem]
              generalize wr.alloc (Obj.cells #[Value.int IntKind.i64 (x : Int), Value.int IntKind.i64 (y : Int)] 63) = W1 at Hst1 hg1 hv1 hx1 hy1 ⊢
              generalize wr.heap.size = z at hx1 hy1 ⊢
              clear hc1 hc2 hv hg Hst hsz hglt
              refine (has_some g cg S' x W1 (by omega) hS' hg1).mono ?_
              rintro e w6 ⟨rfl, n6, rfl⟩
              cases hbx : S'.testBit x with
              | false =>
                go_wp2_with fail
                go_roundg (es.length - (k + 1))
                case rel => exact ⟨k + 1, S', b', by omega, by go_num, rfl, Hst1.out.drewN _, Hh.out, take_step Htk.out Hf.out (fun h => by rw [hbx] at h; cases h), Ht'.out, Nat.le_refl _⟩
                case measure => omega
              | true =>
                go_wp2_with fail
                refine (has_some g cg S' y _ (by omega) hS' (by exact hg1)).mono ?_
                rintro e w6 ⟨rfl, n7, rfl⟩
                cases hby : S'.testBit y with
                | true =>
                  go_wp2_with fail
                  go_roundg (es.length - (k + 1))
                  case rel => exact ⟨k + 1, S', b', by omega, by go_num, rfl, Hst1.out.drewN _, Hh.out, take_step Htk.out Hf.out (fun _ => hby), Ht'.out, Nat.le_refl _⟩
                  case measure => omega
                | false =>
                  have Hst2 := hd (Hst1.out.drewN (n6 + n7))
                  go_wp2_with fail
                  refine (reach_any (w.heap.size + 1) (w.heap.size + 1) w.heap.size S' y n G A maxR ab _ Hs.out Hst2.out.bs Hst2.out.gr Hst2.out.gv (by omega) hen.2).mono ?_
                  rintro e w7 ⟨rfl, hbs7, hB7⟩
                  have Hst7 := hd (Hst2.out.step hB7 hbs7)
                  have Hh7 := hd (half_step Hs.out.tr Hh.out Hmem.out hbx)
                  have Hgt := hd (reach_gt (ab := ab) hby)
                  have Hle := hd (show S < reach ab S' y from by
                    have h1 := Hgt.out
                    cases b' with
                    | true => have h2 := Ht'.out rfl; omega
                    | false => have h2 := (Hf.out rfl).1; omega)
                  clear hbs7 hB7 Hst2 Hst1 hg1 hv1 hx1 hy1
                  go_wp2_with fail
                  go_roundg (es.length - (k + 1))
                  case rel => exact ⟨k + 1, reach ab S' y, true, by omega, by go_num, rfl, Hst7.out, Hh7.out, (fun h => by cases h), (fun _ => Hle.out), Nat.le_refl _⟩
                  case measure => omega
        · have hkn : es.take k = es := List.take_of_length_le (by omega)
          have Hkn := hd hkn
          clear hkn
          cases b' with
          | true =>
            go_wp2_with fail
            go_roundg (257 - S')
            case rel => exact ⟨S', true, rfl, Hst.out, Hh.out, (fun h => by cases h), fun _ => Nat.le_refl _⟩
            case measure => have h1 := Hgk.out; have h2 := Ht'.out (by first | rfl | trivial); omega
          | false =>
            go_wp2_with fail
            go_roundg 0
            case rel =>
              obtain ⟨h1, h2⟩ := Hf.out (by first | rfl | trivial)
              rw [Hkn.out] at h2
              exact ⟨S', false, rfl, Hst.out, Hh.out, (fun _ => by rw [h1]; exact h2), (fun h => by cases h)⟩
            case measure => have h1 := Hgk.out; omega
end SideW
end Go.Proofs.YbulkcmoqDoor
