import Derived.Test.YbulkcmoqDoorAdd
namespace Go.Proofs.YbulkcmoqDoor
namespace SideW
open Go.RowKit

theorem hd {p : Prop} (h : p) : Hid p := h

/-- A slice of small numbers that lies below block B0. -/
def Ints (B0 : Nat) (w : World) (a : Option Addr) (ms : List Nat) : Prop :=
  ms = [] ∨ ∃ b off, a = some ⟨b, off, none⟩ ∧ b < B0 ∧ ∀ j, (h : j < ms.length) → w.cell? ⟨b, off + j, none⟩ = some (.int .i64 ((ms[j] : Nat) : Int))

/-- The set of the members given, on top of S. -/
def mask (S : Nat) (ms : List Nat) : Nat := ms.foldl (fun s m => s ||| 2 ^ m) S

theorem mask_snoc (S : Nat) (ms : List Nat) (m : Nat) : mask S (ms ++ [m]) = mask S ms ||| 2 ^ m := by simp [mask, List.foldl_append]

theorem Ints.later {B0 : Nat} {w w' : World} {a : Option Addr} {ms : List Nat} (h : Ints B0 w a ms) (hb : Below B0 w w') : Ints B0 w' a ms := by
  rcases h with h | ⟨b, off, rfl, hlt, hc⟩
  · exact .inl h
  · exact .inr ⟨b, off, rfl, hlt, fun j hj => (hb.cell (p := ⟨b, off + j, none⟩) hlt).trans (hc j hj)⟩

set_option maxRecDepth 100000 in
set_option maxHeartbeats 1600000 in
theorem addAll_any (B0 q S : Nat) (a : Option Addr) (cap : Nat) (ms : List Nat) (w : World) (h : BS B0 w q S) (hm : Ints B0 w a ms) (h8 : ∀ m ∈ ms, m < 8) (hlen : ms.length < 100000) :
    Calls Ybad.prog 12 #[.pointer (some ⟨q, 0, none⟩), .slice a ms.length cap] w fun e w' => e = .returned (.tuple #[]) ∧ BS B0 w' q (mask S ms) ∧ Below B0 w w' := by
  have Hm := hd (hm)
  have H8 := hd (h8)
  have H0 := hd (h)
  clear hm h8 h
  go_enter Ybad.func12, Ybad.ntmps12
  go_wp2_with fail
  go_loopw [8] (fun i wr => ∃ k : Nat, k ≤ ms.length ∧ i = .int .i64 k ∧ BS B0 wr q (mask S (ms.take k)) ∧ Below B0 w wr) (fun i _ => ms.length - (intOf i).toNat)
  case atStart => exact ⟨0, Nat.zero_le _, rfl, H0.out, Below.refl _ _⟩
  case round =>
    obtain ⟨k, hk, rfl, hbs, hB⟩ := hrel
    by_cases hlt : k < ms.length
    · rcases Hm.out.later hB with hn | ⟨b, off, rfl, hlb, hc⟩
      · subst hn; simp at hlt
      · have hck := hc k hlt
        have Hn := hd (mask_snoc S (ms.take k) ms[k])
        have hm8 := H8.out ms[k] (List.getElem_mem hlt)
        have Ht : Hid (ms.take (k + 1) = ms.take k ++ [ms[k]]) := List.take_succ_eq_append_getElem hlt
        have HB := hd (hB)
        have Hs := hd (hbs)
        generalize ms[k] = m at hck Hn hm8 Ht
        clear hc hbs hB
        go_wp2_with fail
        refine (add_any B0 q _ m wr hm8 Hs.out).mono ?_
        rintro e w1 ⟨rfl, hbs1, hB1⟩
        have H1 := hd (hbs1)
        have H2 := hd (hB1)
        clear hbs1 hB1
        go_wp2_with fail
        go_roundw
        case rel => exact ⟨k + 1, by omega, by go_num, by rw [Ht.out, Hn.out]; exact H1.out, HB.out.trans H2.out⟩
        case measure => simp [intOf]; omega
    · have hkn : k = ms.length := by omega
      rw [hkn, List.take_length] at hbs
      have Hs := hd (hbs)
      have HB := hd (hB)
      clear hbs hB hkn
      go_wp2_with fail
      go_end0
      exact ⟨rfl, Hs.out, HB.out⟩

set_option maxRecDepth 100000 in
set_option maxHeartbeats 800000 in
theorem max_one (b m : Nat) (w : World) (hc : w.cell? ⟨b, 0, none⟩ = some (.int .i64 (m : Int))) :
    Calls Ybad.prog 15 #[.slice (some ⟨b, 0, none⟩) 1 1] w fun e w' => e = .returned (.int .i64 (m : Int)) ∧ w' = w := by
  go_enter Ybad.func15, Ybad.ntmps15
  go_wp2_with fail
  refine wp_loop_rounds 1 ?_
  rw [rounds_succ]
  go_wp2_with fail
  go_ret
  exact ⟨rfl, rfl⟩

theorem make67 (w : World) : (Instr.makeSlice 67 (.int .i64 1) (.int .i64 1)).run Ybad.prog w = .ok (.slice (some ⟨w.heap.size, 0, none⟩) 1 1) (w.alloc (.cells #[.int .u64 0] 50)) := by kernel_rfl
theorem make28 (w : World) : (Instr.makeSlice 28 (.int .i64 0) (.int .i64 1)).run Ybad.prog w = .ok (.slice (some ⟨w.heap.size, 0, none⟩) 0 1) (w.alloc (.cells #[.int .i64 0] 3)) := by kernel_rfl

set_option maxRecDepth 100000 in
set_option maxHeartbeats 800000 in
theorem newBitset_one (m : Nat) (w : World) (hm : m < 8) :
    Calls Ybad.prog 14 #[.int .i64 ((m : Int) + 1)] w fun e w' => e = .returned (.slice (some ⟨w.heap.size, 0, none⟩) 1 1) ∧ w' = w.alloc (.cells #[.int .u64 0] 50) := by
  have hmk := make67
  have h1 : ((m : Int) + 1 + 63) / 64 = 1 := by omega
  go_enter Ybad.func14, Ybad.ntmps14
  go_wp2_with fail
  go_ret
  exact ⟨rfl, rfl⟩

set_option maxRecDepth 100000 in
set_option maxHeartbeats 800000 in
theorem tz_any (x p m : Nat) (w : World) (h0 : ((x : Int) == 0) = false) (hp : p < 64)
    (hE : IntKind.u64.wrap (bits .and .u64 (x : Int) (IntKind.u64.wrap (-(x : Int))) * 285870213051353865) / 288230376151711744 = (p : Int)) (hc : w.cell? ⟨0, p, none⟩ = some (.int .u8 (m : Int))) (hm : m < 64) :
    Calls Ybad.prog 16 #[.int .u64 (x : Int)] w fun e w' => e = .returned (.int .i64 (m : Int)) ∧ w' = w := by
  go_enter Ybad.func16, Ybad.ntmps16
  go_wp2_with fail
  go_ret
  exact ⟨rfl, rfl⟩
theorem info3 : (Ybad.prog.info? 3).map (fun i => (i.zero, i.size, i.bytes)) = some (some (.int .i64 0), 1, 8) := by kernel_rfl

/-- What is asked of a word that is one bit. -/
structure OneBit (w : World) (x m : Nat) : Prop where
  lt : x < 256
  m8 : m < 8
  ne : ((x : Int) == 0) = false
  pop1 : pop x = 1
  and0 : bits .and .u64 (x : Int) (IntKind.u64.wrap ((x : Int) - 1)) = 0
  tz : ∃ p : Nat, p < 64 ∧ IntKind.u64.wrap (bits .and .u64 (x : Int) (IntKind.u64.wrap (-(x : Int))) * 285870213051353865) / 288230376151711744 = (p : Int) ∧ w.cell? ⟨0, p, none⟩ = some (.int .u8 (m : Int))

set_option maxRecDepth 100000 in
set_option maxHeartbeats 1600000 in
theorem members_one (g cap x m : Nat) (w : World) (hc : w.cell? ⟨g, 0, none⟩ = some (.int .u64 (x : Int))) (h : OneBit w x m) :
    Calls Ybad.prog 13 #[.slice (some ⟨g, 0, none⟩) 1 cap] w fun e w' => ∃ b cap', e = .returned (.slice (some ⟨b, 0, none⟩) 1 cap') ∧ w'.cell? ⟨b, 0, none⟩ = some (.int .i64 (m : Int)) ∧ Below w.heap.size w w' := by
  obtain ⟨i0, hi0, hz0, hz1, hz2⟩ := info_parts info3
  have H := hd h
  have hm8 := h.m8
  have hlt := h.lt
  have hne := h.ne
  have hne' : ((x : Int) != 0) = true := by simp [bne, hne]
  clear h
  have hmk := make28
  go_enter Ybad.func13, Ybad.ntmps13
  go_wp2_with fail
  refine (count_some _ _ x _ hlt hc).mono ?_
  rintro e wx ⟨rfl, hwx⟩
  rw [hwx, H.out.pop1]
  clear hwx
  have hl : g < w.heap.size := World.block_lt_of_cell? _ _ hc
  have hown : (w.alloc (.cells #[.int .i64 0] 3)).ownsRow w.heap.size 3 1 (.slice (some ⟨w.heap.size, 0, none⟩) 0 1) 0 [] := World.ownsRow_made w _ 1 (Nat.le_refl _) (by unfold maxLen; omega) rfl
  go_wp2_with fail
  refine wp_loop_rounds 2 ?_
  rw [rounds_succ]
  go_wp2_with fail
  refine wp_loop_rounds 2 ?_
  rw [rounds_succ]
  go_wp2_with fail
  obtain ⟨p, hp, hE, hcp⟩ := H.out.tz
  have hcp1 : (w.alloc (.cells #[.int .i64 0] 3)).cell? ⟨0, p, none⟩ = some (.int .u8 (m : Int)) := cell_later ((Below.refl _ _).alloc (Nat.le_refl _) _) hcp
  refine (tz_any x p m _ hne hp hE hcp1 (by omega)).mono ?_
  rintro e wx ⟨rfl, hwx⟩
  rw [hwx]
  clear hwx hE hcp hcp1
  go_wp2_with (first | (at_builtin; refine wpList_append_own _ rfl (.tmp 18) (.tmp 24) 28 rfl w.heap.size 3 i0 (.int .i64 0) 1 8 Ybad.underlying28 hi0 hz0 hz1 hz2 rfl (by decide) _ _ _ rfl (hown.alloc _) ⟨w.heap.size + 1, 0, none⟩ 1 1 [.int .i64 (m : Int)] rfl rfl ?c1 ?c2 ?c3 ?c4 ?c5 ?_) | fail)
  case c1 =>
    intro j u hj
    match j, hj with
    | 0, hj => simp at hj; subst hj; simp [Addr.add]
  case c2 => intro u hu; simp at hu; subst hu; rfl
  case c3 => unfold maxLen; omega
  case c4 => omega
  case c5 => simp; omega
  intro v' w1 hown' hgrow hnil'
  have hB : Below w.heap.size w w1 := (((Below.refl _ w).alloc (Nat.le_refl _) _).alloc (by simp) _).grown hgrow (by simp; omega) (fun k hk => by simp [Value.ownBlock] at hk; omega)
  obtain ⟨_, hh⟩ := hown'
  rcases hh with ⟨h1, h2⟩ | ⟨b, cap', cur, rfl, hb, hcur, hle, hm, hsz, hts⟩
  · omega
  have hcb : w1.cell? ⟨b, 0, none⟩ = some (.int .i64 (m : Int)) := by
    have : cur.toList[0]? = some (.int .i64 (m : Int)) := by
      have h3 := congrArg (fun l => l[0]?) hts
      simpa using h3
    simp [World.cell?, hcur]
    simpa using this
  have hand := H.out.and0
  clear hown hgrow hnil' hcur hts hsz
  go_wp2_with fail
  rw [rounds_succ]
  go_wp2_with fail
  rw [rounds_succ]
  go_wp2_with fail
  go_ret
  exact ⟨b, cap', rfl, hcb, hB⟩
/-- package math/bits' table. -/
def tab : List Nat := [0, 1, 56, 2, 57, 49, 28, 3, 61, 58, 42, 50, 38, 29, 17, 4, 62, 47, 59, 36, 45, 43, 51, 22, 53, 39, 33, 30, 24, 18, 12, 5, 63, 55, 48, 27, 60, 41, 37, 16, 46, 35, 44, 21, 52, 32, 23, 11, 54, 26, 40, 15, 34, 20, 31, 10, 25, 14, 19, 9, 13, 8, 7, 6]

def Tab (w : World) : Prop := ∀ i, (h : i < tab.length) → w.cell? ⟨0, i, none⟩ = some (.int .u8 ((tab[i] : Nat) : Int))

theorem Tab.later {w w' : World} (h : Tab w) (hb : Below w.heap.size w w') : Tab w' := fun i hi => cell_later hb (h i hi)

/-- Where the table holds m. -/
def pos (m : Nat) : Nat := (IntKind.u64.wrap (bits .and .u64 ((2 ^ m : Nat) : Int) (IntKind.u64.wrap (-((2 ^ m : Nat) : Int))) * 285870213051353865) / 288230376151711744).toNat

theorem bit_all : (List.range 8).all (fun m => decide (2 ^ m < 256) && ((((2 ^ m : Nat) : Int) == 0) == false) && (pop (2 ^ m) == 1) && (bits .and .u64 ((2 ^ m : Nat) : Int) (IntKind.u64.wrap (((2 ^ m : Nat) : Int) - 1)) == 0) &&
    decide (pos m < 64) && (IntKind.u64.wrap (bits .and .u64 ((2 ^ m : Nat) : Int) (IntKind.u64.wrap (-((2 ^ m : Nat) : Int))) * 285870213051353865) / 288230376151711744 == (pos m : Int)) && (tab[pos m]? == some m)) = true := by kernel_rfl

theorem oneBit {w : World} (ht : Tab w) {m : Nat} (hm : m < 8) : OneBit w (2 ^ m) m := by
  have h := List.all_eq_true.1 bit_all m (by simpa using hm)
  simp only [Bool.and_eq_true, decide_eq_true_eq, beq_iff_eq] at h
  obtain ⟨⟨⟨⟨⟨⟨h1, h2⟩, h3⟩, h4⟩, h5⟩, h6⟩, h7⟩ := h
  obtain ⟨hlt, hv⟩ := List.getElem?_eq_some_iff.1 h7
  refine ⟨h1, hm, h2, h3, h4, pos m, h5, h6, ?_⟩
  have := ht (pos m) hlt
  rw [hv] at this
  exact this

/-- The value that a block of a bitset holds. -/
theorem BS.val {B0 : Nat} {w : World} {q S : Nat} (h : BS B0 w q S) : ∃ v, w.cell? ⟨q, 0, none⟩ = some v ∧ ((v = .slice none 0 0 ∧ S = 0) ∨ ∃ g cap, v = .slice (some ⟨g, 0, none⟩) 1 cap ∧ w.cell? ⟨g, 0, none⟩ = some (.int .u64 (S : Int)) ∧ B0 ≤ g) := by
  obtain ⟨_, _, h3⟩ := h
  rcases h3 with ⟨rfl, h⟩ | ⟨g, cap, cur, hg, h, h', h''⟩
  · exact ⟨_, by simp [World.cell?, h], .inl ⟨rfl, rfl⟩⟩
  · exact ⟨_, by simp [World.cell?, h], .inr ⟨g, cap, rfl, by simp [World.cell?, h', h''], hg⟩⟩

set_option maxRecDepth 100000 in
set_option maxHeartbeats 1600000 in
theorem bitsetOf_one (b m : Nat) (w : World) (hm : m < 8) (hc : w.cell? ⟨b, 0, none⟩ = some (.int .i64 (m : Int))) :
    Calls Ybad.prog 8 #[.slice (some ⟨b, 0, none⟩) 1 1] w fun e w' => ∃ g cap, e = .returned (.slice (some ⟨g, 0, none⟩) 1 cap) ∧ w'.cell? ⟨g, 0, none⟩ = some (.int .u64 ((2 ^ m : Nat) : Int)) ∧ Below w.heap.size w w' := by
  have hl : b < w.heap.size := World.block_lt_of_cell? _ _ hc
  go_enter Ybad.func8, Ybad.ntmps8
  go_wp2_with fail
  refine (max_one b m _ (cell_later ((Below.refl _ _).alloc (Nat.le_refl _) _) hc)).mono ?_
  rintro e wx ⟨rfl, hwx⟩
  rw [hwx]
  clear hwx
  go_wp2_with fail
  refine (newBitset_one m _ hm).mono ?_
  rintro e wx ⟨rfl, hwx⟩
  rw [hwx]
  clear hwx
  go_wp2_with fail
  have hbs : BS w.heap.size ((w.alloc (Obj.cells #[Value.slice (some ⟨w.heap.size + 1, 0, none⟩) 1 1] 67)).alloc (Obj.cells #[Value.int IntKind.u64 0] 50)) w.heap.size 0 := by
    refine ⟨Nat.le_refl _, by omega, .inr ⟨w.heap.size + 1, 1, #[.int .u64 0], by omega, ?_, ?_, rfl⟩⟩
    · rw [Below.heap_alloc _ _ _ (by simp)]; exact (MapKept.heap_alloc w _).1
    · have := (MapKept.heap_alloc (w.alloc (Obj.cells #[Value.slice (some ⟨w.heap.size + 1, 0, none⟩) 1 1] 67)) (Obj.cells #[Value.int IntKind.u64 0] 50)).1
      simpa using this
  have hBe : Below w.heap.size w ((w.alloc (Obj.cells #[Value.slice (some ⟨w.heap.size + 1, 0, none⟩) 1 1] 67)).alloc (Obj.cells #[Value.int IntKind.u64 0] 50)) := ((Below.refl _ _).alloc (Nat.le_refl _) _).alloc (by simp) _
  generalize (w.alloc (Obj.cells #[Value.slice (some ⟨w.heap.size + 1, 0, none⟩) 1 1] 67)).alloc (Obj.cells #[Value.int IntKind.u64 0] 50) = W at hbs hBe ⊢
  have hints : Ints w.heap.size W (some ⟨b, 0, none⟩) [m] := .inr ⟨b, 0, rfl, hl, fun j hj => by
    have : j = 0 := by simp at hj; omega
    subst this
    exact cell_later hBe hc⟩
  refine (addAll_any w.heap.size w.heap.size 0 (some ⟨b, 0, none⟩) 1 [m] W hbs hints (by simpa using hm) (by simp)).mono ?_
  rintro e w1 ⟨rfl, hbs1, hB1⟩
  obtain ⟨v, hv, hcase⟩ := hbs1.val
  have hS : mask 0 [m] = 2 ^ m := by simp [mask]
  rw [hS] at hcase
  rcases hcase with ⟨rfl, h0⟩ | ⟨g, cap, rfl, hg, _⟩
  · have := Nat.two_pow_pos m
    omega
  · have HB := hd (hBe.trans hB1)
    clear hbs hBe hbs1 hB1 hS hints
    go_wp2_with fail
    go_ret
    exact ⟨g, cap, rfl, hg, HB.out⟩
end SideW
end Go.Proofs.YbulkcmoqDoor
