/-
  The proof of 'Rows.LawS4423CFreshSaid': the walk of YbulkcmoqFreshLaw2, the library's calls off the shelf (YbulkcmoqFreshLib, YbulkcmoqFreshSortFn), the arguments opened here.
-/
import Derived.Test.YbulkcmoqFreshLaw2
import Derived.Test.YbulkcmoqFreshLib
import Derived.Test.YbulkcmoqFreshSortFn
import Derived.ProofKit
import Derived.OpenShut
import Derived.SliceStrings
import Derived.Deep.SlicePairs
import Derived.ChangeOld
import Derived.ChangeSame
import Derived.ChangeVars
import Derived.JoinedOf
namespace Go.Proofs.Ybulkcmoq
namespace lawS4423CFresh
open Go.ChangeShapes Go.WideShapes Go.ChangeAt Go.RowKit FreshW

theorem own : ownKnob Yba.prog.godebug = none := by kernel_rfl
theorem laidOut : laidOutB Yba.prog = true := by kernel_rfl
theorem cells5 : Yba.prog.cellsOf 5 = 1 := by kernel_rfl
theorem cells9 : Yba.prog.cellsOf 9 = 1 := by kernel_rfl
theorem cells39 : Yba.prog.cellsOf 39 = 1 := by kernel_rfl
theorem cells41 : Yba.prog.cellsOf 41 = 2 := by kernel_rfl

theorem bounds_u8 {a : Int} (h : (Lit.int .u8 a).wf = true) : 0 ≤ a ∧ a ≤ 255 := by
  simp [Lit.wf, IntKind.min, IntKind.max, IntKind.signed, IntKind.bits] at h
  omega

/-- A slice of bytes that came in: its one cell. -/
theorem open_bytes {H : Type} {enc : TypeId × Value → H} {W : World} {fuel : Nat} {v : Value} {x : DataW H × List MemPlace} (h : DataW.trod enc Yba.prog W 0 (fun _ => true) true fuel 39 [v] = some x) : ∃ a len cap f, v = .slice a len cap ∧ BytesIn W a len f := by
  rcases open_ints Yba.underlying39 Yba.underlying5 cells5 h with ⟨hcs, _⟩ | ⟨x, l, c, zs, hcs, _, hl, hm, hz, _, hcell, hwz⟩
  · refine ⟨none, 0, 0, fun _ => 0, by simpa using hcs, fun i hi => absurd hi (by omega)⟩
  · have hz' : zs.length = c := by simpa using hz
    obtain ⟨b, off, spot⟩ := x
    refine ⟨some ⟨b, off, spot⟩, l, c, fun j => zs.getD j 0, by simpa using hcs, fun i hi => ⟨b, off, ?_, fun j hj => ?_⟩⟩
    · have hspot : spot = none := by simpa [Addr.add] using World.cell?_spot (hcell 0 (by omega))
      rw [hspot]
    · have hspot : spot = none := by simpa [Addr.add] using World.cell?_spot (hcell 0 (by omega))
      subst hspot
      have h1 := hcell j (by omega)
      rw [addr_add] at h1
      refine ⟨h1, bounds_u8 (hwz _ ?_)⟩
      have hj' : j < zs.length := by omega
      simp [List.getD, hj']

/-- The roles' names that came in. -/
theorem open_names {H : Type} {enc : TypeId × Value → H} {W : World} {a : Option Addr} {len cap : Nat} {d : DataW H} {p : List MemPlace} (h : DataW.Trod enc Yba.prog W 0 (fun _ => true) true 25 (.slice a len cap) d p) : ∃ f, StrsIn W a len f := by
  obtain ⟨fuel, hf⟩ := h
  rcases open_strings Yba.underlying25 Yba.underlying9 cells9 hf with ⟨hcs, _⟩ | ⟨x, l, c, ss, hcs, _, hl, hm, hz, _, hcell, _⟩
  · simp [Value.cells] at hcs
    obtain ⟨rfl, rfl, rfl⟩ := hcs
    exact ⟨fun _ => ByteArray.empty, fun i hi => absurd hi (by omega)⟩
  · simp [Value.cells] at hcs
    obtain ⟨rfl, rfl, rfl⟩ := hcs
    have hz' : ss.length = cap := by simpa using hz
    obtain ⟨b, off, spot⟩ := x
    refine ⟨fun j => ss.getD j ByteArray.empty, fun i hi => ⟨b, off, ?_, fun j hj => ?_⟩⟩
    · have hspot : spot = none := by simpa [Addr.add] using World.cell?_spot (hcell 0 (by omega))
      rw [hspot]
    · have hspot : spot = none := by simpa [Addr.add] using World.cell?_spot (hcell 0 (by omega))
      subst hspot
      have h1 := hcell j (by omega)
      rwa [addr_add] at h1

theorem choose3 {α β γ δ ε : Type} [Inhabited α] [Inhabited β] [Inhabited γ] [Inhabited δ] [Inhabited ε] {n : Nat} {p : Nat → α → β → γ → δ → ε → Prop} (h : ∀ j, j < n → ∃ a b c d e, p j a b c d e) : ∃ (fa : Nat → α) (fb : Nat → β) (fc : Nat → γ) (fd : Nat → δ) (fe : Nat → ε), ∀ j, j < n → p j (fa j) (fb j) (fc j) (fd j) (fe j) := by
  classical
  have h' : ∀ j, ∃ q : α × β × γ × δ × ε, j < n → p j q.1 q.2.1 q.2.2.1 q.2.2.2.1 q.2.2.2.2 := fun j => by
    by_cases hj : j < n
    · obtain ⟨a, b, c, d, e, hp⟩ := h j hj
      exact ⟨(a, b, c, d, e), fun _ => hp⟩
    · exact ⟨default, fun h => absurd h hj⟩
  refine ⟨fun j => (Classical.choose (h' j)).1, fun j => (Classical.choose (h' j)).2.1, fun j => (Classical.choose (h' j)).2.2.1, fun j => (Classical.choose (h' j)).2.2.2.1, fun j => (Classical.choose (h' j)).2.2.2.2, fun j hj => Classical.choose_spec (h' j) hj⟩

/-- The users that came in. -/
theorem open_users {H : Type} {enc : TypeId × Value → H} {W : World} {a : Option Addr} {len cap : Nat} {d : DataW H} {p : List MemPlace} (h : DataW.Trod enc Yba.prog W 0 (fun _ => true) true 26 (.slice a len cap) d p) : ∃ nm ra rl rc rf, UsersIn W a len nm ra rl rc rf := by
  obtain ⟨fuel, hf⟩ := h
  rcases Go.Deep.open_slice_pairs Yba.underlying26 Yba.underlying41 cells41 rfl rfl cells9 cells39 hf with ⟨hcs, _⟩ | ⟨x, l, c, m, n, V0, V1, D0, D1, P0, P1, hcs, _, hl, hm, hmm, _, hx⟩
  · simp [Value.cells] at hcs
    obtain ⟨rfl, rfl, rfl⟩ := hcs
    exact ⟨fun _ => ByteArray.empty, fun _ => none, fun _ => 0, fun _ => 0, fun _ _ => 0, fun i hi => absurd hi (by omega)⟩
  · simp [Value.cells] at hcs
    obtain ⟨rfl, rfl, rfl⟩ := hcs
    have hmm' : m = cap := by simpa using hmm
    subst hmm'
    have each : ∀ j, j < len → ∃ (s : ByteArray) (ra : Option Addr) (rl rc : Nat) (f : Nat → Int), W.cell? (x.add (j * 2)) = some (.string s) ∧ W.cell? (x.add (j * 2 + 1)) = some (.slice ra rl rc) ∧ s.size ≤ maxLen ∧ BytesIn W ra rl f := fun j hj => by
      obtain ⟨h1, h2, h3, h4⟩ := hx j (by omega)
      obtain ⟨s, hs, _, hw⟩ := DataW.trod_string Yba.underlying9 h3
      obtain ⟨ra, rl, rc, f, hv, hb⟩ := open_bytes h4
      have hs' : V0 j = .string s := by simpa using hs
      rw [hs'] at h1
      rw [hv] at h2
      exact ⟨s, ra, rl, rc, f, h1, h2, hw, hb⟩
    obtain ⟨nm, ra, rl, rc, rf, hall⟩ := choose3 each
    refine ⟨nm, ra, rl, rc, rf, fun i hi => ?_⟩
    obtain ⟨b, off, spot⟩ := x
    have hspot : spot = none := by simpa [Addr.add] using World.cell?_spot (hall 0 (by omega)).1
    subst hspot
    refine ⟨b, off, rfl, fun j hj => ?_⟩
    obtain ⟨h1, h2, h3, h4⟩ := hall j hj
    rw [addr_add] at h1 h2
    exact ⟨h1, by rw [Nat.add_assoc]; exact h2, h3, h4⟩

set_option maxRecDepth 100000 in
theorem lifted (os : Os) (started : os.Started) (H : Type) (enc : TypeId × Value → H) :
    ReturnsInHanded {} Yba.checked os 6 .any (Rows.lawS4423CFreshSpec.pre6 enc Yba.prog Yba.f6 Rows.lawS4423CFreshRow.domain false) (Rows.lawS4423CFreshSpec.post enc Yba.prog Yba.f6 false true false false) := by
  refine returnsInHanded_of_change (C := Yba.checked) own started (by kernel_rfl) Yba.func6
    (ChangeSpec.witness6 (enc := enc) (C := Yba.checked) false ⟨#[], #[.slice none 0 0, .slice none 0 0], []⟩ 8 (by kernel_rfl) (by kernel_rfl) (by kernel_rfl) (by kernel_rfl)) ?_
  intro W base args ds gs before hval0 hW hcnd _
  have hval : ∀ (j : Nat) t v, Yba.f6.params[j]? = some t → args[j]? = some v → Value.okWide Yba.prog W .any base t v := hval0
  have hW' := hW
  obtain ⟨p, q, hA0, hV, rfl, hfz, hnd⟩ := hW
  have hA : DataW.TrodAll enc Yba.prog W 0 (fun _ => true) true Yba.f6.params.toList args.toList ds p := hA0
  rw [Yba.params6] at hA hval
  obtain ⟨v0, vs0, d0, ds0, p0, q0, hargs, rfl, rfl, h0, r0⟩ := trodAll_cons hA
  obtain ⟨v1, vs1, d1, ds1, p1, q1, rfl, rfl, rfl, h1, r1⟩ := trodAll_cons r0
  obtain ⟨rfl, rfl, rfl⟩ := trodAll_nil r1
  obtain rfl : args = #[v0, v1] := by cases args; simp_all
  obtain ⟨rfl, rfl⟩ := trodVars_none hV
  obtain ⟨a0, len0, cap0, rfl⟩ := okWide_slice Yba.underlying25 (hval 0 25 v0 rfl rfl)
  obtain ⟨a1, len1, cap1, rfl⟩ := okWide_slice Yba.underlying26 (hval 1 26 v1 rfl rfl)
  have lt0 : ∀ x ∈ p0, x.block < W.heap.size := by obtain ⟨m, hm⟩ := h0; exact DataW.trod_lt m _ _ _ hm
  have lt1 : ∀ x ∈ p1, x.block < W.heap.size := by obtain ⟨m, hm⟩ := h1; exact DataW.trod_lt m _ _ _ hm
  obtain ⟨rn, b0⟩ := open_names h0
  obtain ⟨nm, ra, rl, rc, rf, b1⟩ := open_users h1
  clear hA0 hval0
  refine (law_any (cR := cap0) (cU := cap1) sort14 keys19 sorted18 equal13 sortFn15 b0 b1).mono fun e W' ⟨he, bel⟩ => ?_
  subst he
  exact ⟨_, rfl, _, _, _, [], _, [], hW', trodAll_mk1 (shut_bool Yba.underlying4 _), (trodAll_cons_mk (Below.trod laidOut (by kernel_rfl) (of_decide_eq_true (by kernel_rfl)) h0 bel lt0) (trodAll_cons_mk (Below.trod laidOut (by kernel_rfl) (of_decide_eq_true (by kernel_rfl)) h1 bel lt1) trodAll_mk0)), rfl, bel.frame _, fun h => by cases h⟩

theorem over : Rows.lawS4423CFreshRow.holds Yba.pinned (OpenSpec.ofChange Rows.lawS4423CFreshSpec) :=
  OpenClaim.holds_of_wide 6 Yba.f6 rfl rfl rfl rfl rfl rfl rfl ⟨rfl, rfl, rfl, rfl, rfl⟩ rfl rfl rfl rfl rfl (by kernel_rfl) Yba.func6 (by kernel_rfl)
    (of_decide_eq_true (by kernel_rfl)) (by unfold Func.isWrapper; first | (rw [if_pos (by decide +kernel)]; kernel_rfl) | (rw [if_neg (by decide +kernel)]; exact ⟨rfl, rfl⟩))
    (fun os started H enc _ => lifted os started H enc)

/-- ████ THE STATEMENT ████ -/
theorem proved : Rows.LawS4423CFreshSaid := over
end lawS4423CFresh
end Go.Proofs.Ybulkcmoq
