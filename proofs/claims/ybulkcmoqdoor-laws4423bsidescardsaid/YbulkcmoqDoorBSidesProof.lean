/-
  The proof of the card 'Rows.LawS4423BSidesCardSaid': the row by the walk of YbulkcmoqDoorLaw; the listed table of math/bits off the row's own condition; the tie is the given one.
-/
import Derived.Test.YbulkcmoqDoorLaw
import Derived.Test.YbulkcmoqDoorTie
import Derived.Test.YbulkcmoqDoorCards
import Derived.ProofKit
import Derived.OpenShut
import Derived.ShutString
import Derived.ChangeOld
import Derived.Lib.LaidTab
import Derived.LaidLaws
import Derived.ChangeSame
import Derived.ChangeVars
import Derived.JoinedOf
import Derived.SevenTiedAt
namespace Go.Proofs.YbulkcmoqDoor
namespace lawS4423BSides
open Go.ChangeShapes Go.WideShapes Go.ChangeAt Go.RowKit SideW

theorem own : ownKnob Ybad.prog.godebug = none := by kernel_rfl
theorem laidOut : laidOutB Ybad.prog = true := by kernel_rfl
theorem gT : Ybad.prog.globalNamed "math/bits.deBruijn64tab" = some 0 := by kernel_rfl
theorem cells5 : Ybad.prog.cellsOf 5 = 1 := by kernel_rfl

def zs : List Int := SideW.tab.map fun (x : Nat) => (x : Int)

/-- The settled world, the table in block 0: the witness. -/
noncomputable def laidWorld (os : Os) : World :=
  { World.holding Ybad.prog os ⟨#[], #[], []⟩ with heap := (World.holding Ybad.prog os ⟨#[], #[], []⟩).heap.modify 0 fun
      | .cells _ t frozen => .cells (zs.map fun z => Value.int .u8 z).toArray t frozen
      | o => o }
theorem laid_met (os : Os) (args : Array Value) : laidMet Ybad.prog Rows.lawS4423BSidesRow.laid ((laidWorld os).forCall (fun _ _ => 0) ⟨#[], args, []⟩).memory :=
  laidMet_of_run' 8 (by kernel_rfl) (by kernel_rfl)

/-- THE TABLE, off the row's condition. -/
theorem tab_of_laid {W : World} (h : laidMet Ybad.prog Rows.lawS4423BSidesRow.laid W) : Tab W := by
  have ht : (Ybad.prog.globals[0]?).map (fun g => (Ybad.prog.underlying g.type, Ybad.prog.cellsOf g.type)) = some (some (.array 64 5), 64) := by kernel_rfl
  cases hg : Ybad.prog.globals[0]? with
  | none => rw [hg] at ht; cases ht
  | some g =>
    rw [hg] at ht
    simp only [Option.map_some, Option.some.injEq, Prod.mk.injEq] at ht
    have hL : laidMet Ybad.prog [("math/bits.deBruijn64tab", Lib.tabData .u8 zs)] W := h
    have hT := Lib.tabIs_of_head (t := g.type) (e := 5) (n := 64) gT (by rw [hg]; rfl) ht.1 Ybad.underlying5 cells5 ht.2 hL
    intro i hi
    have h1 := hT.cell gT i (by simpa [zs] using hi)
    rw [h1]
    simp [zs, List.getD, hi]

theorem bounds_u8 {a : Int} (h : (Lit.int .u8 a).wf = true) : 0 ≤ a ∧ a ≤ 255 := by
  simp [Lit.wf, IntKind.min, IntKind.max, IntKind.signed, IntKind.bits] at h
  omega

/-- A slice of bytes that came in. -/
theorem open_bytes {H : Type} {enc : TypeId × Value → H} {W : World} {a : Option Addr} {len cap : Nat} {d : DataW H} {p : List MemPlace} (h : DataW.Trod enc Ybad.prog W 0 (fun _ => true) true 22 (.slice a len cap) d p) : ∃ f, Bytes W a len f := by
  obtain ⟨fuel, hf⟩ := h
  rcases open_ints Ybad.underlying22 Ybad.underlying5 cells5 hf with ⟨hcs, _⟩ | ⟨x, l, c, zs, hcs, _, hl, hm, hz, _, hcell, hwz⟩
  · simp [Value.cells] at hcs
    obtain ⟨rfl, rfl, rfl⟩ := hcs
    exact ⟨fun _ => 0, fun i hi => absurd hi (by omega)⟩
  · simp [Value.cells] at hcs
    obtain ⟨rfl, rfl, rfl⟩ := hcs
    have hz' : zs.length = cap := by simpa using hz
    obtain ⟨b, off, spot⟩ := x
    refine ⟨fun j => zs.getD j 0, fun i hi => ⟨b, off, ?_, fun j hj => ?_⟩⟩
    · have hspot : spot = none := by simpa [Addr.add] using World.cell?_spot (hcell 0 (by omega))
      rw [hspot]
    · have hspot : spot = none := by simpa [Addr.add] using World.cell?_spot (hcell 0 (by omega))
      subst hspot
      have h1 := hcell j (by omega)
      rw [add_plain] at h1
      refine ⟨h1, bounds_u8 (hwz _ ?_)⟩
      have hj' : j < zs.length := by omega
      simp [List.getD, hj']

set_option maxRecDepth 100000 in
theorem lifted (os : Os) (started : os.Started) (H : Type) (enc : TypeId × Value → H) :
    ReturnsInHanded {} Ybad.checked os 3 .any (fun w args => (Rows.lawS4423BSidesSpec.pre enc Ybad.prog Ybad.f3 Rows.lawS4423BSidesRow.domain false w args ∧ laidMet Ybad.prog Rows.lawS4423BSidesRow.laid w) ∧ sizedMet enc Ybad.prog Ybad.f3 (OpenSpec.ofChange Rows.lawS4423BSidesSpec) false w args)
      (Rows.lawS4423BSidesSpec.post enc Ybad.prog Ybad.f3 false true false false) := by
  refine returnsInHanded_of_change_and (C := Ybad.checked) (X := fun w _ => laidMet Ybad.prog Rows.lawS4423BSidesRow.laid w) (fun _ _ _ hh h => h.of_heap hh) own started (by kernel_rfl) Ybad.func3
    (ChangeSpec.witness_at (enc := enc) (C := Ybad.checked) (os := os) (X := fun w _ => laidMet Ybad.prog Rows.lawS4423BSidesRow.laid w) false (laidWorld os) #[.int .u8 0, .int .u8 0, .slice none 0 0, .slice none 0 0, .slice none 0 0] 8 rfl (by kernel_rfl) (by kernel_rfl) (by kernel_rfl) (by kernel_rfl) (by kernel_rfl) (laid_met os _)) ?_
  intro W base args ds gs before hval0 hW _ _ hL _
  have hval : ∀ (j : Nat) t v, Ybad.f3.params[j]? = some t → args[j]? = some v → Value.okWide Ybad.prog W .any base t v := hval0
  have hW' := hW
  obtain ⟨p, q, hA0, hV, rfl, hfz, hnd⟩ := hW
  have hA : DataW.TrodAll enc Ybad.prog W 0 (fun _ => true) true Ybad.f3.params.toList args.toList ds p := hA0
  rw [Ybad.params3] at hA hval
  obtain ⟨v0, vs0, d0, ds0, p0, q0, hargs, rfl, rfl, h0, r0⟩ := trodAll_cons hA
  obtain ⟨v1, vs1, d1, ds1, p1, q1, rfl, rfl, rfl, h1, r1⟩ := trodAll_cons r0
  obtain ⟨v2, vs2, d2, ds2, p2, q2, rfl, rfl, rfl, h2, r2⟩ := trodAll_cons r1
  obtain ⟨v3, vs3, d3, ds3, p3, q3, rfl, rfl, rfl, h3, r3⟩ := trodAll_cons r2
  obtain ⟨v4, vs4, d4, ds4, p4, q4, rfl, rfl, rfl, h4, r4⟩ := trodAll_cons r3
  obtain ⟨rfl, rfl, rfl⟩ := trodAll_nil r4
  obtain rfl : args = #[v0, v1, v2, v3, v4] := by cases args; simp_all
  obtain ⟨rfl, rfl⟩ := trodVars_none hV
  obtain ⟨a0, rfl, rfl, rfl, w0⟩ := open_int Ybad.underlying5 (hval 0 5 v0 rfl rfl) h0
  obtain ⟨a1, rfl, rfl, rfl, w1⟩ := open_int Ybad.underlying5 (hval 1 5 v1 rfl rfl) h1
  obtain ⟨a2, len2, cap2, rfl⟩ := okWide_slice Ybad.underlying22 (hval 2 22 v2 rfl rfl)
  obtain ⟨a3, len3, cap3, rfl⟩ := okWide_slice Ybad.underlying22 (hval 3 22 v3 rfl rfl)
  obtain ⟨a4, len4, cap4, rfl⟩ := okWide_slice Ybad.underlying22 (hval 4 22 v4 rfl rfl)
  have lt2 : ∀ x ∈ p2, x.block < W.heap.size := by obtain ⟨m, hm⟩ := h2; exact DataW.trod_lt m _ _ _ hm
  have lt3 : ∀ x ∈ p3, x.block < W.heap.size := by obtain ⟨m, hm⟩ := h3; exact DataW.trod_lt m _ _ _ hm
  have lt4 : ∀ x ∈ p4, x.block < W.heap.size := by obtain ⟨m, hm⟩ := h4; exact DataW.trod_lt m _ _ _ hm
  obtain ⟨f2, b2⟩ := open_bytes h2
  obtain ⟨f3, b3⟩ := open_bytes h3
  obtain ⟨f4, b4⟩ := open_bytes h4
  have u0 := bounds_u8 w0
  have u1 := bounds_u8 w1
  clear hA0 hval0
  refine (law_any a0 a1 a2 a3 a4 len2 cap2 len3 cap3 len4 cap4 f2 f3 f4 W u0.1 u0.2 u1.1 u1.2 b2 b3 b4 (tab_of_laid hL)).mono fun e W' ⟨he, bel⟩ => ?_
  subst he
  exact ⟨_, rfl, _, _, _, [], _, [], hW', trodAll_mk1 (shut_bool Ybad.underlying4 _), (trodAll_cons_mk (shut_int Ybad.underlying5 w0) (trodAll_cons_mk (shut_int Ybad.underlying5 w1) (trodAll_cons_mk (Below.trod laidOut (by kernel_rfl) (of_decide_eq_true (by kernel_rfl)) h2 bel lt2) (trodAll_cons_mk (Below.trod laidOut (by kernel_rfl) (of_decide_eq_true (by kernel_rfl)) h3 bel lt3) (trodAll_cons_mk (Below.trod laidOut (by kernel_rfl) (of_decide_eq_true (by kernel_rfl)) h4 bel lt4) trodAll_mk0))))), rfl, bel.frame _, fun h => by cases h⟩

theorem over : Rows.lawS4423BSidesRow.holds Ybad.pinned (OpenSpec.ofChange Rows.lawS4423BSidesSpec) :=
  OpenClaim.holds_of_wide 3 Ybad.f3 rfl rfl rfl rfl rfl rfl rfl ⟨rfl, rfl, rfl, rfl, rfl⟩ rfl rfl rfl rfl rfl (by kernel_rfl) Ybad.func3 (by kernel_rfl)
    (of_decide_eq_true (by kernel_rfl)) (by unfold Func.isWrapper; first | (rw [if_pos (by decide +kernel)]; kernel_rfl) | (rw [if_neg (by decide +kernel)]; exact ⟨rfl, rfl⟩))
    (fun os started H enc _ => lifted os started H enc)

/-- ████ THE CARD ████ -/
theorem proved : Rows.LawS4423BSidesCardSaid :=
  Claim7.holds_tied_plain_at .later [] [.data] true (true, "8c0ee743b8d835d7c2d6e07b4bd4c31187570965acd693ab095015a2db83b876") false
    over (fun _ h => by cases h) (by kernel_rfl) (fun _ h => by cases h) lawS4423BSides_row_tie rfl ⟨rfl, rfl⟩ (by kernel_rfl) rfl
    (fun f fn hf hfn => by
      obtain rfl : f = 3 := Option.some.inj ((show Ybad.prog.funcNamed "example.com/tiered-roles/tiered-roles.LawS4423BSides" = some 3 by kernel_rfl).symm.trans hf) |>.symm
      obtain rfl : fn = Ybad.f3 := (Option.some.inj (Ybad.func3.symm.trans hfn)).symm
      exact ⟨by kernel_rfl, fun j t ht => by
        rw [Ybad.params3] at ht
        have h3 : t = 5 ∨ t = 22 := by
          rcases j with _ | _ | _ | _ | _ | j
          · exact .inl (by simpa using ht.symm)
          · exact .inl (by simpa using ht.symm)
          · exact .inr (by simpa using ht.symm)
          · exact .inr (by simpa using ht.symm)
          · exact .inr (by simpa using ht.symm)
          · simp at ht
        rcases h3 with rfl | rfl
        · exact (show Ybad.prog.wantsStandIn 5 = false by kernel_rfl)
        · exact (show Ybad.prog.wantsStandIn 22 = false by kernel_rfl)⟩)
    (by kernel_rfl)
end lawS4423BSides
end Go.Proofs.YbulkcmoqDoor
