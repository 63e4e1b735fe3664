import Derived.Test.YbulkcmocFresh
namespace Go.Proofs.Ybulkcmoc
namespace MuW
open Go.RowKit

theorem info5 : (Yba.prog.info? 5).map (fun i => (i.zero, i.size, i.bytes)) = some (some (.int .u8 0), 1, 1) := by kernel_rfl
theorem info28 : (Yba.prog.info? 28).map (fun i => (i.zero, i.size, i.bytes)) = some (some (.int .u64 0), 1, 8) := by kernel_rfl

set_option maxRecDepth 100000 in
set_option maxHeartbeats 800000 in
theorem errNew (s : ByteArray) (w : World) :
    Calls Yba.prog 8 #[.string s] w fun e w' => e = .returned (.iface 104 (.pointer (some ⟨w.heap.size, 0, none⟩))) ∧ w' = w.alloc (.cells #[.string s] 106) := by
  go_enter Yba.func8, Yba.ntmps8
  go_wp2
  go_ret
  exact ⟨rfl, rfl⟩

set_option maxRecDepth 100000 in
set_option maxHeartbeats 800000 in
theorem clo1 (g t : Nat) (tag v : Int) (w : World) (hg : w.heap[g]? = some (.cells #[.int .u8 1] 5)) (ht : w.cell? ⟨t, 0, none⟩ = some (.int .u8 tag)) :
    Calls Yba.prog 9 #[.slice (some ⟨g, 0, none⟩) 1 1, .int .i64 v, .pointer (some ⟨t, 0, none⟩)] w fun e w' => ∃ p cap, e = .returned (.slice (some ⟨p, 0, none⟩) 3 cap) ∧
      w'.cell? ⟨p, 0, none⟩ = some (.int .u8 1) ∧ w'.cell? ⟨p, 1, none⟩ = some (.int .u8 tag) ∧ w'.cell? ⟨p, 2, none⟩ = some (.int .u8 (v % 256)) ∧ Below g w w' := by
  obtain ⟨i0, hi, hz0, hz1, hz2⟩ := info_parts info5
  have hgl : g < w.heap.size := (Array.getElem?_eq_some_iff.1 hg).1
  have hown : w.ownsRow g 5 1 (.slice (some ⟨g, 0, none⟩) 1 1) 1 [.int .u8 1] := ⟨rfl, .inr ⟨g, 1, _, rfl, Nat.le_refl _, hg, by omega, by unfold maxLen; omega, rfl, rfl⟩⟩
  go_enter Yba.func9, Yba.ntmps9
  go_wp2_with (first | (at_builtin; refine wpList_append_own _ rfl (.tmp 6) (.tmp 10) 27 rfl g 5 i0 (.int .u8 0) 1 1 Yba.underlying27 hi hz0 hz1 hz2 rfl (by decide) _ _ _ rfl (hown.alloc _) ⟨w.heap.size, 0, none⟩ 2 2 [.int .u8 tag, .int .u8 (v % 256)] rfl rfl ?c1 ?c2 ?c3 ?c4 ?c5 ?_) | fail)
  case c1 =>
    intro j u hj
    match j, hj with
    | 0, hj => simp at hj; subst hj; simp [Addr.add]
    | 1, hj => simp at hj; subst hj; simp [Addr.add]
  case c2 => intro u hu; simp at hu; rcases hu with rfl | rfl <;> rfl
  case c3 => unfold maxLen; omega
  case c4 => omega
  case c5 => simp; omega
  intro v' w1 hown' hgrow hnil
  have hB : Below g w w1 := ((Below.refl g w).alloc (by omega) _).grown hgrow (by simp; omega) (fun k hk => by simp [Value.ownBlock] at hk; omega)
  obtain ⟨_, hh⟩ := hown'
  rcases hh with ⟨h1, h2⟩ | ⟨p, cap, cur, rfl, hp, hcur, hle, hm, hsz, hts⟩
  · omega
  have hcu : ∀ i, i < 3 → w1.cell? ⟨p, i, none⟩ = ([Value.int .u8 1, .int .u8 tag, .int .u8 (v % 256)] : List Value)[i]? := by
    intro i hi3
    rw [← hts]
    simp [World.cell?, hcur, hi3]
  have k0 := hcu 0 (by omega); have k1 := hcu 1 (by omega); have k2 := hcu 2 (by omega)
  simp at k0 k1 k2
  clear hcu hts hcur hgrow hnil hown hg
  go_wp2
  go_ret
  exact ⟨p, cap, rfl, k0, k1, k2, hB⟩
set_option maxRecDepth 100000 in
set_option maxHeartbeats 800000 in
theorem clo2 (p q a b c : Nat) (fail : Bool) (er : Value) (w : World) (ha : w.cell? ⟨a, 0, none⟩ = some (.int .i64 0)) (fa : w.frozen? ⟨a, 0, none⟩ = false) (hb : w.cell? ⟨b, 0, none⟩ = some (.bool fail)) (hc : w.cell? ⟨c, 0, none⟩ = some er) (hab : a ≠ b) (hac : a ≠ c) :
    Calls Yba.prog 10 #[.slice (some ⟨p, 0, none⟩) 2 q, .pointer (some ⟨a, 0, none⟩), .pointer (some ⟨b, 0, none⟩), .pointer (some ⟨c, 0, none⟩)] w fun e w' => e = .returned (if fail then er else .nilIface) ∧ w' = w.setCell ⟨a, 0, none⟩ (.int .i64 2) := by
  cases fail
  · go_enter Yba.func10, Yba.ntmps10
    go_wp2
    go_ret
    exact ⟨rfl, rfl⟩
  · go_enter Yba.func10, Yba.ntmps10
    go_wp2
    go_ret
    exact ⟨rfl, rfl⟩
set_option maxRecDepth 100000 in
set_option maxHeartbeats 800000 in
theorem clo3 (v : Value) (a : Nat) (n : Int) (w : World) (ha : w.cell? ⟨a, 0, none⟩ = some (.int .i64 n)) :
    Calls Yba.prog 11 #[v, .pointer (some ⟨a, 0, none⟩)] w fun e w' => e = .returned (.tuple #[.int .i64 n, .nilIface]) ∧ w' = w := by
  go_enter Yba.func11, Yba.ntmps11
  go_wp2
  go_ret2
  exact ⟨rfl, rfl⟩
set_option maxRecDepth 100000 in
set_option maxHeartbeats 800000 in
theorem clo4 (k : Int) (a : Nat) (w : World) (ha : w.heap[a]? = some (.cells #[.slice none 0 0] 74)) :
    Calls Yba.prog 12 #[.int .u64 k, .pointer (some ⟨a, 0, none⟩)] w fun e w' => e = .returned (.tuple #[]) ∧ (∃ p cap, w'.cell? ⟨a, 0, none⟩ = some (.slice (some ⟨p, 0, none⟩) 1 cap) ∧ w'.cell? ⟨p, 0, none⟩ = some (.int .u64 k)) ∧ Below a w w' := by
  obtain ⟨i0, hi, hz0, hz1, hz2⟩ := info_parts info28
  have hal : a < w.heap.size := (Array.getElem?_eq_some_iff.1 ha).1
  have hcl : w.cell? ⟨a, 0, none⟩ = some (.slice none 0 0) := by simp [World.cell?, ha]
  have hfz : w.frozen? ⟨a, 0, none⟩ = false := by simp [World.frozen?, ha]
  go_enter Yba.func12, Yba.ntmps12
  go_wp2_with (first | (at_builtin; refine wpList_append_own _ rfl (.tmp 3) (.tmp 5) 74 rfl w.heap.size 28 i0 (.int .u64 0) 1 8 Yba.underlying74 hi hz0 hz1 hz2 rfl (by decide) _ _ _ rfl (World.ownsRow_nil _ _ _ _) ⟨w.heap.size, 0, none⟩ 1 1 [.int .u64 k] rfl rfl ?c1 ?c2 ?c3 ?c4 ?c5 ?_) | fail)
  case c1 =>
    intro j u hj
    match j, hj with
    | 0, hj => simp at hj; subst hj; simp [Addr.add]
  case c2 => intro u hu; simp at hu; subst hu; rfl
  case c3 => unfold maxLen; omega
  case c4 => omega
  case c5 => simp
  intro v' w1 hown' hgrow hnil
  have hB : Below w.heap.size w w1 := ((Below.refl _ w).alloc (Nat.le_refl _) _).grown hgrow (by simp) (fun k hk => by simp [Value.ownBlock] at hk)
  have ha1 : w1.heap[a]? = some (.cells #[.slice none 0 0] 74) := (hB.block a hal).trans ha
  have hcl1 : w1.cell? ⟨a, 0, none⟩ = some (.slice none 0 0) := by simp [World.cell?, ha1]
  have hfz1 : w1.frozen? ⟨a, 0, none⟩ = false := by simp [World.frozen?, ha1]
  obtain ⟨_, hh⟩ := hown'
  rcases hh with ⟨h1, h2⟩ | ⟨p, cap, cur, rfl, hp, hcur, hle, hm, hsz, hts⟩
  · omega
  have hcu : w1.cell? ⟨p, 0, none⟩ = ([] ++ [Value.int .u64 k])[0]? := by
    rw [← hts]
    simp [World.cell?, hcur]
  simp at hcu
  clear hts hcur hgrow hnil ha ha1
  go_wp2
  go_end0
  refine ⟨rfl, ⟨p, cap, ?_, ?_⟩, (hB.mono (Nat.le_of_lt hal)).setCell (Nat.le_refl _) _⟩
  · simp [go_sem, hcl1]
  · simp [go_sem, hcu]
end MuW
end Go.Proofs.Ybulkcmoc
