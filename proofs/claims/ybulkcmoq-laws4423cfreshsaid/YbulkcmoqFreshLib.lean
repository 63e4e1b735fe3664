/-
  LawS4423CFresh: slices.Sort, maps.Keys, slices.Sorted, slices.Equal, off the shelf.
-/
import Derived.Test.YbulkcmoqFreshSame
import Derived.Test.YbulkcmoqFreshShelf
namespace Go.Proofs.Ybulkcmoq
namespace FreshW
open Go.Maps Go.Sort Go.RowKit Go.Shelf

theorem sort14 : Sort14 := fun blk off cap ss w hH hb hs => AnyM.slices_Sort_string FreshS.sortA blk off cap ss w hH hb hs

theorem sortsA (m : Nat) : AnyZ.SortsIn Yba.prog FreshS.sortedA_ren Fence.wide m :=
  ⟨fun blk off cap ss W hH hblk hsz => callsIn_wide.2 (AnyM.slices_Sort_string FreshS.sortA blk off cap ss W hH hblk hsz),
   fun p cap W => callsIn_wide.2 (AnyM.slices_Sort_string_none FreshS.sortA p cap W)⟩

theorem keys19 : Keys19 := fun mb W => (callsIn_wide (n := 5)).1 (AnyZ.keys_in FreshS.keysA Fence.wide 5 trivial rfl (some mb) W)

theorem sorted18 : Sorted18 := by
  intro b n D W hown hmax hbytes
  have hbl := hown.lt
  have hseq : SeqGives Fence.wide 2 Yba.prog 26 #[.pointer (some ⟨W.heap.size, 0, none⟩)] encStr (fun ss => ss.Perm (strKeys D)) (Maps.size D) (W.alloc (.cells #[.map (some b)] 45)) :=
    AnyZ.keys_gives (ρ := FreshS.keysA_ren) { FreshS.keysA with } Fence.wide _ trivial rfl (by omega) W.heap.size b n D _ (by simp) (by simp) (by
      obtain ⟨es, clock, hb, Ft, hs, hD⟩ := hown
      exact ⟨es, clock, (Below.heap_alloc _ _ b hbl).trans hb, Ft, hs, hD⟩)
  have cS := AnyZ.sorted_in FreshS.sortedA Fence.wide 5 trivial trivial trivial trivial rfl (by omega) (sortsA _) (enters_of Yba.func14 (by kernel_rfl) rfl) 26 #[.pointer (some ⟨W.heap.size, 0, none⟩)] trivial (enters_of Yba.func26 (by kernel_rfl) rfl) _ _ hmax hbytes _ hseq
  refine ((callsIn_wide (n := 5)).1 cS).mono ?_
  rintro e w' ⟨v, ss, rfl, hS, hrow, hnil, hb⟩
  exact ⟨v, ss, rfl, hS, ownsRow_base_a hrow (by simp), hnil, ((Below.refl _ W).alloc (Nat.le_refl _) _).trans (hb.mono (by simp))⟩

theorem equal13 : Equal13 := by
  intro b1 c b2 d ss w hl h1 h2
  have hlen : (ss.map fun s => (⟨s.toArray⟩ : ByteArray)).length = ss.length := by simp
  have hg : ∀ j, j < ss.length → encStr (ss.getD j []) = .string ((ss.map fun s => (⟨s.toArray⟩ : ByteArray)).getD j ByteArray.empty) := fun j hj => by
    simp [List.getD, hj, encStr]
  refine (AnyG.slices_Equal_string FreshS.equalA b1 0 ss.length c b2 0 ss.length d (ss.map fun s => (⟨s.toArray⟩ : ByteArray)) (ss.map fun s => (⟨s.toArray⟩ : ByteArray)) w (by omega) (by omega) (by omega) (by omega) (fun j hj => ?_) (fun j hj => ?_)).mono ?_
  · rw [hlen] at hj
    rw [Nat.zero_add, h1 j hj, hg j hj]
  · rw [hlen] at hj
    rw [Nat.zero_add, h2 j hj, hg j hj]
  · rintro e w' ⟨rfl, q, rfl⟩
    exact ⟨by simp, q, rfl⟩
end FreshW
end Go.Proofs.Ybulkcmoq
