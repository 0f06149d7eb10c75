/-
  DERIVED. MADE BY PROGRAM (lay-iter.mjs) off qxb6616937a.cut.gsa: THE SHELF's CONTRACTS ON 'slices.Sorted(maps.Keys(m))' LAID AT THIS DUMP: 1 map type. NO WALK OF THE LIBRARY's TEXT: each is one application of a contract over any P and ρ (Derived/Shelf/SlIter/, Derived/Shelf/SortM/).
-/
import Derived.Shelf.SlIter.Nil
import Derived.Shelf.SortM.Plain
import Derived.Shelf.SortM.SortNone
import Derived.Ground.GgzProg
import Derived.Ground.SlgmProg
import Derived.Test.Qxb6616937aProg
import Derived.Test.Qxb6616937aLaid
namespace Go.Proofs
open Go.RowKit Go.Maps Go.Sort Go.Shelf

-- The layings: Qxb6616937aLaid (plain words).
/-- slices.Sort's two contracts at this dump, at the fence that asks nothing. -/
theorem Try.sorts40 (m : Nat) : AnyZ.SortsIn Try.prog Try.sorted40_ren Fence.wide m :=
  ⟨fun blk off cap ss W hH hblk hsz => callsIn_wide.2 (AnyM.slices_Sort_string Try.sort45 blk off cap ss W hH hblk hsz),
   fun p cap W => callsIn_wide.2 (AnyM.slices_Sort_string_none Try.sort45 p cap W)⟩

/-- **maps.Keys[map[string]*example.com/quorumshift/quorumshift.progress,string,*example.com/quorumshift/quorumshift.progress], at whatever map, the nil one too:** a function value over ONE NEW BLOCK, which holds the map. -/
theorem Try.maps_Keys_41 (mb : Option Nat) (W : World) : CallsIn Fence.wide 5 Try.prog 41 #[.map mb] W fun e w' => e = .returned (.func (.func 46) #[] #[.pointer (some ⟨W.heap.size, 0, none⟩)]) ∧ w' = W.alloc (.cells #[.map mb] 86) :=
  AnyZ.keys_in Try.keys41 Fence.wide 5 trivial rfl mb W

set_option maxHeartbeats 1000000 in
/-- **slices.Sorted[string] AT WHAT maps.Keys[map[string]*example.com/quorumshift/quorumshift.progress,string,*example.com/quorumshift/quorumshift.progress] HANDED BACK FOR A MAP THAT IS NOT nil** ('w': the world AHEAD of maps.Keys' call): A NEW SLICE THAT HOLDS THE MAP's KEYS, SORTED; nil just where it has none; nothing that lay before has turned. -/
theorem Try.slices_Sorted_keys_40_41 {H : Type} (b nn : Nat) (D0 : DataW H) (R : Value → Option (DataW H × List MemPlace)) (w : World) (hown : w.ownsMap Try.prog 9 R b nn D0) (hmax : Maps.size D0 ≤ maxLen) (hbytes : Maps.size D0 * 16 ≤ 140737488355328) :
    CallsIn Fence.wide 5 Try.prog 40 #[.func (.func 46) #[] #[.pointer (some ⟨w.heap.size, 0, none⟩)]] (w.alloc (.cells #[.map (some b)] 86)) fun e w' => ∃ (v : Value) (ss : List (List UInt8)), e = .returned v ∧ ss.Perm (strKeys D0) ∧
      w'.ownsRow (w.alloc (.cells #[.map (some b)] 86)).heap.size 9 1 v ss.length ((ss.mergeSort (fun x y => decide (x ≤ y))).map encStr) ∧ (v = .slice none 0 0 ↔ ss = []) ∧ Below (w.alloc (.cells #[.map (some b)] 86)).heap.size (w.alloc (.cells #[.map (some b)] 86)) w' := by
  have hbl := hown.lt
  have hseq : SeqGives Fence.wide 2 Try.prog 46 #[.pointer (some ⟨w.heap.size, 0, none⟩)] encStr (fun ss => ss.Perm (strKeys D0)) (Maps.size D0) (w.alloc (.cells #[.map (some b)] 86)) :=
    AnyZ.keys_gives (ρ := Try.keys41_ren) { Try.keys41 with } Fence.wide _ trivial rfl (by omega) w.heap.size b nn D0 _ (by simp) (by simp) (by
      obtain ⟨es, clock, hb, Ft, hs, hD⟩ := hown
      exact ⟨es, clock, (Below.heap_alloc _ _ b hbl).trans hb, Ft, hs, hD⟩)
  exact AnyZ.sorted_in Try.sorted40 Fence.wide 5 trivial trivial trivial trivial rfl (by omega) (Try.sorts40 _) (enters_of Try.func45 (by kernel_rfl) rfl) 46 #[.pointer (some ⟨w.heap.size, 0, none⟩)] trivial (enters_of Try.func46 (by kernel_rfl) rfl) _ _ hmax hbytes _ hseq

set_option maxHeartbeats 1000000 in
/-- **.. AND FOR THE nil MAP: nil.** -/
theorem Try.slices_Sorted_keys_nil_40_41 (w : World) :
    CallsIn Fence.wide 5 Try.prog 40 #[.func (.func 46) #[] #[.pointer (some ⟨w.heap.size, 0, none⟩)]] (w.alloc (.cells #[.map none] 86)) fun e w' => ∃ (v : Value) (ss : List (List UInt8)), e = .returned v ∧ ss = [] ∧
      w'.ownsRow (w.alloc (.cells #[.map none] 86)).heap.size 9 1 v ss.length ((ss.mergeSort (fun x y => decide (x ≤ y))).map encStr) ∧ (v = .slice none 0 0 ↔ ss = []) ∧ Below (w.alloc (.cells #[.map none] 86)).heap.size (w.alloc (.cells #[.map none] 86)) w' := by
  have hseq : SeqGives Fence.wide 2 Try.prog 46 #[.pointer (some ⟨w.heap.size, 0, none⟩)] encStr (fun ss : List (List UInt8) => ss = []) 0 (w.alloc (.cells #[.map none] 86)) :=
    AnyZ.keys_gives_nil (ρ := Try.keys41_ren) { Try.keys41 with } Fence.wide _ trivial rfl w.heap.size _ (by simp) (by simp)
  exact AnyZ.sorted_in Try.sorted40 Fence.wide 5 trivial trivial trivial trivial rfl (by omega) (Try.sorts40 _) (enters_of Try.func45 (by kernel_rfl) rfl) 46 #[.pointer (some ⟨w.heap.size, 0, none⟩)] trivial (enters_of Try.func46 (by kernel_rfl) rfl) _ 0 (Nat.zero_le _) (by omega) _ hseq

end Go.Proofs
