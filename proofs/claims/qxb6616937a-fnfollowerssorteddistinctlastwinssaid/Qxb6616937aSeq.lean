/-
  FOLLOWERS, THE ITERATOR: the peers' ids, sorted, each with its progress; for every loop body that writes its own two slices alone.
-/
import Derived.RangeFuncNested
import Derived.RangeFuncBound
import Derived.RangeFuncCalls
import Derived.RangeFuncLeaves
import Derived.RangeFuncBox
import Derived.Shelf.Abstract
import Derived.Shelf.RegionOpen
import Derived.WalkKit
import Derived.OwnWalkIn
import Derived.TacticsInMore
import Derived.LoopNIn
import Derived.LoopIn
import Derived.Maps.AppendAt
import Derived.Test.Qxb6616937aIter
import Derived.Test.Qxb6616937aNewPeers
namespace Go.Proofs.Qxb6616937a
open Go.RowKit Go.Maps Go.Sort Go.Shelf
attribute [local go_sem] Oper.semAt_some

/-- The block of the slice that the box B holds. -/
def rowOf (W : World) (B : Nat) : Option Nat := (W.cell? ⟨B, 0, none⟩).bind Value.ownBlock

/-- The blocks that the body may write: its two boxes and the rows that they hold. -/
def Mine (B1 B2 : Nat) (W : World) (i : Nat) : Prop := i = B1 ∨ i = B2 ∨ rowOf W B1 = some i ∨ rowOf W B2 = some i

/-- What a round keeps. -/
structure KpB (n₀ B1 B2 : Nat) (W W' : World) : Prop where
  below : Below n₀ W W'
  cells : ∀ i o, W.heap[i]? = some o → o.isCells = true → ¬ Mine B1 B2 W i → W'.heap[i]? = some o
  row1 : ∀ j, rowOf W' B1 = some j → rowOf W B1 = some j ∨ W.heap.size ≤ j
  row2 : ∀ j, rowOf W' B2 = some j → rowOf W B2 = some j ∨ W.heap.size ≤ j

theorem KpB.mine {n₀ B1 B2 i : Nat} {W W' : World} (h : KpB n₀ B1 B2 W W') (hi : i < W.heap.size) (hm : ¬ Mine B1 B2 W i) : ¬ Mine B1 B2 W' i := by
  rintro (e | e | e | e)
  · exact hm (.inl e)
  · exact hm (.inr (.inl e))
  · rcases h.row1 i e with e' | e'
    · exact hm (.inr (.inr (.inl e')))
    · omega
  · rcases h.row2 i e with e' | e'
    · exact hm (.inr (.inr (.inr e')))
    · omega

theorem KpB.trans {n₀ B1 B2 : Nat} {A B C : World} (h : KpB n₀ B1 B2 A B) (k : KpB n₀ B1 B2 B C) : KpB n₀ B1 B2 A C := by
  have hs := h.below.size
  refine ⟨h.below.trans k.below, fun i o hi ho hm => ?_, fun j hj => ?_, fun j hj => ?_⟩
  · exact k.cells i o (h.cells i o hi ho hm) ho (h.mine (Array.getElem?_eq_some_iff.1 hi).1 hm)
  · rcases k.row1 j hj with e | e
    · exact h.row1 j e
    · exact .inr (by omega)
  · rcases k.row2 j hj with e | e
    · exact h.row2 j e
    · exact .inr (by omega)

theorem rowOf_putObj {W : World} {l B : Nat} {o' : Obj} (hne : B ≠ l) : rowOf (W.putObj l o') B = rowOf W B := by
  unfold rowOf
  rw [World.cell?_of_block (w := W) (w' := W.putObj l o') (a := ⟨B, 0, none⟩) (World.putObj_heap_other hne)]

theorem KpB.book {n₀ B1 B2 : Nat} {w : World} (hn : n₀ ≤ w.heap.size) (h1 : B1 < w.heap.size) (h2 : B2 < w.heap.size) (W : World) (l : Nat) (o o' : Obj) (hl : w.heap.size ≤ l) (h : W.heap[l]? = some o) (ho : o.isCells = false) (hw : o.isWalk = false) : KpB n₀ B1 B2 W (W.putObj l o') := by
  refine ⟨belowK_b hn W l o o' hl h ho hw, fun i o1 hi ho1 _ => ?_, fun j hj => .inl ?_, fun j hj => .inl ?_⟩
  · by_cases e : i = l
    · subst e; rw [h] at hi; cases hi; rw [ho] at ho1; cases ho1
    · exact (World.putObj_heap_other e).trans hi
  · rwa [rowOf_putObj (by omega)] at hj
  · rwa [rowOf_putObj (by omega)] at hj

/-- An id with its progress: the progress lies in w₀ and bears that match. -/
abbrev Item (w₀ : World) : Type := { x : List UInt8 × Nat × Int // w₀.cell? ⟨x.2.1, 0, none⟩ = some (.int .u64 x.2.2) }

abbrev encI {w₀ : World} (x : Item w₀) : Array Value := #[encStr x.1.1, .pointer (some ⟨x.1.2.1, 0, none⟩)]

theorem blk_inv {v : Value} {g : Nat} {ps : List MemPlace} (h : blk v = some (.lit (.int .i64 (g : Int)), ps)) : v = .pointer (some ⟨g, 0, none⟩) := by
  unfold blk at h
  split at h
  · next g' =>
    simp at h
    have := h.1
    obtain rfl : g' = g := (by omega)
    rfl
  · simp at h
  · cases h

set_option maxRecDepth 100000 in
set_option maxHeartbeats 1000000 in
theorem follow_in (l Bn r b n n₀ B1 B2 m : Nat) (D : DataW Unit) (w₀ : World) (L : List (Item w₀)) (J Jx : List (Item w₀) → World → Prop) (W : World)
    (hLs : L.map (·.1.1) = (strKeys D).mergeSort leB) (hLa : ∀ x ∈ L, ∀ z, D.atKey (.string x.1.1) z = .lit (.int .i64 (x.1.2.1 : Int))) (hlen : ∀ x ∈ L, x.1.1.length ≤ maxLen)
    (hJ : AbidesFrom W.heap.size J)
    (hY : ∀ pre x W1, J pre W1 → pre.length < L.length → YieldAt Fence.wide m Try.prog l (encI x) W1 fun e W' =>
      (e = .returned (.bool true) ∧ J (pre ++ [x]) W' ∧ KpB n₀ B1 B2 W1 W') ∨ (e = .returned (.bool false) ∧ Jx (pre ++ [x]) W'))
    (hn₀ : n₀ ≤ W.heap.size) (hB1 : B1 < W.heap.size) (hB2 : B2 < W.heap.size) (nil1 : rowOf W B1 = none) (nil2 : rowOf W B2 = none)
    (hbox : W.cell? ⟨Bn, 0, none⟩ = some (.pointer (some ⟨r, 0, none⟩))) (hBn : Bn < n₀) (hr : r < n₀) (hrc : W.cell? ⟨r, 135, none⟩ = some (.map (some b))) (hown : W.ownsMap Try.prog 9 blk b n D) (hb : b < n₀) (hN : n ≤ 1048576) (h0 : J [] W) :
    CallsIn Fence.wide (m + 1) Try.prog 39 #[.func (.yield l) #[] #[], .pointer (some ⟨Bn, 0, none⟩)] W fun e W' => (∃ v, e = .returned v) ∧
      ((∃ ys, ys = L ∧ J ys W') ∨ (∃ pre, pre <+: L ∧ Jx pre W')) := by
  have hsz := hown.size_le
  have k1 := hide (callsIn_wide.1 (Try.maps_Keys_41 (some b) W))
  have k2 := hide (callsIn_wide.1 (Try.slices_Sorted_keys_40_41 b n D blk W hown (by unfold maxLen; omega) (by omega)))
  refine callsIn_of_wp Try.func39 rfl trivial ?_ rfl
  simp only [Try.ntmps39, List.size_toArray, List.length_cons, List.length_nil, Nat.reduceAdd, Nat.reduceSub, Array.replicate_succ, Array.replicate_zero, List.push_toArray, List.append_toArray, List.nil_append, List.cons_append]
  gi_wp2_with fail
  refine ⟨trivial, (callsIn_wide.2 k1.out).mono ?_⟩
  rintro e w' ⟨rfl, rfl⟩
  gi_wp2_with fail
  refine ⟨trivial, (callsIn_wide.2 k2.out).mono ?_⟩
  rintro e W2 ⟨v, ss, rfl, hperm, hrow, hnil, hbl⟩
  clear k1 k2
  have BW2 : Below W.heap.size W W2 := ((Below.refl _ W).alloc (Nat.le_refl _) _).trans (hbl.mono (by simp))
  have hJ2 : J [] W2 := hJ [] W W2 Option.none h0 ⟨BW2.os, BW2.tape, BW2.output, BW2.size, fun k hk _ => BW2.block k hk⟩ (fun r e => by cases e)
  have hLss : L.map (·.1.1) = ss.mergeSort leB := hLs.trans (mergeSort_of_perm hperm).symm
  have hLl : L.length = ss.length := by have := congrArg List.length hLss; simpa using this
  have r1 : rowOf W2 B1 = Option.none := by unfold rowOf at nil1 ⊢; rwa [BW2.cell (p := ⟨B1, 0, none⟩) hB1]
  have r2 : rowOf W2 B2 = Option.none := by unfold rowOf at nil2 ⊢; rwa [BW2.cell (p := ⟨B2, 0, none⟩) hB2]
  obtain ⟨_, hrow⟩ := hrow
  rcases hrow with ⟨rfl, hz⟩ | ⟨q, cap, cur, rfl, hq, hqb, hcap, hcm, hcs, htake⟩
  · obtain rfl : L = [] := List.length_eq_zero_iff.1 (by omega)
    clear hbl hbox hrc hnil
    gi_wp2_with fail
    gi_loopw [12] (fun i wr => i = .int .i64 0 ∧ J [] wr) (fun _ _ => 0)
    case atStart => exact ⟨rfl, hJ2⟩
    case round =>
      obtain ⟨rfl, hJs⟩ := hrel
      gi_wp2
      go_end0
      exact ⟨⟨_, rfl⟩, .inl ⟨_, rfl, hJs⟩⟩
  · simp at hq
    have hqc : ∀ (k : Nat) (hk : k < L.length), cur[k]? = some (encStr (L[k]'hk).1.1) := by
      intro k hk
      have e1 : (ss.mergeSort leB).map encStr = L.map (fun x => encStr x.1.1) := by rw [← hLss]; simp
      rw [Nat.mul_one] at htake
      have e2 : (cur.toList.take ss.length)[k]? = (L.map (fun x => encStr x.1.1))[k]? := by rw [htake, e1]
      rw [List.getElem?_take_of_lt (by omega)] at e2
      simpa [hk] using e2
    have hm0 : ¬ Mine B1 B2 W2 q := by
      rintro (e | e | e | e)
      · omega
      · omega
      · rw [r1] at e; cases e
      · rw [r2] at e; cases e
    rw [← hLl]
    rw [← hLl] at hcap
    have hLm : L.length ≤ 9223372036854775807 := by unfold maxLen at hcm; omega
    clear hbl htake hJ r1 r2 nil1 nil2 hperm hnil hLss hLs hLl h0
    gi_wp2_with fail
    gi_loopw [12] (fun i wr => ∃ k : Nat, k ≤ L.length ∧ i = .int .i64 k ∧ J (L.take k) wr ∧ Below n₀ W wr ∧ wr.heap[q]? = some (.cells cur 9 (0, 0)) ∧ ¬ Mine B1 B2 wr q) (fun i _ => L.length - (intOf i).toNat)
    case atStart => exact ⟨0, Nat.zero_le _, rfl, by simpa using hJ2, BW2.mono hn₀, hqb, hm0⟩
    case round =>
      obtain ⟨k, hk, rfl, hJs, hnx, hq1, hm1⟩ := hrel
      clear hqb hm0 hJ2
      by_cases hlt : k < L.length
      · have hck : wr.cell? ⟨q, k, none⟩ = some (encStr (L[k]'hlt).1.1) := by simp [World.cell?, hq1, hqc k hlt]
        have hbox' : wr.cell? ⟨Bn, 0, none⟩ = some (.pointer (some ⟨r, 0, none⟩)) := (hnx.cell (p := ⟨Bn, 0, none⟩) hBn).trans hbox
        have hrc' : wr.cell? ⟨r, 135, none⟩ = some (.map (some b)) := (hnx.cell (p := ⟨r, 135, none⟩) hr).trans hrc
        have hown' : wr.ownsMap Try.prog 9 blk b n D := by
          obtain ⟨es, clock, hb', F, hs, hD⟩ := hown
          exact ⟨es, clock, (hnx.block b hb).trans hb', F, hs, hD⟩
        have hmem : L[k]'hlt ∈ L := List.getElem_mem hlt
        have hkey : keyOf Try.prog 9 (encStr (L[k]'hlt).1.1) = some (.string (L[k]'hlt).1.1) := by
          have := WideMaps.keyOf_string_mk (P := Try.prog) Try.underlying9 (s := ⟨(L[k]'hlt).1.1.toArray⟩) (by simpa [ByteArray.size] using hlen _ hmem)
          simpa using this
        obtain ⟨v, ps, hlook, hv⟩ := hown'.lookup (string_keyed Try.underlying9) Try.underlying86 (Try.zeroValue107 wr) (zd := .nil) (zp := []) rfl hkey
        rw [hLa _ hmem] at hv
        obtain rfl := blk_inv hv
        obtain ⟨fn, tmps, assign, body, hy, hR⟩ := hY _ (L[k]'hlt) wr hJs (by simp; omega)
        have htk : L.take k ++ [L[k]'hlt] = L.take (k + 1) := by simp
        rw [htk] at hR
        have hqs := (Array.getElem?_eq_some_iff.1 hq1).1
        clear hown' hY hv hkey hown hqc hLa hlen
        have hy' := hy
        clear hy
        generalize (L[k]'hlt) = x at *
        gi_wp2
        refine hR.mono ?_
        rintro e W3 (⟨rfl, hJ3, hk3⟩ | ⟨rfl, hJx3⟩)
        · gi_wp2
          go_roundw
          case rel => exact ⟨k + 1, by omega, by go_num, hJ3, hnx.trans hk3.below, hk3.cells q _ hq1 rfl hm1, hk3.mine hqs hm1⟩
          case measure => simp [intOf]; omega
        · gi_wp2
          refine bodyPost_ret (results_none rfl _ _ _) rfl ?_
          exact ⟨⟨_, rfl⟩, .inr ⟨_, List.take_prefix _ _, hJx3⟩⟩
      · obtain rfl : k = L.length := by omega
        gi_wp2
        go_end0
        exact ⟨⟨_, rfl⟩, .inl ⟨_, by simp, hJs⟩⟩
end Go.Proofs.Qxb6616937a
