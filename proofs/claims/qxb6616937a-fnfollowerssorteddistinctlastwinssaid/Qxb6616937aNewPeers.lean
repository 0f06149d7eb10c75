/-
  ZZnewReplicaPeers: the map of the peers, made and filled.
-/
import Derived.Test.Qxb6616937aRound
import Derived.Test.Qxb6616937aPeers
import Derived.Laws.Tables
import Derived.Maps.Own
import Derived.Maps.OwnSet
import Derived.StringKeys
import Derived.BigRegion
import Derived.Sort.KeysCollected
import Derived.Deep.AppendLies
import Derived.Deep.RegionHeld3
namespace Go.Proofs.Qxb6616937a
open Go.RowKit Go.Maps

/-- How a peer's progress reads in the map's datum: by the number of its block. -/
def blk (v : Value) : Option (DataW Unit × List MemPlace) :=
  match v with
  | .pointer (some ⟨g, 0, none⟩) => some (.lit (.int .i64 (g : Int)), [])
  | .pointer none => some (.nil, [])
  | _ => none

/-- The match index that the last of the first n peers with this id has. -/
def lastOf (S : Nat → ByteArray) (M : Nat → Int) : Nat → List UInt8 → Option Int
  | 0, _ => none
  | n + 1, s => if (S n).data.toList = s then some (M n) else lastOf S M n s

/-- The block b holds the map of the first k peers. -/
structure MapIs (w : World) (b k : Nat) (S : Nat → ByteArray) (M : Nat → Int) (D : DataW Unit) : Prop where
  own : w.ownsMap Try.prog 9 blk b k D
  hit : ∀ s m, lastOf S M k s = some m → ∃ g : Nat, (∀ z, D.atKey (.string s) z = .lit (.int .i64 (g : Int))) ∧ b < g ∧ w.cell? ⟨g, 0, none⟩ = some (.int .u64 m)
  miss : ∀ s, lastOf S M k s = none → has D (.string s) = false

/-- A replica whose peers' map is that. -/
structure RepIs (w : World) (r b n : Nat) (S : Nat → ByteArray) (M : Nat → Int) (D : DataW Unit) : Prop where
  at_ : w.cell? ⟨r, 135, none⟩ = some (.map (some b))
  map : MapIs w b n S M D

theorem MapIs.start (w : World) (S : Nat → ByteArray) (M : Nat → Int) : MapIs (w.alloc (.map #[] 0)) w.heap.size 0 S M (.map []) :=
  ⟨World.ownsMap_made w _ _ _, fun s m h => by simp [lastOf] at h, fun s _ => rfl⟩

theorem MapIs.later {w w' : World} {b k : Nat} {S : Nat → ByteArray} {M : Nat → Int} {D : DataW Unit} (h : MapIs w b k S M D) (hb : Below w.heap.size w w') : MapIs w' b k S M D := by
  refine ⟨?_, fun s m hs => ?_, h.miss⟩
  · have hlt := h.own.lt
    obtain ⟨es, clock, hb', F, hs, hD⟩ := h.own
    exact ⟨es, clock, (hb.block b hlt).trans hb', F, hs, hD⟩
  · obtain ⟨g, h1, h2, h3⟩ := h.hit s m hs
    exact ⟨g, h1, h2, (hb.cell (p := ⟨g, 0, none⟩) (block_lt_of_cell h3)).trans h3⟩

theorem RepIs.later {w w' : World} {r b k : Nat} {S : Nat → ByteArray} {M : Nat → Int} {D : DataW Unit} (h : RepIs w r b k S M D) (hb : Below w.heap.size w w') : RepIs w' r b k S M D :=
  ⟨(hb.cell (p := ⟨r, 135, none⟩) (block_lt_of_cell h.at_)).trans h.at_, h.map.later hb⟩

theorem MapIs.put {w w' : World} {b k : Nat} {S : Nat → ByteArray} {M : Nat → Int} {D : DataW Unit} {cells : Array Value} (h : MapIs w b k S M D) (hc : cells[0]? = some (.int .u64 (M k)))
    (hown : w'.ownsMap Try.prog 9 blk b (k + 1) (D.put (.string (S k).data.toList) (.lit (.int .i64 (w.heap.size : Int))))) (hg : (w.alloc (.cells cells 111)).drew.grownBy w' (some b)) :
    MapIs w' b (k + 1) S M (D.put (.string (S k).data.toList) (.lit (.int .i64 (w.heap.size : Int)))) := by
  have hlt := h.own.lt
  refine ⟨hown, fun s m hs => ?_, fun s hs => ?_⟩
  · unfold lastOf at hs
    split at hs
    · next e =>
      subst e
      simp only [Option.some.injEq] at hs
      subst hs
      refine ⟨w.heap.size, fun z => atKey_put_same h.own.isMap (by constructor) _ z, hlt, ?_⟩
      rw [hg.cell_far (a := ⟨w.heap.size, 0, none⟩) (by simp) (by simp; omega)]
      exact (cell_newBlock _ _ _ _).trans hc
    · next e =>
      obtain ⟨g, h1, h2, h3⟩ := h.hit s m hs
      have hgl : g < w.heap.size := block_lt_of_cell h3
      refine ⟨g, fun z => (atKey_put_other (by simp; exact fun e' => e e'.symm) _ z).trans (h1 z), h2, ?_⟩
      rw [hg.cell_far (a := ⟨g, 0, none⟩) (by simp; omega) (by simp; omega)]
      exact ((Below.refl w.heap.size w).alloc (Nat.le_refl _) _ |>.cell (p := ⟨g, 0, none⟩) hgl).trans h3
  · unfold lastOf at hs
    split at hs
    · cases hs
    · next e => exact (has_put_other (by simp; exact fun e' => e e'.symm) _).trans (h.miss s hs)

/-- The cells of a new progress. -/
def prog111 (m : Int) : Array Value := #[Value.int IntKind.u64 m, Value.int IntKind.u64 0, Value.bool false, Value.bool false, Value.slice none 0 0,
        Value.int IntKind.u64 0, Value.int IntKind.i64 0, Value.int IntKind.u64 0, Value.int IntKind.u64 0,
        Value.pointer none, Value.pointer none, Value.int IntKind.u8 0, Value.int IntKind.u64 0, Value.bool false]

theorem build105m (b : Nat) : ∃ cells : Array Value, Try.prog.built 105 [(46, .map (some b))] = some cells ∧ cells[135]? = some (.map (some b)) :=
  ⟨(Try.prog.built 105 [(46, .map (some b))]).getD #[], by kernel_rfl, by kernel_rfl⟩

theorem run_makeMap_hint (n : Nat) (w : World) : (Instr.makeMap 86 (some (.int .i64 (n : Int)))).run Try.prog w = .ok (.map (some w.heap.size)) (w.alloc (.map #[] 0)) := by
  simp [Instr.makeMap, run_underlying Try.underlying86, asInt, asIntOf, Result.andThen]

set_option maxRecDepth 4000 in
set_option maxHeartbeats 1000000 in
theorem newPeers_any (g1 g2 n c1 c2 : Nat) (S : Nat → ByteArray) (M : Nat → Int) (w : World) (hn : n ≤ 1048576)
    (hS : ∀ k, k < n → w.cell? ⟨g1, k, none⟩ = some (.string (S k)) ∧ (S k).size ≤ 1048576) (hM : ∀ k, k < n → w.cell? ⟨g2, k, none⟩ = some (.int .u64 (M k))) :
    Calls Try.prog 25 #[.slice (some ⟨g1, 0, none⟩) n c1, .slice (some ⟨g2, 0, none⟩) n c2] w fun e w' => ∃ r b D, e = .returned (.pointer (some ⟨r, 0, none⟩)) ∧ RepIs w' r b n S M D ∧ Below w.heap.size w w' := by
  have hmk := run_makeMap_hint n
  go_enter Try.func25, Try.ntmps25
  go_wp2
  clear hmk
  have B0 : Below w.heap.size w (w.alloc (.map #[] 0)) := (Below.refl _ _).alloc (Nat.le_refl _) _
  go_loopw [6] (fun i wr => ∃ (k : Nat) (D : DataW Unit), k ≤ n ∧ i = .int .i64 k ∧ MapIs wr w.heap.size k S M D ∧ Below w.heap.size w wr) (fun i _ => n - (intOf i).toNat)
  case atStart => exact ⟨0, _, Nat.zero_le _, rfl, MapIs.start _ _ _, B0⟩
  case round =>
    obtain ⟨k, D, hk, rfl, HM, BW⟩ := hrel
    by_cases hlt : k < n
    · have h1 : wr.cell? ⟨g1, k, none⟩ = some (.string (S k)) := (BW.cell (p := ⟨g1, k, none⟩) (block_lt_of_cell (hS k hlt).1)).trans (hS k hlt).1
      have h2 : wr.cell? ⟨g2, k, none⟩ = some (.int .u64 (M k)) := (BW.cell (p := ⟨g2, k, none⟩) (block_lt_of_cell (hM k hlt))).trans (hM k hlt)
      have hss := (hS k hlt).2
      have hkey : keyOf Try.prog 9 (.string (S k)) = some (.string (S k).data.toList) := WideMaps.keyOf_string_mk Try.underlying9 (by unfold maxLen; omega)
      obtain ⟨w', hrun, hown', hgr⟩ := (HM.own.alloc (.cells (prog111 (M k)) 111)).drew.update (string_keyed Try.underlying9) Try.underlying86 (by unfold maxLen; omega) hkey (val := .pointer (some ⟨wr.heap.size, 0, none⟩)) (d := .lit (.int .i64 (wr.heap.size : Int))) (ps := []) rfl
      have HM' := HM.put (cells := prog111 (M k)) rfl hown' hgr
      unfold prog111 at hrun
      have q1 : g1 < w.heap.size := block_lt_of_cell (hS k hlt).1
      have q2 : g2 < w.heap.size := block_lt_of_cell (hM k hlt)
      have hsz := BW.size
      have BW' : Below w.heap.size w w' := BW.trans (((Below.refl w.heap.size wr).alloc hsz (.cells (prog111 (M k)) 111)).trans ⟨hgr.os, hgr.tape, hgr.output, hgr.size, fun i hi => hgr.block i (by simp; omega) (by simp; omega)⟩)
      have h1' : w'.cell? ⟨g1, k, none⟩ = some (.string (S k)) := (BW'.cell (p := ⟨g1, k, none⟩) q1).trans (hS k hlt).1
      have h2' : w'.cell? ⟨g2, k, none⟩ = some (.int .u64 (M k)) := (BW'.cell (p := ⟨g2, k, none⟩) q2).trans (hM k hlt)
      have ne1 := World.new_ne wr _ h1
      have ne2 := World.new_ne wr _ h2
      clear hown' hgr hS hM HM BW hsz
      go_wp2
      go_region_held3 (fun w' => w'.cell? ⟨g1, k, none⟩ = some (.string (S k)) ∧ w'.cell? ⟨g2, k, none⟩ = some (.int .u64 (M k))) (go_keep) (fail)
      go_wp2
      go_roundw
      case rel => exact ⟨k + 1, _, by omega, by go_num, HM', BW'⟩
      case measure => simp [intOf]; omega
    · obtain ⟨cells, hb, hc⟩ := build105m w.heap.size
      have hcz : k = n := by omega
      subst hcz
      have HB : Hid (Try.prog.built 105 [(46, .map (some w.heap.size))] = some cells) := hb
      clear hb hS hM
      go_wp2_with (refine wpList_build_at rfl 105 #[(46, .tmp 27)] rfl [(46, .map (some w.heap.size))] (by simp [go_sem]) cells HB.out ?_)
      go_ret
      have B1 : Below wr.heap.size wr (wr.alloc (.cells cells 105)) := (Below.refl _ _).alloc (Nat.le_refl _) _
      exact ⟨_, _, D, rfl, ⟨(cell_newBlock _ _ _ _).trans hc, HM.later B1⟩, BW.trans (B1.mono BW.size)⟩
end Go.Proofs.Qxb6616937a
