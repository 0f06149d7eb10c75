/-
  SLICES OF BYTES: what the walks of the Skip law say of them; the contract of zzCloneBytes.
  'Rd w a len bs': the slice at address a, of len elements, reads as the numbers bs. 'Own B w v bs': v is a slice of the call's own, at the head of a block from B on, and holds bs.
-/
import Derived.Test.Qxb6619281aProg
import Derived.WalkKit
import Derived.WalkSpells
import Derived.WalkLawsBesides
import Derived.Deep.AppendLies
import Derived.Deep.QuietTactic
import Derived.BigQuiet
namespace Go.Proofs.Qxb6619281a
open Go.RowKit

theorem hide {p : Prop} (h : p) : Hid p := h

def toB (bs : List Int) : List Value := bs.map (Value.int .u8)

theorem toB_get (bs : List Int) (k : Nat) (h : k < bs.length) : (toB bs)[k]? = some (.int .u8 (bs[k]?.getD 0)) := by
  simp [toB, h]
theorem toB_length (bs : List Int) : (toB bs).length = bs.length := by simp [toB]
theorem toB_append (a b : List Int) : toB (a ++ b) = toB a ++ toB b := by simp [toB]

structure Rd (w : World) (a : Option Addr) (len : Nat) (bs : List Int) : Prop where
  lenEq : bs.length = len
  nilLen : a = none → len = 0
  cell : ∀ k, k < len → ∃ b off, a = some ⟨b, off, none⟩ ∧ w.cell? ⟨b, off + k, none⟩ = some (.int .u8 (bs[k]?.getD 0))
  byte : ∀ x, x ∈ bs → 0 ≤ x ∧ x < 256

/-- The slice lies below block number B. -/
def Under (B : Nat) (a : Option Addr) : Prop := ∀ x, a = some x → x.block < B

theorem Rd.below {w w' : World} {a : Option Addr} {len : Nat} {bs : List Int} (h : Rd w a len bs) {B : Nat} (hb : Below B w w') (hu : Under B a) : Rd w' a len bs :=
  ⟨h.lenEq, h.nilLen, fun k hk => by
    obtain ⟨b, off, rfl, hc⟩ := h.cell k hk
    exact ⟨b, off, rfl, (hb.cell (p := ⟨b, off + k, none⟩) (hu ⟨b, off, none⟩ rfl)).trans hc⟩, h.byte⟩

/-- What keeps every old block keeps a slice that reads. -/
theorem Rd.later {w w' : World} {a : Option Addr} {len : Nat} {bs : List Int} (h : Rd w a len bs) (hb : Below w.heap.size w w') : Rd w' a len bs :=
  ⟨h.lenEq, h.nilLen, fun k hk => by
    obtain ⟨b, off, rfl, hc⟩ := h.cell k hk
    exact ⟨b, off, rfl, (hb.cell (p := ⟨b, off + k, none⟩) (block_lt_of_cell hc)).trans hc⟩, h.byte⟩

/-- A slice of the call's own. -/
def Own (B : Nat) (w : World) (v : Value) (bs : List Int) : Prop := w.ownsRow B 5 1 v bs.length (toB bs)

theorem Own.rd {B : Nat} {w : World} {g n cap : Nat} {bs : List Int} (h : Own B w (.slice (some ⟨g, 0, none⟩) n cap) bs) (hn : bs.length = n) (hby : ∀ x, x ∈ bs → 0 ≤ x ∧ x < 256) : Rd w (some ⟨g, 0, none⟩) n bs := by
  subst hn
  refine ⟨rfl, (fun e => by cases e), fun k hk => ⟨g, 0, rfl, ?_⟩, hby⟩
  have := World.ownsRow.cellAt h k (by omega)
  rw [toB_get bs k hk] at this
  simpa using this

/-- Ahead of a copy's k-th round. -/
def part (bs : List Int) (k : Nat) : List Int := bs.take k ++ List.replicate (bs.length - k) 0

theorem part_zero (bs : List Int) : part bs 0 = List.replicate bs.length 0 := by simp [part]
theorem part_full (bs : List Int) (k : Nat) (h : k = bs.length) : part bs k = bs := by subst h; simp [part]
theorem part_length (bs : List Int) (k : Nat) (h : k ≤ bs.length) : (part bs k).length = bs.length := by simp [part]; omega
theorem part_succ (bs : List Int) (k : Nat) (h : k < bs.length) : (toB (part bs k)).set k (.int .u8 (bs[k]?.getD 0)) = toB (part bs (k + 1)) := by
  unfold toB
  rw [← List.map_set]
  congr 1
  unfold part
  apply List.ext_getElem?
  intro j
  rw [List.getElem?_set]
  have hl : (List.take k bs ++ List.replicate (bs.length - k) 0).length = bs.length := by simp; omega
  by_cases hj : k = j
  · subst hj
    rw [if_pos rfl, hl, if_pos h, List.getElem?_append_left (by simp; omega), List.getElem?_take, if_pos (by omega)]
    simp [h]
  · rw [if_neg hj]
    by_cases hjk : j < k
    · rw [List.getElem?_append_left (by simp; omega), List.getElem?_append_left (by simp; omega), List.getElem?_take, List.getElem?_take, if_pos hjk, if_pos (by omega)]
    · rw [List.getElem?_append_right (by simp; omega), List.getElem?_append_right (by simp; omega), List.getElem?_replicate, List.getElem?_replicate]
      simp only [List.length_take]
      by_cases hjn : j < bs.length
      · rw [if_pos (by omega), if_pos (by omega)]
      · rw [if_neg (by omega), if_neg (by omega)]

theorem info5 : (Try.prog.info? 5).map (fun i => (i.zero, i.size, i.bytes)) = some (some (.int .u8 0), 1, 1) := by kernel_rfl

theorem made_part (bs : List Int) : (madeCells (Value.int .u8 0).cells (bs.length * 1)).toList = toB (part bs 0) := by
  rw [part_zero, Nat.mul_one]
  show (madeCells #[Value.int .u8 0] bs.length).toList = _
  rw [toList_madeCells_one]
  simp [toB]

/-- The loop that copies, at the world ahead of it: the parts that both clones share. -/
theorem copy_step {B : Nat} {w wr : World} {g len : Nat} {bs : List Int} {k : Nat} (hlen : bs.length = len) (hk : k < len) (hB : B ≤ g) (h : wr.ownsRow B 5 1 (.slice (some ⟨g, 0, none⟩) len len) len (toB (part bs k))) (hb : Below B w wr) :
    (wr.setCell ⟨g, k, none⟩ (.int .u8 (bs[k]?.getD 0))).ownsRow B 5 1 (.slice (some ⟨g, 0, none⟩) len len) len (toB (part bs (k + 1))) ∧ Below B w (wr.setCell ⟨g, k, none⟩ (.int .u8 (bs[k]?.getD 0))) := by
  refine ⟨?_, hb.setCell hB _⟩
  have := (World.ownsRow.stored h k (.int .u8 (bs[k]?.getD 0))).1
  rwa [part_succ bs k (by omega)] at this
theorem copy_cell {B : Nat} {wr : World} {g len : Nat} {bs : List Int} {k : Nat} (hlen : bs.length = len) (hk : k < len) (h : wr.ownsRow B 5 1 (.slice (some ⟨g, 0, none⟩) len len) len (toB (part bs k))) :
    ∃ z, wr.cell? ⟨g, k, none⟩ = some (.int .u8 z) := by
  have := World.ownsRow.cellAt h k (by omega)
  rw [toB_get _ k (by rw [part_length bs k (by omega)]; omega)] at this
  exact ⟨_, this⟩

/-- The slice lies at or beyond block number B. -/
def Over (B : Nat) (a : Option Addr) : Prop := ∀ x, a = some x → B ≤ x.block

/-- zzCloneBytes: nil for nil; else a new row with the same bytes. -/
theorem cloneBytes_nil (w : World) : Calls Try.prog 18 #[.slice none 0 0] w fun e w' => e = .returned (.slice none 0 0) ∧ w = w' := by
  have hn := fun w => Lib.run_eql_slice_nil (P := Try.prog) w 22 5 none 0 0 0 0 Try.underlying22
  go_enter Try.func18, Try.ntmps18
  go_wp2
  go_ret
  exact ⟨rfl, rfl⟩

set_option maxHeartbeats 400000 in
theorem cloneBytes_some (x : Addr) (len cap : Nat) (bs : List Int) (w : World) (h : Rd w (some x) len bs) (hl : len ≤ 1048576) :
    Calls Try.prog 18 #[.slice (some x) len cap] w fun e w' => ∃ g, e = .returned (.slice (some ⟨g, 0, none⟩) len len) ∧ Own w.heap.size w' (.slice (some ⟨g, 0, none⟩) len len) bs ∧ Below w.heap.size w w' := by
  obtain ⟨i0, hi, hz0, hz1, hz2⟩ := info_parts info5
  have HLen : Hid (bs.length = len) := h.lenEq
  have hn := fun w => Lib.run_eql_slice_nil (P := Try.prog) w 22 5 (some x) len cap 0 0 Try.underlying22
  go_enter Try.func18, Try.ntmps18
  go_wp2_with (at_make; refine wpList_make_full _ rfl _ _ 22 rfl w.heap.size 5 i0 (.int .u8 0) 1 Try.underlying22 hi hz0 hz1 .i64 .i64 _ _ len rfl rfl rfl rfl (by rw [hz2]; omega) (by unfold maxLen; omega) (Nat.le_refl _) ?_; intro w1 hown1 hgrow1)
  have H1 : w1.ownsRow w.heap.size 5 1 (.slice (some ⟨w.heap.size, 0, none⟩) len len) len (toB (part bs 0)) := by
    rw [← made_part, HLen.out]; exact hown1
  have B1 : Below w.heap.size w w1 := (Below.refl _ _).grown hgrow1 (Nat.le_refl _) (fun k e => by cases e)
  clear hown1 hgrow1 hi hz0 hz1 hz2 hn
  go_loopw [4] (fun i wr => ∃ k : Nat, k ≤ len ∧ i = .int .i64 k ∧ wr.ownsRow w.heap.size 5 1 (.slice (some ⟨w.heap.size, 0, none⟩) len len) len (toB (part bs k)) ∧ Below w.heap.size w wr) (fun i _ => len - (intOf i).toNat)
  case atStart => exact ⟨0, Nat.zero_le _, rfl, H1, B1⟩
  case round =>
    clear H1 B1
    obtain ⟨k, hk, rfl, hown, hB⟩ := hrel
    by_cases hlt : k < len
    · obtain ⟨b, off, hx, hc⟩ := (h.later hB).cell k hlt
      obtain rfl : x = ⟨b, off, none⟩ := by simpa using hx
      obtain ⟨z, hz⟩ := copy_cell HLen.out hlt hown
      have hf := World.ownsRow.frozenAt hown k
      have R := copy_step HLen.out hlt (Nat.le_refl _) hown hB
      have HR := hide R
      clear R hown hB h hx
      generalize bs[k]?.getD 0 = x at hc HR
      go_wp2
      go_roundw
      case rel => exact ⟨k + 1, by omega, by go_num, (HR.out).1, (HR.out).2⟩
      case measure => simp [intOf]; omega
    · go_wp2
      go_ret
      refine ⟨_, rfl, ?_, hB⟩
      have e := part_full bs k (by have := HLen.out; omega)
      rw [e] at hown
      unfold Own
      rw [HLen.out]
      exact hown

/-- zzCloneBytes in one word. -/
theorem cloneBytes_any (a : Option Addr) (len cap : Nat) (bs : List Int) (w : World) (h : Rd w a len bs) (hcap : a = none → cap = 0) (hl : len ≤ 1048576) :
    Calls Try.prog 18 #[.slice a len cap] w fun e w' => ∃ a', e = .returned (.slice a' len len) ∧ Rd w' a' len bs ∧ Under w'.heap.size a' ∧ Over w.heap.size a' ∧ (a' = none ↔ a = none) ∧ Below w.heap.size w w' := by
  cases a with
  | none =>
    obtain rfl := h.nilLen rfl
    obtain rfl := hcap rfl
    refine (cloneBytes_nil w).mono ?_
    rintro e w' ⟨rfl, rfl⟩
    exact ⟨none, rfl, h, (fun x e => by cases e), (fun x e => by cases e), by simp, Below.refl _ _⟩
  | some x =>
    refine (cloneBytes_some x len cap bs w h hl).mono ?_
    rintro e w' ⟨g, rfl, ho, hb⟩
    refine ⟨_, rfl, ho.rd h.lenEq h.byte, ?_, ?_, by simp, hb⟩
    · rintro y ⟨rfl⟩; exact (World.ownsRow.lt ho g rfl).2
    · rintro y ⟨rfl⟩; exact (World.ownsRow.lt ho g rfl).1

end Go.Proofs.Qxb6619281a
