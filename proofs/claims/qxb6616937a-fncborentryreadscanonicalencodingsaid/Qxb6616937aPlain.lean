/-
  THE PLAIN SIDE OF THE CBOR LAW: which fields are chosen; what the buffer holds.
-/
import Derived.Test.Qxb6616937aShim
namespace Go.Proofs.Qxb6616937a
open Go.RowKit

/-- Is field j + 1 chosen? -/
def bitAt (f : Int) (j : Nat) : Bool := bits BinOp.and IntKind.u8 (f / 2 ^ j) 1 == 1

theorem bits_fin : ∀ x : Fin 256, (bits BinOp.and IntKind.u8 (x.val : Int) 1 != 0) = bitAt (x.val : Int) 0 ∧ (bits BinOp.and IntKind.u8 (x.val : Int) 2 != 0) = bitAt (x.val : Int) 1 ∧ (bits BinOp.and IntKind.u8 (x.val : Int) 4 != 0) = bitAt (x.val : Int) 2 ∧ (bits BinOp.and IntKind.u8 (x.val : Int) 8 != 0) = bitAt (x.val : Int) 3 := by
  decide +kernel

theorem bits_of (f : Int) (h0 : 0 ≤ f) (h1 : f < 256) : (bits BinOp.and IntKind.u8 f 1 != 0) = bitAt f 0 ∧ (bits BinOp.and IntKind.u8 f 2 != 0) = bitAt f 1 ∧ (bits BinOp.and IntKind.u8 f 4 != 0) = bitAt f 2 ∧ (bits BinOp.and IntKind.u8 f 8 != 0) = bitAt f 3 := by
  obtain ⟨y, rfl⟩ : ∃ y : Fin 256, f = (y.val : Int) := ⟨⟨f.toNat, by omega⟩, by simp; omega⟩
  exact bits_fin y

/-- How many of the first j are chosen. -/
def cntTo (f : Int) : Nat → Nat
  | 0 => 0
  | j + 1 => cntTo f j + (if bitAt f j then 1 else 0)

theorem cntTo_le (f : Int) (j : Nat) : cntTo f j ≤ j := by
  induction j with
  | zero => exact Nat.le_refl _
  | succ j ih => unfold cntTo; split <;> omega

/-- The keys of the chosen fields. -/
def keysOf (p1 p2 p3 p4 : Bool) : List Nat := (if p1 then [1] else []) ++ ((if p2 then [2] else []) ++ ((if p3 then [3] else []) ++ (if p4 then [4] else [])))

theorem cnt_keys (f : Int) : cntTo f 4 = (keysOf (bitAt f 0) (bitAt f 1) (bitAt f 2) (bitAt f 3)).length := by
  simp only [cntTo, keysOf]
  cases bitAt f 0 <;> cases bitAt f 1 <;> cases bitAt f 2 <;> cases bitAt f 3 <;> rfl

theorem keys_le (p1 p2 p3 p4 : Bool) : (keysOf p1 p2 p3 p4).length ≤ 4 := by
  cases p1 <;> cases p2 <;> cases p3 <;> cases p4 <;> decide

theorem keys_inc (p1 p2 p3 p4 : Bool) : ∀ done k rem, keysOf p1 p2 p3 p4 = done ++ k :: rem → (k = 1 ∨ k = 2 ∨ k = 3 ∨ k = 4) ∧ ∀ j, j ∈ done → j < k := by
  intro done k rem h
  have hp : (keysOf p1 p2 p3 p4).Pairwise (· < ·) := by cases p1 <;> cases p2 <;> cases p3 <;> cases p4 <;> decide
  have hm : ∀ z, z ∈ keysOf p1 p2 p3 p4 → z = 1 ∨ z = 2 ∨ z = 3 ∨ z = 4 := by cases p1 <;> cases p2 <;> cases p3 <;> cases p4 <;> decide
  rw [h] at hp hm
  refine ⟨hm k (by simp), fun j hj => ?_⟩
  exact (List.pairwise_append.1 hp).2.2 j hj k (by simp)

theorem mem_keys (p1 p2 p3 p4 : Bool) : (1 ∈ keysOf p1 p2 p3 p4 ↔ p1 = true) ∧ (2 ∈ keysOf p1 p2 p3 p4 ↔ p2 = true) ∧ (3 ∈ keysOf p1 p2 p3 p4 ↔ p3 = true) ∧ (4 ∈ keysOf p1 p2 p3 p4 ↔ p4 = true) := by
  cases p1 <;> cases p2 <;> cases p3 <;> cases p4 <;> decide

theorem key_head (k : Nat) (h : k < 24) : head 0 (k : Int) = [(k : Int)] := by
  rw [head_is_small 0 k (by omega), or_major 0 k isMajor0 (by omega) (by omega)]; simp

/-- One field's part of the buffer. -/
def part1 (p : Bool) (l : List Int) : List Int := if p then l else []

theorem items_keys (T I K : Int) (D : List Int) (p1 p2 p3 p4 : Bool) :
    items T I K D (keysOf p1 p2 p3 p4) = part1 p1 (1 :: head 0 T) ++ (part1 p2 (2 :: head 0 I) ++ (part1 p3 (3 :: head 0 K) ++ part1 p4 (4 :: (head 64 (D.length : Int) ++ D)))) := by
  have h1 := key_head 1 (by decide)
  have h2 := key_head 2 (by decide)
  have h3 := key_head 3 (by decide)
  have h4 := key_head 4 (by decide)
  have e1 : item T I K D 1 = 1 :: head 0 T := by unfold item; rw [h1]; simp [payload]
  have e2 : item T I K D 2 = 2 :: head 0 I := by unfold item; rw [h2]; simp [payload]
  have e3 : item T I K D 3 = 3 :: head 0 K := by unfold item; rw [h3]; simp [payload]
  have e4 : item T I K D 4 = 4 :: (head 64 (D.length : Int) ++ D) := by unfold item; rw [h4]; simp [payload]
  cases p1 <;> cases p2 <;> cases p3 <;> cases p4 <;> simp [keysOf, items, part1, e1, e2, e3, e4]

/-- What has been built so far: a row of the call's own from block B0 on. -/
structure Bld (B0 : Nat) (w4 : World) (g n cap : Nat) (zs : List Int) (w : World) : Prop where
  own : Own B0 w (.slice (some ⟨g, 0, none⟩) n cap) zs
  len : zs.length = n
  bel : Below B0 w4 w
  le : B0 ≤ w4.heap.size

theorem Bld.size {B0 : Nat} {w4 : World} {g n cap : Nat} {zs : List Int} {w : World} (h : Bld B0 w4 g n cap zs w) : B0 ≤ w.heap.size := Nat.le_trans h.le h.bel.size
theorem Bld.row {B0 : Nat} {w4 : World} {g n cap : Nat} {zs : List Int} {w : World} (h : Bld B0 w4 g n cap zs w) : w.ownsRow B0 5 1 (.slice (some ⟨g, 0, none⟩) n cap) n (toB zs) := by
  have := h.own; unfold Own at this; rwa [h.len] at this

/-- Behind one byte appended. -/
theorem Bld.snoc {B0 : Nat} {w4 : World} {g n cap : Nat} {zs : List Int} {w : World} (h : Bld B0 w4 g n cap zs w) {o : Obj} {g2 cap2 : Nat} {x : Int} {w1 : World} (hown : w1.ownsRow B0 5 1 (.slice (some ⟨g2, 0, none⟩) (n + 1) cap2) (n + 1) (toB zs ++ [.int .u8 x]))
    (hg : (w.alloc o).grownBy w1 (some g)) : Bld B0 w4 g2 (n + 1) cap2 (zs ++ [x]) w1 := by
  have hl := World.ownsRow.lt h.row g rfl
  refine ⟨own_snoc hown h.len, by simp [h.len], (h.bel.alloc h.size _).grown hg (by have := h.size; simp; omega) (fun j e => by cases e; exact hl.1), h.le⟩

/-- Behind a head written. -/
theorem Bld.head {B0 : Nat} {w4 : World} {g n cap : Nat} {zs : List Int} {w : World} (h : Bld B0 w4 g n cap zs w) {g2 m cap2 : Nat} {l : List Int} {w1 : World} (ho : Own B0 w1 (.slice (some ⟨g2, 0, none⟩) (n + m) cap2) (zs ++ l)) (hm : l.length = m) (hb : Below B0 w w1) :
    Bld B0 w4 g2 (n + m) cap2 (zs ++ l) w1 := ⟨ho, by simp [h.len, hm], h.bel.trans hb, h.le⟩
end Go.Proofs.Qxb6616937a
