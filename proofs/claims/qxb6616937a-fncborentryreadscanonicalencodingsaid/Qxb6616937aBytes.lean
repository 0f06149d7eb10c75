/-
  SLICES OF BYTES: what the walks of the Cbor law say of them; the contracts of zzCloneBytes, zzCloneNonNil, zzAppendBytes, zzSameBytes.
  'Rd w a len bs': the slice at address a, of len elements, reads as the numbers bs. 'Own B w v bs': v is a slice of the call's own, at the head of a block from B on, and holds bs.
-/
import Derived.Test.Qxb6616937aProg
import Derived.WalkKit
import Derived.WalkSpells
import Derived.WalkLawsBesides
import Derived.Deep.AppendLies
import Derived.Deep.QuietTactic
import Derived.BigQuiet
namespace Go.Proofs.Qxb6616937a
open Go.RowKit

theorem hide {p : Prop} (h : p) : Hid p := h

def toB (bs : List Int) : List Value := bs.map (Value.int .u8)

theorem toB_get (bs : List Int) (k : Nat) (h : k < bs.length) : (toB bs)[k]? = some (.int .u8 (bs[k]?.getD 0)) := by
  simp [toB, h]
theorem toB_length (bs : List Int) : (toB bs).length = bs.length := by simp [toB]
theorem toB_append (a b : List Int) : toB (a ++ b) = toB a ++ toB b := by simp [toB]

structure Rd (w : World) (a : Option Addr) (len : Nat) (bs : List Int) : Prop where
  lenEq : bs.length = len
  nilLen : a = none → len = 0
  cell : ∀ k, k < len → ∃ b off, a = some ⟨b, off, none⟩ ∧ w.cell? ⟨b, off + k, none⟩ = some (.int .u8 (bs[k]?.getD 0))
  byte : ∀ x, x ∈ bs → 0 ≤ x ∧ x < 256

/-- The slice lies below block number B. -/
def Under (B : Nat) (a : Option Addr) : Prop := ∀ x, a = some x → x.block < B

theorem Rd.below {w w' : World} {a : Option Addr} {len : Nat} {bs : List Int} (h : Rd w a len bs) {B : Nat} (hb : Below B w w') (hu : Under B a) : Rd w' a len bs :=
  ⟨h.lenEq, h.nilLen, fun k hk => by
    obtain ⟨b, off, rfl, hc⟩ := h.cell k hk
    exact ⟨b, off, rfl, (hb.cell (p := ⟨b, off + k, none⟩) (hu ⟨b, off, none⟩ rfl)).trans hc⟩, h.byte⟩

/-- What keeps every old block keeps a slice that reads. -/
theorem Rd.later {w w' : World} {a : Option Addr} {len : Nat} {bs : List Int} (h : Rd w a len bs) (hb : Below w.heap.size w w') : Rd w' a len bs :=
  ⟨h.lenEq, h.nilLen, fun k hk => by
    obtain ⟨b, off, rfl, hc⟩ := h.cell k hk
    exact ⟨b, off, rfl, (hb.cell (p := ⟨b, off + k, none⟩) (block_lt_of_cell hc)).trans hc⟩, h.byte⟩

/-- A slice of the call's own. -/
def Own (B : Nat) (w : World) (v : Value) (bs : List Int) : Prop := w.ownsRow B 5 1 v bs.length (toB bs)

theorem Own.rd {B : Nat} {w : World} {g n cap : Nat} {bs : List Int} (h : Own B w (.slice (some ⟨g, 0, none⟩) n cap) bs) (hn : bs.length = n) (hby : ∀ x, x ∈ bs → 0 ≤ x ∧ x < 256) : Rd w (some ⟨g, 0, none⟩) n bs := by
  subst hn
  refine ⟨rfl, (fun e => by cases e), fun k hk => ⟨g, 0, rfl, ?_⟩, hby⟩
  have := World.ownsRow.cellAt h k (by omega)
  rw [toB_get bs k hk] at this
  simpa using this

/-- Ahead of a copy's k-th round. -/
def part (bs : List Int) (k : Nat) : List Int := bs.take k ++ List.replicate (bs.length - k) 0

theorem part_zero (bs : List Int) : part bs 0 = List.replicate bs.length 0 := by simp [part]
theorem part_full (bs : List Int) (k : Nat) (h : k = bs.length) : part bs k = bs := by subst h; simp [part]
theorem part_length (bs : List Int) (k : Nat) (h : k ≤ bs.length) : (part bs k).length = bs.length := by simp [part]; omega
theorem part_succ (bs : List Int) (k : Nat) (h : k < bs.length) : (toB (part bs k)).set k (.int .u8 (bs[k]?.getD 0)) = toB (part bs (k + 1)) := by
  unfold toB
  rw [← List.map_set]
  congr 1
  unfold part
  apply List.ext_getElem?
  intro j
  rw [List.getElem?_set]
  have hl : (List.take k bs ++ List.replicate (bs.length - k) 0).length = bs.length := by simp; omega
  by_cases hj : k = j
  · subst hj
    rw [if_pos rfl, hl, if_pos h, List.getElem?_append_left (by simp; omega), List.getElem?_take, if_pos (by omega)]
    simp [h]
  · rw [if_neg hj]
    by_cases hjk : j < k
    · rw [List.getElem?_append_left (by simp; omega), List.getElem?_append_left (by simp; omega), List.getElem?_take, List.getElem?_take, if_pos hjk, if_pos (by omega)]
    · rw [List.getElem?_append_right (by simp; omega), List.getElem?_append_right (by simp; omega), List.getElem?_replicate, List.getElem?_replicate]
      simp only [List.length_take]
      by_cases hjn : j < bs.length
      · rw [if_pos (by omega), if_pos (by omega)]
      · rw [if_neg (by omega), if_neg (by omega)]

theorem info5 : (Try.prog.info? 5).map (fun i => (i.zero, i.size, i.bytes)) = some (some (.int .u8 0), 1, 1) := by kernel_rfl

theorem made_part (bs : List Int) : (madeCells (Value.int .u8 0).cells (bs.length * 1)).toList = toB (part bs 0) := by
  rw [part_zero, Nat.mul_one]
  show (madeCells #[Value.int .u8 0] bs.length).toList = _
  rw [toList_madeCells_one]
  simp [toB]

/-- The loop that copies, at the world ahead of it: the parts that both clones share. -/
theorem copy_step {B : Nat} {w wr : World} {g len : Nat} {bs : List Int} {k : Nat} (hlen : bs.length = len) (hk : k < len) (hB : B ≤ g) (h : wr.ownsRow B 5 1 (.slice (some ⟨g, 0, none⟩) len len) len (toB (part bs k))) (hb : Below B w wr) :
    (wr.setCell ⟨g, k, none⟩ (.int .u8 (bs[k]?.getD 0))).ownsRow B 5 1 (.slice (some ⟨g, 0, none⟩) len len) len (toB (part bs (k + 1))) ∧ Below B w (wr.setCell ⟨g, k, none⟩ (.int .u8 (bs[k]?.getD 0))) := by
  refine ⟨?_, hb.setCell hB _⟩
  have := (World.ownsRow.stored h k (.int .u8 (bs[k]?.getD 0))).1
  rwa [part_succ bs k (by omega)] at this
theorem copy_cell {B : Nat} {wr : World} {g len : Nat} {bs : List Int} {k : Nat} (hlen : bs.length = len) (hk : k < len) (h : wr.ownsRow B 5 1 (.slice (some ⟨g, 0, none⟩) len len) len (toB (part bs k))) :
    ∃ z, wr.cell? ⟨g, k, none⟩ = some (.int .u8 z) := by
  have := World.ownsRow.cellAt h k (by omega)
  rw [toB_get _ k (by rw [part_length bs k (by omega)]; omega)] at this
  exact ⟨_, this⟩

set_option maxHeartbeats 400000 in
theorem cloneNonNil_any (a : Option Addr) (len cap : Nat) (bs : List Int) (w : World) (h : Rd w a len bs) (hl : len ≤ 1048576) :
    Calls Try.prog 15 #[.slice a len cap] w fun e w' => ∃ g, e = .returned (.slice (some ⟨g, 0, none⟩) len len) ∧ Own w.heap.size w' (.slice (some ⟨g, 0, none⟩) len len) bs ∧ Below w.heap.size w w' := by
  obtain ⟨i0, hi, hz0, hz1, hz2⟩ := info_parts info5
  have HLen : Hid (bs.length = len) := h.lenEq
  go_enter Try.func15, Try.ntmps15
  go_wp2_with (at_make; refine wpList_make_full _ rfl _ _ 23 rfl w.heap.size 5 i0 (.int .u8 0) 1 Try.underlying23 hi hz0 hz1 .i64 .i64 _ _ len rfl rfl rfl rfl (by rw [hz2]; omega) (by unfold maxLen; omega) (Nat.le_refl _) ?_; intro w1 hown1 hgrow1)
  have H1 : w1.ownsRow w.heap.size 5 1 (.slice (some ⟨w.heap.size, 0, none⟩) len len) len (toB (part bs 0)) := by
    rw [← made_part, HLen.out]; exact hown1
  have B1 : Below w.heap.size w w1 := (Below.refl _ _).grown hgrow1 (Nat.le_refl _) (fun k e => by cases e)
  clear hown1 hgrow1 hi hz0 hz1 hz2
  go_loopw [4] (fun i wr => ∃ k : Nat, k ≤ len ∧ i = .int .i64 k ∧ wr.ownsRow w.heap.size 5 1 (.slice (some ⟨w.heap.size, 0, none⟩) len len) len (toB (part bs k)) ∧ Below w.heap.size w wr) (fun i _ => len - (intOf i).toNat)
  case atStart => exact ⟨0, Nat.zero_le _, rfl, H1, B1⟩
  case round =>
    clear H1 B1
    obtain ⟨k, hk, rfl, hown, hB⟩ := hrel
    by_cases hlt : k < len
    · obtain ⟨b, off, rfl, hc⟩ := (h.later hB).cell k hlt
      obtain ⟨z, hz⟩ := copy_cell HLen.out hlt hown
      have hf := World.ownsRow.frozenAt hown k
      have R := copy_step HLen.out hlt (Nat.le_refl _) hown hB
      have HR := hide R
      clear R hown hB h
      generalize bs[k]?.getD 0 = x at hc HR
      go_wp2
      go_roundw
      case rel => exact ⟨k + 1, by omega, by go_num, (HR.out).1, (HR.out).2⟩
      case measure => simp [intOf]; omega
    · go_wp2
      go_ret
      refine ⟨_, rfl, ?_, hB⟩
      have e := part_full bs k (by have := HLen.out; omega)
      rw [e] at hown
      unfold Own
      rw [HLen.out]
      exact hown

/-- The slice lies at or beyond block number B. -/
def Over (B : Nat) (a : Option Addr) : Prop := ∀ x, a = some x → B ≤ x.block

/-- zzCloneBytes: nil for nil; else a new row with the same bytes. -/
theorem cloneBytes_nil (w : World) : Calls Try.prog 9 #[.slice none 0 0] w fun e w' => e = .returned (.slice none 0 0) ∧ w = w' := by
  have hn := fun w => Lib.run_eql_slice_nil (P := Try.prog) w 23 5 none 0 0 0 0 Try.underlying23
  go_enter Try.func9, Try.ntmps9
  go_wp2
  go_ret
  exact ⟨rfl, rfl⟩

set_option maxHeartbeats 400000 in
theorem cloneBytes_some (x : Addr) (len cap : Nat) (bs : List Int) (w : World) (h : Rd w (some x) len bs) (hl : len ≤ 1048576) :
    Calls Try.prog 9 #[.slice (some x) len cap] w fun e w' => ∃ g, e = .returned (.slice (some ⟨g, 0, none⟩) len len) ∧ Own w.heap.size w' (.slice (some ⟨g, 0, none⟩) len len) bs ∧ Below w.heap.size w w' := by
  obtain ⟨i0, hi, hz0, hz1, hz2⟩ := info_parts info5
  have HLen : Hid (bs.length = len) := h.lenEq
  have hn := fun w => Lib.run_eql_slice_nil (P := Try.prog) w 23 5 (some x) len cap 0 0 Try.underlying23
  go_enter Try.func9, Try.ntmps9
  go_wp2_with (at_make; refine wpList_make_full _ rfl _ _ 23 rfl w.heap.size 5 i0 (.int .u8 0) 1 Try.underlying23 hi hz0 hz1 .i64 .i64 _ _ len rfl rfl rfl rfl (by rw [hz2]; omega) (by unfold maxLen; omega) (Nat.le_refl _) ?_; intro w1 hown1 hgrow1)
  have H1 : w1.ownsRow w.heap.size 5 1 (.slice (some ⟨w.heap.size, 0, none⟩) len len) len (toB (part bs 0)) := by
    rw [← made_part, HLen.out]; exact hown1
  have B1 : Below w.heap.size w w1 := (Below.refl _ _).grown hgrow1 (Nat.le_refl _) (fun k e => by cases e)
  clear hown1 hgrow1 hi hz0 hz1 hz2 hn
  go_loopw [4] (fun i wr => ∃ k : Nat, k ≤ len ∧ i = .int .i64 k ∧ wr.ownsRow w.heap.size 5 1 (.slice (some ⟨w.heap.size, 0, none⟩) len len) len (toB (part bs k)) ∧ Below w.heap.size w wr) (fun i _ => len - (intOf i).toNat)
  case atStart => exact ⟨0, Nat.zero_le _, rfl, H1, B1⟩
  case round =>
    clear H1 B1
    obtain ⟨k, hk, rfl, hown, hB⟩ := hrel
    by_cases hlt : k < len
    · obtain ⟨b, off, hx, hc⟩ := (h.later hB).cell k hlt
      obtain rfl : x = ⟨b, off, none⟩ := by simpa using hx
      obtain ⟨z, hz⟩ := copy_cell HLen.out hlt hown
      have hf := World.ownsRow.frozenAt hown k
      have R := copy_step HLen.out hlt (Nat.le_refl _) hown hB
      have HR := hide R
      clear R hown hB h hx
      generalize bs[k]?.getD 0 = x at hc HR
      go_wp2
      go_roundw
      case rel => exact ⟨k + 1, by omega, by go_num, (HR.out).1, (HR.out).2⟩
      case measure => simp [intOf]; omega
    · go_wp2
      go_ret
      refine ⟨_, rfl, ?_, hB⟩
      have e := part_full bs k (by have := HLen.out; omega)
      rw [e] at hown
      unfold Own
      rw [HLen.out]
      exact hown

/-- zzCloneBytes in one word. -/
theorem cloneBytes_any (a : Option Addr) (len cap : Nat) (bs : List Int) (w : World) (h : Rd w a len bs) (hcap : a = none → cap = 0) (hl : len ≤ 1048576) :
    Calls Try.prog 9 #[.slice a len cap] w fun e w' => ∃ a', e = .returned (.slice a' len len) ∧ Rd w' a' len bs ∧ Under w'.heap.size a' ∧ Over w.heap.size a' ∧ (a' = none ↔ a = none) ∧ Below w.heap.size w w' := by
  cases a with
  | none =>
    obtain rfl := h.nilLen rfl
    obtain rfl := hcap rfl
    refine (cloneBytes_nil w).mono ?_
    rintro e w' ⟨rfl, rfl⟩
    exact ⟨none, rfl, h, (fun x e => by cases e), (fun x e => by cases e), by simp, Below.refl _ _⟩
  | some x =>
    refine (cloneBytes_some x len cap bs w h hl).mono ?_
    rintro e w' ⟨g, rfl, ho, hb⟩
    refine ⟨_, rfl, ho.rd h.lenEq h.byte, ?_, ?_, by simp, hb⟩
    · rintro y ⟨rfl⟩; exact (World.ownsRow.lt ho g rfl).2
    · rintro y ⟨rfl⟩; exact (World.ownsRow.lt ho g rfl).1

theorem cloneNonNil_rd (a : Option Addr) (len cap : Nat) (bs : List Int) (w : World) (h : Rd w a len bs) (hl : len ≤ 1048576) :
    Calls Try.prog 15 #[.slice a len cap] w fun e w' => ∃ g, e = .returned (.slice (some ⟨g, 0, none⟩) len len) ∧ Rd w' (some ⟨g, 0, none⟩) len bs ∧ g < w'.heap.size ∧ w.heap.size ≤ g ∧ Below w.heap.size w w' := by
  refine (cloneNonNil_any a len cap bs w h hl).mono ?_
  rintro e w' ⟨g, rfl, ho, hb⟩
  exact ⟨g, rfl, ho.rd h.lenEq h.byte, (World.ownsRow.lt ho g rfl).2, (World.ownsRow.lt ho g rfl).1, hb⟩

/-- One byte more behind an append. -/
theorem own_snoc {B : Nat} {w : World} {v : Value} {m : Nat} {zs : List Int} {x : Int} (h : w.ownsRow B 5 1 v (m + 1) (toB zs ++ [.int .u8 x])) (hm : zs.length = m) : Own B w v (zs ++ [x]) := by
  subst hm
  unfold Own
  rw [toB_append, List.length_append]
  exact h

theorem take_snoc (ys : List Int) (k : Nat) (h : k < ys.length) : ys.take (k + 1) = ys.take k ++ [ys[k]?.getD 0] := by
  rw [List.take_succ_eq_append_getElem h]; simp [h]

set_option maxHeartbeats 400000 in
/-- zzAppendBytes onto a row of the call's own. -/
theorem appendBytes_any (B : Nat) (g n cap : Nat) (xs : List Int) (a : Option Addr) (len c : Nat) (ys : List Int) (w : World) (hB : B ≤ w.heap.size) (ho : Own B w (.slice (some ⟨g, 0, none⟩) n cap) xs) (hn : xs.length = n) (hr : Rd w a len ys) (hu : Under B a) (hsum : n + len ≤ 4194304) :
    Calls Try.prog 10 #[.slice (some ⟨g, 0, none⟩) n cap, .slice a len c] w fun e w' => ∃ g' cap', e = .returned (.slice (some ⟨g', 0, none⟩) (n + len) cap') ∧ Own B w' (.slice (some ⟨g', 0, none⟩) (n + len) cap') (xs ++ ys) ∧ Below B w w' := by
  obtain ⟨i0, hi, hz0, hz1, hz2⟩ := info_parts info5
  have HN : Hid (xs.length = n) := hn
  have HLen : Hid (ys.length = len) := hr.lenEq
  clear hn
  go_enter Try.func10, Try.ntmps10
  go_wp2
  go_loopw [0, 5] (fun d i wr => ∃ (k g' cap' : Nat), k ≤ len ∧ d = .slice (some ⟨g', 0, none⟩) (n + k) cap' ∧ i = .int .i64 k ∧ Own B wr (.slice (some ⟨g', 0, none⟩) (n + k) cap') (xs ++ ys.take k) ∧ Below B w wr) (fun _ i _ => len - (intOf i).toNat)
  case atStart => exact ⟨0, g, cap, Nat.zero_le _, rfl, rfl, by simpa using ho, Below.refl _ _⟩
  case round =>
    clear ho
    obtain ⟨k, g', cap', hk, rfl, rfl, hown, hb⟩ := hrel
    by_cases hlt : k < len
    · obtain ⟨b, off, rfl, hc⟩ := (hr.below hb hu).cell k hlt
      have hts := take_snoc ys k (by rw [HLen.out]; exact hlt)
      have HT := hide hts
      have hown' : wr.ownsRow B 5 1 (.slice (some ⟨g', 0, none⟩) (n + k) cap') (n + k) (toB (xs ++ ys.take k)) := by
        have e : (xs ++ ys.take k).length = n + k := by have h1 := HN.out; have h2 := HLen.out; simp; omega
        have := hown; unfold Own at this; rwa [e] at this
      have e2 : Hid ((xs ++ ys.take k).length = n + k) := by have h1 := HN.out; have h2 := HLen.out; show (xs ++ ys.take k).length = n + k; simp; omega
      have hsz := hb.size
      clear hts hown hr
      generalize ys[k]?.getD 0 = x at hc HT
      go_wp2_with (at_builtin; refine wpList_append_lies _ rfl _ _ 23 rfl B 5 i0 (.int .u8 0) 1 1 Try.underlying23 hi hz0 hz1 hz2 rfl (by decide) _ (n + k) (toB (xs ++ ys.take k)) rfl (hown'.alloc _) ⟨wr.heap.size, 0, none⟩ 1 1 [.int .u8 x] rfl rfl ?c1 ?c2 (by omega) ?c3 ?c4 ?c5 (wr.heap.size + 1) (by simp) ?_)
      case c1 => exact cell_one_new _ _ _
      case c2 => intro u hu; simp at hu; subst hu; rfl
      case c3 => unfold maxLen; omega
      case c4 => omega
      case c5 => simp; omega
      intro g2 cap2 w1 hown2 hgrow hat hlt2
      have O2 := own_snoc hown2 e2.out
      have hlt' := World.ownsRow.lt hown' g' rfl
      have B2 : Below B w w1 := (hb.alloc (by omega) _).grown hgrow (by simp; omega) (fun j e => by cases e; exact hlt'.1)
      rw [List.append_assoc, ← HT.out] at O2
      clear hown2 hgrow hat hlt2 hown' hb
      go_wp2
      go_roundw
      case rel => exact ⟨k + 1, g2, cap2, by omega, rfl, by go_num, O2, B2⟩
      case measure => simp [intOf]; omega
    · obtain rfl : k = len := by omega
      go_wp2
      go_ret
      refine ⟨_, _, rfl, ?_, hb⟩
      have : ys.take k = ys := List.take_of_length_le (by rw [HLen.out]; omega)
      rwa [this] at hown

set_option maxHeartbeats 400000 in
/-- zzSameBytes of two slices that read alike and are both nil or both not. -/
theorem sameBytes_same (a b : Option Addr) (len ca cb : Nat) (bs : List Int) (w : World) (ha : Rd w a len bs) (hb : Rd w b len bs) (hn : a = none ↔ b = none) (hl : len ≤ 1048576) :
    Calls Try.prog 18 #[.slice a len ca, .slice b len cb] w fun e w' => e = .returned (.bool true) ∧ Below w.heap.size w w' := by
  have h1 := fun w => Lib.run_eql_slice_nil (P := Try.prog) w 23 5 a len ca 0 0 Try.underlying23
  have h2 := fun w => Lib.run_eql_slice_nil (P := Try.prog) w 23 5 b len cb 0 0 Try.underlying23
  have h3 : (a.isNone == b.isNone) = true := by cases a <;> cases b <;> simp_all
  have h4 : ((len : Int) != (len : Int)) = false := by simp
  go_enter Try.func18, Try.ntmps18
  go_wp2
  go_loopw [5] (fun i wr => ∃ k : Nat, k ≤ len ∧ i = .int .i64 k ∧ Below w.heap.size w wr) (fun i _ => len - (intOf i).toNat)
  case atStart => exact ⟨0, Nat.zero_le _, rfl, Below.refl _ _⟩
  case round =>
    obtain ⟨k, hk, rfl, hB⟩ := hrel
    clear h1 h2 h3 h4
    by_cases hlt : k < len
    · obtain ⟨b1, o1, rfl, c1⟩ := ha.cell k hlt
      obtain ⟨b2, o2, rfl, c2⟩ := hb.cell k hlt
      have d1 := (hB.cell (p := ⟨b1, o1 + k, none⟩) (block_lt_of_cell c1)).trans c1
      have d2 := (hB.cell (p := ⟨b2, o2 + k, none⟩) (block_lt_of_cell c2)).trans c2
      clear ha hb hn c1 c2
      generalize bs[k]?.getD 0 = x at d1 d2
      have h5 : (x != x) = false := by simp
      have h6 : (k : Int) < (len : Int) := by omega
      have h7 : (0 : Int) ≤ (k : Int) := by omega
      go_wp2
      go_quiet (fail)
      go_wp2
      go_roundw
      case rel => exact ⟨k + 1, by omega, by go_num, below_drewN hB _⟩
      case measure => simp [intOf]; omega
    · go_wp2
      go_ret
      exact ⟨rfl, hB⟩
end Go.Proofs.Qxb6616937a
