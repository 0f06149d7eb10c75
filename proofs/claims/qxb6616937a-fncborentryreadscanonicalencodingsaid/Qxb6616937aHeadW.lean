/-
  zzCborPutHead: the head of a CBOR item, written.
-/
import Derived.Test.Qxb6616937aBytes
namespace Go.Proofs.Qxb6616937a
open Go.RowKit

/-- The j lowest bytes of v, the highest first. -/
def be (v : Int) : Nat → List Int
  | 0 => []
  | j + 1 => (v / 256 ^ j) % 256 :: be v j

theorem be_length (v : Int) (j : Nat) : (be v j).length = j := by induction j with
  | zero => rfl
  | succ j ih => simp [be, ih]

theorem two_pow (m : Nat) : (2 : Int) ^ (8 * m) = 256 ^ m := by
  rw [Int.pow_mul]; rfl

theorem be_step (v : Int) (m : Nat) (zs ys : List Int) (h : zs ++ be v (m + 1) = ys) : (zs ++ [v / 2 ^ (8 * m) % 256]) ++ be v m = ys := by
  rw [← h, two_pow]; simp [be]

set_option maxRecDepth 4000 in
set_option maxHeartbeats 400000 in
theorem putHead_small (B : Nat) (g n cap : Nat) (xs : List Int) (major v : Int) (w : World) (hB : B ≤ w.heap.size) (ho : Own B w (.slice (some ⟨g, 0, none⟩) n cap) xs) (hn : xs.length = n) (hsum : n ≤ 4194304) (h0 : 0 ≤ v) (h1 : v < 24) :
    Calls Try.prog 11 #[.slice (some ⟨g, 0, none⟩) n cap, .int .u8 major, .int .u64 v] w fun e w' => ∃ g' cap', e = .returned (.slice (some ⟨g', 0, none⟩) (n + 1) cap') ∧ Own B w' (.slice (some ⟨g', 0, none⟩) (n + 1) cap') (xs ++ [bits BinOp.or IntKind.u8 major v]) ∧ Below B w w' := by
  obtain ⟨i0, hi, hz0, hz1, hz2⟩ := info_parts info5
  have HN : Hid (xs.length = n) := hn
  have hown' : w.ownsRow B 5 1 (.slice (some ⟨g, 0, none⟩) n cap) n (toB xs) := by have := ho; unfold Own at this; rwa [hn] at this
  clear hn ho
  have h2 : decide (v < 24) = true := decide_eq_true h1
  go_enter Try.func11, Try.ntmps11
  go_wp2_with (at_builtin; refine wpList_append_lies _ rfl _ _ 23 rfl B 5 i0 (.int .u8 0) 1 1 Try.underlying23 hi hz0 hz1 hz2 rfl (by decide) _ n (toB xs) rfl (hown'.alloc _) ⟨w.heap.size, 0, none⟩ 1 1 [_] rfl rfl (cell_one_new _ _ _) (by intro u hu; simp at hu; subst hu; rfl) (by omega) (by unfold maxLen; omega) (by omega) (by simp; omega) (w.heap.size + 1) (by simp) ?_; intro g2 cap2 w1 hown2 hgrow hat hlt2)
  have O2 := own_snoc hown2 HN.out
  have hlt' := World.ownsRow.lt hown' g rfl
  have B2 : Below B w w1 := ((Below.refl B w).alloc (by omega) _).grown hgrow (by simp; omega) (fun j e => by cases e; exact hlt'.1)
  clear hown2 hgrow hat hlt2 hown' hlt'
  go_wp2
  go_ret
  exact ⟨g2, cap2, rfl, O2, B2⟩

set_option maxRecDepth 4000 in
set_option maxHeartbeats 1600000 in
theorem putHead_wide' (B : Nat) (g n cap : Nat) (xs : List Int) (major v : Int) (wd tot : Nat) (info : Int) (tgt : List Int) (w : World) (hB : B ≤ w.heap.size) (ho : Own B w (.slice (some ⟨g, 0, none⟩) n cap) xs) (hn : xs.length = n) (hsum : n ≤ 4194304)
    (HT : Hid (xs ++ (bits BinOp.or IntKind.u8 major info :: be v wd) = tgt)) (HTot : Hid (n + 1 + wd = tot)) (hw : (wd = 1 ∧ info = 24 ∧ 24 ≤ v ∧ v ≤ 255) ∨ (wd = 2 ∧ info = 25 ∧ 256 ≤ v ∧ v ≤ 65535) ∨ (wd = 4 ∧ info = 26 ∧ 65536 ≤ v ∧ v ≤ 4294967295) ∨ (wd = 8 ∧ info = 27 ∧ 4294967296 ≤ v ∧ v < 18446744073709551616)) :
    Calls Try.prog 11 #[.slice (some ⟨g, 0, none⟩) n cap, .int .u8 major, .int .u64 v] w fun e w' => ∃ g' cap', e = .returned (.slice (some ⟨g', 0, none⟩) tot cap') ∧ Own B w' (.slice (some ⟨g', 0, none⟩) tot cap') tgt ∧ Below B w w' := by
  obtain ⟨i0, hi, hz0, hz1, hz2⟩ := info_parts info5
  have HN : Hid (xs.length = n) := hn
  have hown' : w.ownsRow B 5 1 (.slice (some ⟨g, 0, none⟩) n cap) n (toB xs) := by have := ho; unfold Own at this; rwa [hn] at this
  clear hn ho
  have h1 : decide (v < 24) = false := decide_eq_false (by omega)
  have hv0 : 0 ≤ v := by omega
  have hv1 : v < 18446744073709551616 := by omega
  rcases hw with ⟨rfl, rfl, h2, h3⟩ | ⟨rfl, rfl, h2, h3⟩ | ⟨rfl, rfl, h2, h3⟩ | ⟨rfl, rfl, h2, h3⟩
  case' inl => have t1 : decide (v ≤ 255) = true := decide_eq_true (by omega)
  case' inl => have t2 : True := trivial
  case' inl => have t3 : True := trivial
  case' inr.inl =>
    have t1 : decide (v ≤ 255) = false := decide_eq_false (by omega)
    have t2 : decide (v ≤ 65535) = true := decide_eq_true (by omega)
    have t3 : True := trivial
  case' inr.inr.inl =>
    have t1 : decide (v ≤ 255) = false := decide_eq_false (by omega)
    have t2 : decide (v ≤ 65535) = false := decide_eq_false (by omega)
    have t3 : decide (v ≤ 4294967295) = true := decide_eq_true (by omega)
  case' inr.inr.inr =>
    have t1 : decide (v ≤ 255) = false := decide_eq_false (by omega)
    have t2 : decide (v ≤ 65535) = false := decide_eq_false (by omega)
    have t3 : decide (v ≤ 4294967295) = false := decide_eq_false (by omega)
  all_goals
    clear h2 h3
    go_enter Try.func11, Try.ntmps11
    go_wp2_with (at_builtin; refine wpList_append_lies _ rfl _ _ 23 rfl B 5 i0 (.int .u8 0) 1 1 Try.underlying23 hi hz0 hz1 hz2 rfl (by decide) _ n (toB xs) rfl (hown'.alloc _) ⟨w.heap.size, 0, none⟩ 1 1 [_] rfl rfl (cell_one_new _ _ _) (by intro u hu; simp at hu; subst hu; rfl) (by omega) (by unfold maxLen; omega) (by omega) (by simp; omega) (w.heap.size + 1) (by simp) ?_; intro g2 cap2 w1 hown2 hgrow hat hlt2)
    have O2 := own_snoc hown2 HN.out
    have hlt' := World.ownsRow.lt hown' g rfl
    have B2 : Below B w w1 := ((Below.refl B w).alloc (by omega) _).grown hgrow (by simp; omega) (fun j e => by cases e; exact hlt'.1)
    clear hown2 hgrow hat hlt2 hown' hlt'
    go_loopw [0, 9] (fun d i wr => ∃ (j g' cap' m : Nat) (zs : List Int), j ≤ 8 ∧ zs.length = m ∧ m + j = tot ∧ zs ++ be v j = tgt ∧ d = .slice (some ⟨g', 0, none⟩) m cap' ∧ i = .int .i64 ((j : Int) - 1) ∧ m ≤ 5242880 ∧ Own B wr (.slice (some ⟨g', 0, none⟩) m cap') zs ∧ Below B w wr) (fun _ i _ => (intOf i + 1).toNat)
    case atStart => exact ⟨_, g2, cap2, n + 1, _, (by first | exact (by decide : 1 ≤ 8) | exact (by decide : 2 ≤ 8) | exact (by decide : 4 ≤ 8) | exact (by decide : 8 ≤ 8)), by simp [HN.out], HTot.out, by rw [← HT.out]; simp, rfl, rfl, by omega, O2, B2⟩
    case round =>
      clear O2 B2
      obtain ⟨j, g', cap', m, zs, hj, hl, htot, hz, rfl, rfl, hm, hown, hb⟩ := hrel
      have hown' : wr.ownsRow B 5 1 (.slice (some ⟨g', 0, none⟩) m cap') m (toB zs) := by have := hown; unfold Own at this; rwa [hl] at this
      have HL := hide hl
      have HZ := hide hz
      have HTt := hide htot
      have hsz := hb.size
      clear hl hz htot hown
      by_cases hlt : 0 < j
      · obtain ⟨q, rfl⟩ : ∃ q, j = q + 1 := ⟨j - 1, by omega⟩
        have HM : Hid (m + 1 ≤ 5242880) := by have h1 := HTot.out; have h2 := HTt.out; show m + 1 ≤ 5242880; omega
        go_wp2_with (at_builtin; refine wpList_append_lies _ rfl _ _ 23 rfl B 5 i0 (.int .u8 0) 1 1 Try.underlying23 hi hz0 hz1 hz2 rfl (by decide) _ m (toB zs) rfl (hown'.alloc _) ⟨wr.heap.size, 0, none⟩ 1 1 [_] rfl rfl (cell_one_new _ _ _) (by intro u hu; simp at hu; subst hu; rfl) (by omega) (by unfold maxLen; omega) (by omega) (by simp; omega) (wr.heap.size + 1) (by simp) ?_; intro g3 cap3 w3 hown3 hgrow3 hat3 hlt3)
        have O3 := own_snoc hown3 HL.out
        have hlt' := World.ownsRow.lt hown' g' rfl
        have B3 : Below B w w3 := (hb.alloc (by omega) _).grown hgrow3 (by simp; omega) (fun j e => by cases e; exact hlt'.1)
        have HZ3 := hide (be_step v q zs tgt HZ.out)
        clear hown3 hgrow3 hat3 hlt3 hown' hlt' hb
        go_wp2
        go_roundw
        case rel => exact ⟨q, g3, cap3, m + 1, zs ++ [v / 2 ^ (8 * q) % 256], by omega, by simp [HL.out], by have := HTt.out; omega, HZ3.out, rfl, by go_num, HM.out, O3, B3⟩
        case measure => simp [intOf]
      · obtain rfl : j = 0 := by omega
        go_wp2
        go_ret
        have e1 : m = tot := by have := HTt.out; omega
        have e2 : zs = tgt := by have := HZ.out; simpa [be] using this
        subst e1; subst e2
        exact ⟨_, _, rfl, by unfold Own; rw [HL.out]; exact hown', hb⟩

/-- The head of an item, as zzCborPutHead writes it. -/
def head (major v : Int) : List Int :=
  if v < 24 then [bits BinOp.or IntKind.u8 major v]
  else if v ≤ 255 then bits BinOp.or IntKind.u8 major 24 :: be v 1
  else if v ≤ 65535 then bits BinOp.or IntKind.u8 major 25 :: be v 2
  else if v ≤ 4294967295 then bits BinOp.or IntKind.u8 major 26 :: be v 4
  else bits BinOp.or IntKind.u8 major 27 :: be v 8

theorem head_le (major v : Int) : (head major v).length ≤ 9 := by
  unfold head
  repeat' split
  all_goals simp [be_length]

theorem putHead_any (B : Nat) (g n cap : Nat) (xs : List Int) (major v : Int) (w : World) (hB : B ≤ w.heap.size) (ho : Own B w (.slice (some ⟨g, 0, none⟩) n cap) xs) (hn : xs.length = n) (hsum : n ≤ 4194304) (h0 : 0 ≤ v) (h1 : v < 18446744073709551616) :
    Calls Try.prog 11 #[.slice (some ⟨g, 0, none⟩) n cap, .int .u8 major, .int .u64 v] w fun e w' => ∃ g' cap', e = .returned (.slice (some ⟨g', 0, none⟩) (n + (head major v).length) cap') ∧ Own B w' (.slice (some ⟨g', 0, none⟩) (n + (head major v).length) cap') (xs ++ head major v) ∧ Below B w w' := by
  by_cases a1 : v < 24
  · have e : head major v = [bits BinOp.or IntKind.u8 major v] := if_pos a1
    rw [e]
    exact putHead_small B g n cap xs major v w hB ho hn hsum h0 a1
  by_cases a2 : v ≤ 255
  · have e : head major v = bits BinOp.or IntKind.u8 major 24 :: be v 1 := by unfold head; rw [if_neg a1, if_pos a2]
    rw [e]
    exact putHead_wide' B g n cap xs major v 1 _ 24 _ w hB ho hn hsum rfl (by show _ = _; simp [be_length]) (.inl ⟨rfl, rfl, by omega, by omega⟩)
  by_cases a3 : v ≤ 65535
  · have e : head major v = bits BinOp.or IntKind.u8 major 25 :: be v 2 := by unfold head; rw [if_neg a1, if_neg a2, if_pos a3]
    rw [e]
    exact putHead_wide' B g n cap xs major v 2 _ 25 _ w hB ho hn hsum rfl (by show _ = _; simp [be_length]) (.inr (.inl ⟨rfl, rfl, by omega, by omega⟩))
  by_cases a4 : v ≤ 4294967295
  · have e : head major v = bits BinOp.or IntKind.u8 major 26 :: be v 4 := by unfold head; rw [if_neg a1, if_neg a2, if_neg a3, if_pos a4]
    rw [e]
    exact putHead_wide' B g n cap xs major v 4 _ 26 _ w hB ho hn hsum rfl (by show _ = _; simp [be_length]) (.inr (.inr (.inl ⟨rfl, rfl, by omega, by omega⟩)))
  · have e : head major v = bits BinOp.or IntKind.u8 major 27 :: be v 8 := by unfold head; rw [if_neg a1, if_neg a2, if_neg a3, if_neg a4]
    rw [e]
    exact putHead_wide' B g n cap xs major v 8 _ 27 _ w hB ho hn hsum rfl (by show _ = _; simp [be_length]) (.inr (.inr (.inr ⟨rfl, rfl, by omega, by omega⟩)))
end Go.Proofs.Qxb6616937a
