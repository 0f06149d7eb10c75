/-
  THE SCANNER: isSpace, space, skip, ZZScanSkip; the law's own zzIsSpace and its bound.
-/
import Derived.Test.Qxb6619281aBytes
import Derived.Deep.LoopGhost
namespace Go.Proofs.Qxb6619281a
open Go.RowKit

/-- White space. -/
def isSp (x : Int) : Bool := x == 32 || x == 9 || x == 10 || x == 13

theorem isSpace_yes (x : Int) (w : World) (h : isSp x = true) : Calls Try.prog 27 #[.int .u8 x] w fun e w' => e = .returned (.bool true) ∧ w' = w := by
  unfold isSp at h
  simp only [Bool.or_eq_true, beq_iff_eq] at h
  rcases h with ((h | h) | h) | h
  all_goals
    subst h
    go_enter Try.func27, Try.ntmps27
    go_wp2
    go_ret
    exact ⟨rfl, rfl⟩
theorem isSpace_no (x : Int) (w : World) (h : isSp x = false) : Calls Try.prog 27 #[.int .u8 x] w fun e w' => e = .returned (.bool false) ∧ w' = w := by
  unfold isSp at h
  simp only [Bool.or_eq_false_iff] at h
  obtain ⟨⟨⟨h1, h2⟩, h3⟩, h4⟩ := h
  go_enter Try.func27, Try.ntmps27
  go_wp2
  go_ret
  exact ⟨rfl, rfl⟩
theorem isSpace_any (x : Int) (w : World) : Calls Try.prog 27 #[.int .u8 x] w fun e w' => e = .returned (.bool (isSp x)) ∧ w' = w := by
  cases h : isSp x
  · exact isSpace_no x w h
  · exact isSpace_yes x w h
theorem zzIsSpace_yes (x : Int) (w : World) (h : isSp x = true) : Calls Try.prog 17 #[.int .u8 x] w fun e w' => e = .returned (.bool true) ∧ w = w' := by
  unfold isSp at h
  simp only [Bool.or_eq_true, beq_iff_eq] at h
  rcases h with ((h | h) | h) | h
  all_goals
    subst h
    go_enter Try.func17, Try.ntmps17
    go_wp2
    go_ret
    exact ⟨rfl, rfl⟩
theorem zzIsSpace_no (x : Int) (w : World) (h : isSp x = false) : Calls Try.prog 17 #[.int .u8 x] w fun e w' => e = .returned (.bool false) ∧ w = w' := by
  unfold isSp at h
  simp only [Bool.or_eq_false_iff] at h
  obtain ⟨⟨⟨h1, h2⟩, h3⟩, h4⟩ := h
  go_enter Try.func17, Try.ntmps17
  go_wp2
  go_ret
  exact ⟨rfl, rfl⟩

/-- The scan in memory. -/
structure IsScan (w : World) (b : Nat) (v : Value) (i : Nat) (ck : Bool) : Prop where
  data : w.cell? ⟨b, 0, none⟩ = some v
  pos : w.cell? ⟨b, 1, none⟩ = some (.int .i64 i)
  chk : w.cell? ⟨b, 2, none⟩ = some (.bool ck)
  fpos : w.frozen? ⟨b, 1, none⟩ = false

theorem IsScan.moved {w : World} {b : Nat} {v : Value} {i : Nat} {ck : Bool} (h : IsScan w b v i ck) (i' : Nat) (z : Int) (hz : z = i') : IsScan (w.setCell ⟨b, 1, none⟩ (.int .i64 z)) b v i' ck := by
  subst hz
  obtain ⟨h1, h2, h3, h4⟩ := h
  refine ⟨?_, ?_, ?_, ?_⟩
  · rw [World.cell?_setCell_other _ _ _ _ (by simp)]; exact h1
  · exact World.cell?_setCell_same' _ _ _ (by rw [h2]; rfl)
  · rw [World.cell?_setCell_other _ _ _ _ (by simp)]; exact h3
  · simp [h4]
theorem IsScan.of_heap {w w' : World} {b : Nat} {v : Value} {i : Nat} {ck : Bool} (h : IsScan w b v i ck) (e : w'.heap = w.heap) : IsScan w' b v i ck :=
  ⟨(World.cell?_of_block (by rw [e])).trans h.data, (World.cell?_of_block (by rw [e])).trans h.pos, (World.cell?_of_block (by rw [e])).trans h.chk, (World.frozen?_of_block (by rw [e])).trans h.fpos⟩

/-- How far white space runs. -/
def spRun (l : List Int) : Nat := (l.takeWhile isSp).length

theorem spRun_step (bs : List Int) (i : Nat) (h : i < bs.length) (hs : isSp (bs[i]?.getD 0) = true) : spRun (bs.drop i) = spRun (bs.drop (i + 1)) + 1 := by
  simp only [h, List.getElem?_eq_getElem, Option.getD_some] at hs
  unfold spRun
  rw [List.drop_eq_getElem_cons h, List.takeWhile_cons, if_pos hs]
  rfl
theorem spRun_stop (bs : List Int) (i : Nat) (h : bs.length ≤ i ∨ isSp (bs[i]?.getD 0) = false) : spRun (bs.drop i) = 0 := by
  rcases Nat.lt_or_ge i bs.length with hi | hi
  · rcases h with h | h
    · omega
    · simp only [hi, List.getElem?_eq_getElem, Option.getD_some] at h
      unfold spRun
      rw [List.drop_eq_getElem_cons hi, List.takeWhile_cons, if_neg (by rw [h]; decide)]
      rfl
  · rw [List.drop_eq_nil_of_le hi]; rfl

/-- The world but for the scan's block. -/
theorem grownBy_trans {a b c : World} {r : Option Nat} (h : a.grownBy b r) (k : b.grownBy c r) : a.grownBy c r :=
  ⟨k.os.trans h.os, k.tape.trans h.tape, k.output.trans h.output, Nat.le_trans h.size k.size, fun j hj hr => (k.block j (Nat.lt_of_lt_of_le hj h.size) hr).trans (h.block j hj hr)⟩
theorem grownBy_refl (w : World) (r : Option Nat) : w.grownBy w r := ⟨rfl, rfl, rfl, Nat.le_refl _, fun _ _ _ => rfl⟩
theorem grownBy_drewN {a b : World} {r : Option Nat} (h : a.grownBy b r) (n : Nat) : a.grownBy (b.drewN n) r := ⟨h.os, h.tape, h.output, h.size, h.block⟩
theorem grownBy_setCell {a b : World} {g : Nat} (h : a.grownBy b (some g)) (j : Nat) (v : Value) : a.grownBy (b.setCell ⟨g, j, none⟩ v) (some g) :=
  grownBy_trans h ⟨rfl, rfl, rfl, by simp, fun k _ hk => heap_setCell_other b ⟨g, j, none⟩ k v (fun e => hk (by simp [e]))⟩
theorem Rd.kept {w w' : World} {a : Option Addr} {len : Nat} {bs : List Int} {r : Option Nat} (h : Rd w a len bs) (hg : w.grownBy w' r) (hne : ∀ x, a = some x → some x.block ≠ r) : Rd w' a len bs :=
  ⟨h.lenEq, h.nilLen, fun k hk => by
    obtain ⟨b, off, rfl, hc⟩ := h.cell k hk
    exact ⟨b, off, rfl, hg.cell hc (hne ⟨b, off, none⟩ rfl)⟩, h.byte⟩

set_option maxHeartbeats 400000 in
theorem space_any (b : Nat) (a : Option Addr) (len cap i : Nat) (ck : Bool) (bs : List Int) (w : World) (h : IsScan w b (.slice a len cap) i ck) (hr : Rd w a len bs) (hfar : ∀ x, a = some x → x.block ≠ b) (hl : len ≤ 4294967296) (hi : i ≤ len) :
    Calls Try.prog 25 #[.pointer (some ⟨b, 0, none⟩)] w fun e w' => e = .returned (.tuple #[]) ∧ IsScan w' b (.slice a len cap) (i + spRun (bs.drop i)) ck ∧ w.grownBy w' (some b) := by
  go_enter Try.func25, Try.ntmps25
  go_wp2
  go_loopg [] (len - i) (fun gk wr => ∃ k : Nat, k ≤ len ∧ gk = len - k ∧ IsScan wr b (.slice a len cap) k ck ∧ k + spRun (bs.drop k) = i + spRun (bs.drop i) ∧ w.grownBy wr (some b))
  case atStart => exact ⟨i, hi, rfl, h, rfl, grownBy_refl _ _⟩
  case round =>
    obtain ⟨k, hk, hgk, hsc, hsp, hgr⟩ := hrel
    have HSc := hide hsc
    have HSp := hide hsp
    have HGr := hide hgr
    have HGk := hide hgk
    have HLen := hide hr.lenEq
    have HRd := hide (hr.kept hgr (fun x e => by simpa using hfar x e))
    obtain ⟨c0, c1, c2, c3⟩ := hsc
    clear hsp hgr hgk h hr
    have t2 : (0 : Int) ≤ (k : Int) := by omega
    by_cases hlt : k < len
    · have t1 : (k : Int) < (len : Int) := by omega
      have t3 : decide ((k : Int) < (len : Int)) = true := decide_eq_true t1
      obtain ⟨bb, off, rfl, hc⟩ := HRd.out.cell k hlt
      cases hx : isSp (bs[k]?.getD 0)
      · have HX := hide hx
        have HCall := fun w => hide (isSpace_no (bs[k]?.getD 0) w hx)
        clear hx
        generalize bs[k]?.getD 0 = x at hc HCall
        go_wp2
        go_quiet ((go_at_call 27; exact Calls.quiet_of_same (HCall _).out))
        go_wp2
        go_end0
        refine ⟨rfl, ?_, grownBy_drewN HGr.out _⟩
        have e0 := spRun_stop bs k (.inr HX.out)
        have e1 := HSp.out
        rw [e0] at e1
        rw [← e1]
        exact HSc.out.of_heap rfl
      · have HX := hide hx
        have HCall := fun w => hide (isSpace_yes (bs[k]?.getD 0) w hx)
        have HStep := hide (spRun_step bs k (by rw [HLen.out]; exact hlt) hx)
        clear hx
        generalize bs[k]?.getD 0 = x at hc HCall
        go_wp2
        go_quiet ((go_at_call 27; exact Calls.quiet_of_same (HCall _).out))
        go_wp2
        go_roundg (len - (k + 1))
        case measure => have := HGk.out; omega
        case rel => exact ⟨k + 1, by omega, rfl, (HSc.out.moved (k + 1) ((k : Int) + 1) (by omega)).of_heap rfl, by have h1 := HSp.out; have h2 := HStep.out; omega, grownBy_setCell (grownBy_drewN HGr.out _) 1 _⟩
    · have t3 : decide ((k : Int) < (len : Int)) = false := decide_eq_false (by omega)
      go_wp2
      go_quiet (fail)
      go_wp2
      go_end0
      refine ⟨rfl, ?_, grownBy_drewN HGr.out _⟩
      have e0 := spRun_stop bs k (.inl (by rw [HLen.out]; omega))
      have e1 := HSp.out
      rw [e0] at e1
      rw [← e1]
      exact HSc.out.of_heap rfl

/-- What skip does: where it ends, and its answer. -/
def skipTo (bs : List Int) (i : Nat) (c : Int) : Nat × Bool :=
  if i + spRun (bs.drop i) < bs.length ∧ bs[i + spRun (bs.drop i)]?.getD 0 = c then (i + spRun (bs.drop i) + 1, true) else (i + spRun (bs.drop i), false)

theorem spRun_le (bs : List Int) (i : Nat) (h : i ≤ bs.length) : i + spRun (bs.drop i) ≤ bs.length := by
  have := (List.takeWhile_prefix isSp (l := bs.drop i)).length_le
  simp only [List.length_drop] at this
  unfold spRun
  omega

set_option maxHeartbeats 400000 in
theorem skip_any (b : Nat) (a : Option Addr) (len cap i : Nat) (ck : Bool) (c : Int) (bs : List Int) (w : World) (h : IsScan w b (.slice a len cap) i ck) (hr : Rd w a len bs) (hfar : ∀ x, a = some x → x.block ≠ b) (hl : len ≤ 4294967296) (hi : i ≤ len) :
    Calls Try.prog 23 #[.pointer (some ⟨b, 0, none⟩), .int .u8 c] w fun e w' => e = .returned (.bool (skipTo bs i c).2) ∧ IsScan w' b (.slice a len cap) (skipTo bs i c).1 ck ∧ w.grownBy w' (some b) := by
  have HC := hide (space_any b a len cap i ck bs w h hr hfar hl hi)
  have HR := hide hr
  have HFar := hide hfar
  have hj := spRun_le bs i (by rw [hr.lenEq]; exact hi)
  rw [hr.lenEq] at hj
  unfold skipTo
  rw [hr.lenEq]
  clear h hr hfar
  generalize i + spRun (bs.drop i) = j at HC hj ⊢
  by_cases hlt : j < len
  · have t1 : (j : Int) < (len : Int) := by omega
    have t2 : (0 : Int) ≤ (j : Int) := by omega
    have t3 : decide ((j : Int) < (len : Int)) = true := decide_eq_true t1
    by_cases hx : bs[j]?.getD 0 = c
    · rw [if_pos ⟨hlt, hx⟩]
      go_enter Try.func23, Try.ntmps23
      go_wp2_with fail
      refine HC.out.mono ?_
      rintro e w1 ⟨rfl, sc1, gr1⟩
      have HSc := hide sc1
      have HGr := hide gr1
      obtain ⟨c0, c1, c2, c3⟩ := sc1
      obtain ⟨bb, off, rfl, hc⟩ := (HR.out.kept gr1 (fun x e => by simpa using HFar.out x e)).cell j hlt
      rw [hx] at hc
      have t4 : (c == c) = true := by simp
      clear gr1 hx HC HR HFar
      go_wp2
      go_quiet (fail)
      go_wp2
      go_ret
      exact ⟨rfl, (HSc.out.moved (j + 1) ((j : Int) + 1) (by omega)).of_heap rfl, grownBy_setCell (grownBy_drewN HGr.out _) 1 _⟩
    · rw [if_neg (fun hh => hx hh.2)]
      go_enter Try.func23, Try.ntmps23
      go_wp2_with fail
      refine HC.out.mono ?_
      rintro e w1 ⟨rfl, sc1, gr1⟩
      have HSc := hide sc1
      have HGr := hide gr1
      obtain ⟨c0, c1, c2, c3⟩ := sc1
      obtain ⟨bb, off, rfl, hc⟩ := (HR.out.kept gr1 (fun x e => by simpa using HFar.out x e)).cell j hlt
      have t4 : (bs[j]?.getD 0 == c) = false := beq_eq_false_iff_ne.2 hx
      clear gr1 hx HC HR HFar
      generalize bs[j]?.getD 0 = x at hc t4
      go_wp2
      go_quiet (fail)
      go_wp2
      go_ret
      exact ⟨rfl, HSc.out.of_heap rfl, grownBy_drewN HGr.out _⟩
  · have t3 : decide ((j : Int) < (len : Int)) = false := decide_eq_false (by omega)
    rw [if_neg (fun hh => hlt hh.1)]
    go_enter Try.func23, Try.ntmps23
    go_wp2_with fail
    refine HC.out.mono ?_
    rintro e w1 ⟨rfl, sc1, gr1⟩
    have HSc := hide sc1
    have HGr := hide gr1
    obtain ⟨c0, c1, c2, c3⟩ := sc1
    clear gr1 HC HR HFar
    go_wp2
    go_quiet (fail)
    go_wp2
    go_ret
    exact ⟨rfl, HSc.out.of_heap rfl, grownBy_drewN HGr.out _⟩

theorem grownBy_of_below {w w' : World} (h : Below w.heap.size w w') : w.grownBy w' none := ⟨h.os, h.tape, h.output, h.size, fun k hk _ => h.block k hk⟩

set_option maxHeartbeats 400000 in
/-- ZZScanSkip: a new block, and what skip does with it. -/
theorem scanSkip_any (a : Option Addr) (len cap i : Nat) (ck : Bool) (c : Int) (bs : List Int) (w : World) (hr : Rd w a len bs) (hfar : ∀ x, a = some x → x.block ≠ w.heap.size) (hl : len ≤ 4294967296) (hi : i ≤ len) :
    Calls Try.prog 19 #[.slice a len cap, .int .i64 i, .bool ck, .int .u8 c] w fun e w' => e = .returned (.tuple #[.int .i64 ((skipTo bs i c).1 : Int), .bool ck, .bool (skipTo bs i c).2]) ∧ Below w.heap.size w w' := by
  have HC := hide (fun (w1 : World) (sc : IsScan w1 w.heap.size (.slice a len cap) i ck) (rd : Rd w1 a len bs) => skip_any w.heap.size a len cap i ck c bs w1 sc rd hfar hl hi)
  have HR := hide hr
  clear hr hfar
  generalize hq : skipTo bs i c = q at HC ⊢
  clear hq
  obtain ⟨j, ok⟩ := q
  simp only at HC ⊢
  go_enter Try.func19, Try.ntmps19
  go_wp2_with fail
  refine (HC.out _ ⟨by simp, by simp, by simp, by simp⟩ (HR.out.kept (World.grownBy_alloc w _ none) (fun _ _ => by simp))).mono ?_
  rintro e w1 ⟨rfl, sc1, gr1⟩
  have HB : Hid (Below w.heap.size w w1) := ((Below.refl _ w).alloc (Nat.le_refl _) _).grown gr1 (by simp) (fun k e => by cases e; exact Nat.le_refl _)
  obtain ⟨c0, c1, c2, c3⟩ := sc1
  clear gr1
  go_wp2
  go_quiet (fail)
  go_wp2
  go_ret3
  exact ⟨rfl, below_drewN HB.out _⟩

/-- The bound: some answer; yes where the two lengths add up to at most 2^20. -/
theorem zzBytes16_any (i : Int) (ck : Bool) (c : Int) (a1 a2 : Option Addr) (l1 c1 l2 c2 : Nat) (w : World) (h1 : l1 ≤ 9223372036854775807) (h2 : l2 ≤ 9223372036854775807) :
    Calls Try.prog 16 #[.slice a1 l1 c1, .int .i64 i, .bool ck, .slice a2 l2 c2, .int .u8 c] w fun e w' => (e = .returned (.bool (decide (l1 + l2 ≤ 1048576)))) ∧ w = w' := by
  by_cases h : l1 + l2 ≤ 1048576
  · rw [decide_eq_true h]
    go_enter Try.func16, Try.ntmps16
    go_wp2
    go_ret
    exact ⟨rfl, rfl⟩
  · rw [decide_eq_false h]
    go_enter Try.func16, Try.ntmps16
    go_wp2
    all_goals
      go_ret
      exact ⟨rfl, rfl⟩
end Go.Proofs.Qxb6619281a
