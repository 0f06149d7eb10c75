/-
  THE WALK OF FnSkipLeadingWhitespaceShiftsAnswer.
-/
import Derived.Test.Qxb6619281aSkip
import Derived.Deep.CutRange
namespace Go.Proofs.Qxb6619281a
open Go.RowKit

set_option maxRecDepth 4000 in
set_option maxHeartbeats 1000000 in
/-- The early ways out. -/
theorem skip_early (a0 : Option Addr) (len0 cap0 : Nat) (i : Int) (ck : Bool) (a3 : Option Addr) (len3 cap3 : Nat) (c : Int) (w : World) (m0 : len0 ≤ 9223372036854775807) (m3 : len3 ≤ 9223372036854775807)
    (h : ¬ (len0 + len3 ≤ 1048576 ∧ 0 ≤ i ∧ i ≤ len0)) :
    Calls Try.prog 6 #[.slice a0 len0 cap0, .int .i64 i, .bool ck, .slice a3 len3 cap3, .int .u8 c] w fun e w' => e = .returned (.bool true) ∧ Below w.heap.size w w' := by
  have HC := hide (zzBytes16_any i ck c a0 a3 len0 cap0 len3 cap3 w m0 m3)
  by_cases hs : len0 + len3 ≤ 1048576
  · rw [decide_eq_true hs] at HC
    by_cases hi : i < 0
    · have t0 : decide (i < 0) = true := decide_eq_true hi
      go_enter Try.func6, Try.ntmps6
      go_wp2_with fail
      refine HC.out.mono ?_
      rintro e w0 ⟨rfl, rfl⟩
      go_wp2
      go_ret
      exact ⟨rfl, Below.refl _ _⟩
    · have t0 : decide (i < 0) = false := decide_eq_false hi
      have t1 : decide ((len0 : Int) < i) = true := decide_eq_true (by omega)
      go_enter Try.func6, Try.ntmps6
      go_wp2_with fail
      refine HC.out.mono ?_
      rintro e w0 ⟨rfl, rfl⟩
      go_wp2
      go_ret
      exact ⟨rfl, Below.refl _ _⟩
  · rw [decide_eq_false hs] at HC
    go_enter Try.func6, Try.ntmps6
    go_wp2_with fail
    refine HC.out.mono ?_
    rintro e w0 ⟨rfl, rfl⟩
    go_wp2
    go_ret
    exact ⟨rfl, Below.refl _ _⟩

/-! ### THE PLAIN LAW -/
theorem spRun_cons_yes (x : Int) (l : List Int) (h : isSp x = true) : spRun (x :: l) = spRun l + 1 := by
  unfold spRun; rw [List.takeWhile_cons, if_pos h]; rfl
theorem spRun_cons_no (x : Int) (l : List Int) (h : isSp x = false) : spRun (x :: l) = 0 := by
  unfold spRun; rw [List.takeWhile_cons, if_neg (by rw [h]; decide)]; rfl
theorem spRun_next : ∀ (l : List Int), spRun l < l.length → isSp (l[spRun l]?.getD 0) = false
  | [], h => absurd h (by simp)
  | x :: l, h => by
    cases hx : isSp x
    · rw [spRun_cons_no x l hx]; simpa using hx
    · rw [spRun_cons_yes x l hx] at h ⊢
      simp only [List.getElem?_cons_succ]
      exact spRun_next l (by simpa using h)
theorem spRun_append : ∀ (ws l : List Int), (∀ j, j < ws.length → isSp (ws[j]?.getD 0) = true) → spRun (ws ++ l) = ws.length + spRun l
  | [], l, _ => by simp
  | x :: ws, l, h => by
    have h0 : isSp x = true := by simpa using h 0 (by simp)
    rw [List.cons_append, spRun_cons_yes x _ h0, spRun_append ws l (fun j hj => by simpa using h (j + 1) (by simpa using hj))]
    simp only [List.length_cons]
    omega

theorem skip_shift (ds ws : List Int) (i : Nat) (c : Int) (hi : i ≤ ds.length) (hw : ∀ j, j < ws.length → isSp (ws[j]?.getD 0) = true) :
    skipTo (ds.take i ++ ws ++ ds.drop i) i c = ((skipTo ds i c).1 + ws.length, (skipTo ds i c).2) := by
  have hd : (ds.take i ++ ws ++ ds.drop i).drop i = ws ++ ds.drop i := by
    rw [List.append_assoc]
    have hl : (ds.take i).length = i := by simp; omega
    rw [List.drop_append, List.drop_eq_nil_of_le (by omega), hl]
    simp
  have hlen : (ds.take i ++ ws ++ ds.drop i).length = ds.length + ws.length := by simp; omega
  have hget : ∀ r, (ds.take i ++ ws ++ ds.drop i)[i + (ws.length + r)]? = ds[i + r]? := by
    intro r
    have h1 : (ds.take i ++ ws).length = i + ws.length := by simp; omega
    rw [List.getElem?_append_right (by omega), h1, List.getElem?_drop]
    congr 1
    omega
  unfold skipTo
  rw [hd, spRun_append ws _ hw, hget, hlen]
  generalize spRun (ds.drop i) = r
  by_cases h : i + r < ds.length ∧ ds[i + r]?.getD 0 = c
  · rw [if_pos ⟨by omega, h.2⟩, if_pos h]
    simp only [Prod.mk.injEq, and_true]
    omega
  · rw [if_neg (fun hh => h ⟨by omega, hh.2⟩), if_neg h]
    simp only [Prod.mk.injEq, and_true]
    omega

theorem skip_facts (ds : List Int) (i : Nat) (c : Int) (hi : i ≤ ds.length) : i ≤ (skipTo ds i c).1 ∧ (skipTo ds i c).1 ≤ ds.length ∧ ((skipTo ds i c).2 = true → ∃ m, (skipTo ds i c).1 = m + 1 ∧ i ≤ m ∧ m < ds.length ∧ ds[m]?.getD 0 = c ∧ isSp c = false) := by
  have hle := spRun_le ds i hi
  have hnx := spRun_next (ds.drop i)
  rw [List.getElem?_drop] at hnx
  unfold skipTo
  by_cases h : i + spRun (ds.drop i) < ds.length ∧ ds[i + spRun (ds.drop i)]?.getD 0 = c
  · rw [if_pos h]
    refine ⟨by simp only; omega, by simp only; omega, fun _ => ⟨i + spRun (ds.drop i), rfl, by omega, h.1, h.2, ?_⟩⟩
    have := hnx (by simp; omega)
    rwa [h.2] at this
  · rw [if_neg h]
    exact ⟨by simp only; omega, by simp only; omega, fun e => by cases e⟩

/-- The cells of a slice's first i elements, and of the rest, as an append wants them. -/
theorem cells_take {w : World} {b off len : Nat} {ds : List Int} (h : Rd w (some ⟨b, off, none⟩) len ds) (i : Nat) : ∀ j u, (toB (ds.take i))[j]? = some u → w.cell? ((⟨b, off, none⟩ : Addr).add j) = some u := by
  intro j u hu
  have hj : j < (ds.take i).length := by
    rcases Nat.lt_or_ge j (ds.take i).length with hh | hh
    · exact hh
    · rw [List.getElem?_eq_none (by rw [toB_length]; exact hh)] at hu; cases hu
  rw [toB_get _ j hj] at hu
  cases hu
  simp only [List.length_take] at hj
  have hl := h.lenEq
  obtain ⟨b', o', e, hc⟩ := h.cell j (by omega)
  cases e
  have hadd : (⟨b, off, none⟩ : Addr).add j = ⟨b, off + j, none⟩ := by unfold Addr.add; split <;> simp_all
  rw [hadd, hc, List.getElem?_take, if_pos (by omega)]
theorem cells_drop {w : World} {b off len : Nat} {ds : List Int} (h : Rd w (some ⟨b, off, none⟩) len ds) (i : Nat) : ∀ j u, (toB (ds.drop i))[j]? = some u → w.cell? ((⟨b, off + i, none⟩ : Addr).add j) = some u := by
  intro j u hu
  have hj : j < (ds.drop i).length := by
    rcases Nat.lt_or_ge j (ds.drop i).length with hh | hh
    · exact hh
    · rw [List.getElem?_eq_none (by rw [toB_length]; exact hh)] at hu; cases hu
  rw [toB_get _ j hj] at hu
  cases hu
  simp only [List.length_drop] at hj
  have hl := h.lenEq
  obtain ⟨b', o', e, hc⟩ := h.cell (i + j) (by omega)
  cases e
  have hadd : (⟨b, off + i, none⟩ : Addr).add j = ⟨b, off + (i + j), none⟩ := by unfold Addr.add; split <;> simp_all [Nat.add_assoc]
  rw [hadd, hc, List.getElem?_drop]
theorem cells_whole {w : World} {a : Option Addr} {len : Nat} {ws : List Int} (h : Rd w a len ws) : ∀ ad, a = some ad → ∀ j u, (toB ws)[j]? = some u → w.cell? (ad.add j) = some u := by
  intro ad e j u hu
  have hj : j < ws.length := by
    rcases Nat.lt_or_ge j ws.length with hh | hh
    · exact hh
    · rw [List.getElem?_eq_none (by rw [toB_length]; exact hh)] at hu; cases hu
  rw [h.lenEq] at hj
  obtain ⟨b, o, e2, _⟩ := h.cell j hj
  subst e2
  cases e
  have := cells_take h len j u (by rw [List.take_of_length_le (by rw [h.lenEq]; exact Nat.le_refl _)]; exact hu)
  exact this
theorem one_cells (l : List Int) : ∀ u ∈ toB l, u.oneCell' = true := by intro u hu; simp [toB] at hu; obtain ⟨z, _, rfl⟩ := hu; rfl

set_option maxRecDepth 4000 in
set_option maxHeartbeats 1000000 in
theorem skip_main (b off : Nat) (len0 cap0 : Nat) (i : Nat) (ck : Bool) (a3 : Option Addr) (len3 cap3 : Nat) (c : Int) (ds ws : List Int) (w : World) (hcap : len0 ≤ cap0) (hcm : cap0 ≤ 9223372036854775807)
    (h : len0 + len3 ≤ 1048576) (hi : i ≤ len0) (r0 : Rd w (some ⟨b, off, none⟩) len0 ds) (r3 : Rd w a3 len3 ws) (n3 : a3 = none → cap3 = 0) :
    Calls Try.prog 6 #[.slice (some ⟨b, off, none⟩) len0 cap0, .int .i64 i, .bool ck, .slice a3 len3 cap3, .int .u8 c] w fun e w' => e = .returned (.bool true) ∧ Below w.heap.size w w' := by
  have HC := hide (zzBytes16_any (i : Int) ck c (some ⟨b, off, none⟩) a3 len0 cap0 len3 cap3 w (by omega) (by omega))
  rw [decide_eq_true h] at HC
  have t0 : decide ((i : Int) < 0) = false := decide_eq_false (by omega)
  have t1 : decide ((len0 : Int) < (i : Int)) = false := decide_eq_false (by omega)
  have t1' : decide (len0 < i) = false := decide_eq_false (by omega)
  have t2 : decide ((1048576 : Int) < (len0 : Int)) = false := decide_eq_false (by omega)
  have t3 : decide ((1048576 : Int) < (len3 : Int)) = false := decide_eq_false (by omega)
  have HR0 := hide r0
  have HR3 := hide r3
  have HN3 := hide n3
  clear r0 r3 n3
  obtain ⟨i0, hii, hz0, hz1, hz2⟩ := info_parts info5
  go_enter Try.func6, Try.ntmps6
  go_wp2_with fail
  refine HC.out.mono ?_
  rintro e w0 ⟨rfl, rfl⟩
  clear HC
  go_wp2_with fail
  go_loop [10, 11] (fun r t => ∃ k : Nat, k ≤ len3 ∧ r = .bool false ∧ t = .int .i64 k ∧ ∀ j, j < k → isSp (ws[j]?.getD 0) = true) (fun _ t => len3 - (intOf t).toNat)
  case atStart => exact ⟨0, Nat.zero_le _, rfl, rfl, fun j hj => absurd hj (Nat.not_lt_zero _)⟩
  case round =>
    obtain ⟨k, hk, rfl, rfl, hall⟩ := hrel
    have HAll := hide hall
    clear hall
    by_cases hlt : k < len3
    · obtain ⟨b3, o3, hb3, hc3⟩ := HR3.out.cell k hlt
      cases hx : isSp (ws[k]?.getD 0)
      · have HCall := hide (zzIsSpace_no (ws[k]?.getD 0) w hx)
        clear hx
        generalize ws[k]?.getD 0 = x at hc3 HCall
        subst hb3
        go_wp2_with fail
        refine HCall.out.mono ?_
        rintro e w1 ⟨rfl, rfl⟩
        go_wp2
        go_ret
        exact ⟨rfl, Below.refl _ _⟩
      · have HX := hide hx
        have HCall := hide (zzIsSpace_yes (ws[k]?.getD 0) w hx)
        clear hx
        generalize hg : ws[k]?.getD 0 = x at hc3 HCall
        clear hg
        subst hb3
        go_wp2_with fail
        refine HCall.out.mono ?_
        rintro e w1 ⟨rfl, rfl⟩
        go_wp2
        go_round
        case rel =>
          refine ⟨k + 1, by omega, rfl, by go_num, fun j hj => ?_⟩
          rcases Nat.lt_or_ge j k with hh | hh
          · exact HAll.out j hh
          · obtain rfl : j = k := by omega
            exact HX.out
        case measure => simp [intOf]; omega
    · obtain rfl : k = len3 := by omega
      go_wp2_with fail
      refine (cloneBytes_any (some ⟨b, off, none⟩) len0 cap0 ds w HR0.out (fun e => by cases e) (by omega)).mono ?_
      rintro e w1 ⟨d, rfl, r1, u1, o1, q1, B1⟩
      have HR1 := hide r1
      have HU1 := hide u1
      have HO1 := hide o1
      have HB1 := hide B1
      clear r1 u1 o1 q1 B1
      have L1 : Hid ((toB (ds.take i)).length = i * 1) := by have := HR0.out.lenEq; show (toB (ds.take i)).length = i * 1; rw [toB_length, List.length_take]; omega
      have L2 : Hid ((toB ws).length = k * 1) := by have := HR3.out.lenEq; show (toB ws).length = k * 1; rw [toB_length]; omega
      have L3 : Hid ((toB (ds.drop i)).length = (len0 - i) * 1) := by have := HR0.out.lenEq; show (toB (ds.drop i)).length = (len0 - i) * 1; rw [toB_length, List.length_drop]; omega
      have HD := hide (HR0.out.later HB1.out)
      have HW := hide (HR3.out.later HB1.out)
      have HNone : Hid (a3 = none → k = 0 ∧ cap3 = 0) := fun e => ⟨HR3.out.nilLen e, HN3.out e⟩
      have HDrop : Hid (i < cap0 ∨ toB (ds.drop i) = []) := by
        rcases Nat.lt_or_ge i cap0 with hh | hh
        · exact .inl hh
        · exact .inr (by rw [List.drop_eq_nil_of_le (by rw [HR0.out.lenEq]; omega)]; rfl)
      go_upto_region 15 with fail
      rcases HDrop.out with hci | hnil
      case' inl => go_wp2_with (first | (at_make; refine wpList_make_own _ rfl _ _ 22 rfl w1.heap.size 5 i0 (.int .u8 0) 1 Try.underlying22 hii hz0 hz1 .i64 .i64 _ (len0 + k) rfl rfl (by omega) (by rw [hz2]; omega) (by unfold maxLen; omega) (Nat.le_refl _) ?_; intro w2 hown2 hgrow2; have HOw2 := hide hown2; have HB2 := hide ((Below.refl w1.heap.size w1).grown hgrow2 (Nat.le_refl _) (fun k e => by cases e)); clear hown2 hgrow2) | (at_builtin; refine wpList_append_fits_any _ rfl (.tmp 61) (.tmp 64) 22 rfl w1.heap.size 5 i0 1 Try.underlying22 hii hz1 w1.heap.size 0 (len0 + k) [] rfl HOw2.out (some ⟨b, off, none⟩) i cap0 (toB (ds.take i)) rfl L1.out (fun e => by cases e) (fun ad e => by cases e; exact cells_take (HD.out.later HB2.out) i) (one_cells _) (by omega) ?_; intro w3 hown3 hgrow3; simp only [Nat.zero_add, List.nil_append] at hown3; have HOw3 := hide hown3; have HB3 := hide (HB2.out.grown hgrow3 HB2.out.size (fun k e => by cases e; exact Nat.le_refl _)); clear hown3 hgrow3) | (at_builtin; refine wpList_append_fits_any _ rfl (.tmp 66) (.tmp 67) 22 rfl w1.heap.size 5 i0 1 Try.underlying22 hii hz1 w1.heap.size i (len0 + k) (toB (ds.take i)) rfl HOw3.out a3 k cap3 (toB ws) rfl L2.out HNone.out (cells_whole (HW.out.later HB3.out)) (one_cells _) (by omega) ?_; intro w4 hown4 hgrow4; have HOw4 := hide hown4; have HB4 := hide (HB3.out.grown hgrow4 HB3.out.size (fun k e => by cases e; exact Nat.le_refl _)); clear hown4 hgrow4) | (at_builtin; refine wpList_append_fits_any _ rfl (.tmp 69) (.tmp 72) 22 rfl w1.heap.size 5 i0 1 Try.underlying22 hii hz1 w1.heap.size (i + k) (len0 + k) (toB (ds.take i) ++ toB ws) rfl HOw4.out _ (len0 - i) _ (toB (ds.drop i)) rfl L3.out (fun e => by cases e) (fun ad e => by cases e; exact cells_drop (HD.out.later HB4.out) i) (one_cells _) (by omega) ?_; intro w5 hown5 hgrow5; have HOw5 := hide hown5; have HB5 := hide (HB4.out.grown hgrow5 HB4.out.size (fun k e => by cases e; exact Nat.le_refl _)); clear hown5 hgrow5))
      case' inr =>
        have HNl := hide hnil
        clear hnil
        go_wp2_with (first | (at_make; refine wpList_make_own _ rfl _ _ 22 rfl w1.heap.size 5 i0 (.int .u8 0) 1 Try.underlying22 hii hz0 hz1 .i64 .i64 _ (len0 + k) rfl rfl (by omega) (by rw [hz2]; omega) (by unfold maxLen; omega) (Nat.le_refl _) ?_; intro w2 hown2 hgrow2; have HOw2 := hide hown2; have HB2 := hide ((Below.refl w1.heap.size w1).grown hgrow2 (Nat.le_refl _) (fun k e => by cases e)); clear hown2 hgrow2) | (at_builtin; refine wpList_append_fits_any _ rfl (.tmp 61) (.tmp 64) 22 rfl w1.heap.size 5 i0 1 Try.underlying22 hii hz1 w1.heap.size 0 (len0 + k) [] rfl HOw2.out (some ⟨b, off, none⟩) i cap0 (toB (ds.take i)) rfl L1.out (fun e => by cases e) (fun ad e => by cases e; exact cells_take (HD.out.later HB2.out) i) (one_cells _) (by omega) ?_; intro w3 hown3 hgrow3; simp only [Nat.zero_add, List.nil_append] at hown3; have HOw3 := hide hown3; have HB3 := hide (HB2.out.grown hgrow3 HB2.out.size (fun k e => by cases e; exact Nat.le_refl _)); clear hown3 hgrow3) | (at_builtin; refine wpList_append_fits_any _ rfl (.tmp 66) (.tmp 67) 22 rfl w1.heap.size 5 i0 1 Try.underlying22 hii hz1 w1.heap.size i (len0 + k) (toB (ds.take i)) rfl HOw3.out a3 k cap3 (toB ws) rfl L2.out HNone.out (cells_whole (HW.out.later HB3.out)) (one_cells _) (by omega) ?_; intro w4 hown4 hgrow4; have HOw4 := hide hown4; have HB4 := hide (HB3.out.grown hgrow4 HB3.out.size (fun k e => by cases e; exact Nat.le_refl _)); clear hown4 hgrow4) | (at_builtin; refine wpList_append_fits_any _ rfl (.tmp 69) (.tmp 72) 22 rfl w1.heap.size 5 i0 1 Try.underlying22 hii hz1 w1.heap.size (i + k) (len0 + k) (toB (ds.take i) ++ toB ws) rfl HOw4.out _ (len0 - i) _ (toB (ds.drop i)) rfl L3.out (fun e => by split at e <;> cases e) (fun ad e j u hu => by rw [HNl.out] at hu; cases hu) (one_cells _) (by omega) ?_; intro w5 hown5 hgrow5; have HOw5 := hide hown5; have HB5 := hide (HB4.out.grown hgrow5 HB4.out.size (fun k e => by cases e; exact Nat.le_refl _)); clear hown5 hgrow5))
      all_goals
        have HRow : Hid (w5.ownsRow w1.heap.size 5 1 (.slice (some ⟨w1.heap.size, 0, none⟩) (i + k + (len0 - i)) (len0 + k)) (i + k + (len0 - i)) (toB (ds.take i ++ ws ++ ds.drop i))) := by
          have := HOw5.out; rw [toB_append, toB_append]; exact this
        have HLen2 : Hid ((ds.take i ++ ws ++ ds.drop i).length = i + k + (len0 - i)) := by
          have h1 := HR0.out.lenEq; have h2 := HR3.out.lenEq; show _ = _; simp; omega
        have HShift := hide (skip_shift ds ws i c (by rw [HR0.out.lenEq]; exact hi) (by rw [HR3.out.lenEq]; exact HAll.out))
        obtain ⟨f1, f2, f3⟩ := skip_facts ds i c (by rw [HR0.out.lenEq]; exact hi)
        rw [HR0.out.lenEq] at f2 f3
        have HF3 := hide f3
        have HRd2 : Hid (Rd w5 (some ⟨w1.heap.size, 0, none⟩) (i + k + (len0 - i)) (ds.take i ++ ws ++ ds.drop i)) := by
          have ho : Own w1.heap.size w5 (.slice (some ⟨w1.heap.size, 0, none⟩) (i + k + (len0 - i)) (len0 + k)) (ds.take i ++ ws ++ ds.drop i) := by unfold Own; rw [HLen2.out]; exact HRow.out
          refine ho.rd HLen2.out (fun z hz => ?_)
          simp only [List.mem_append] at hz
          rcases hz with (hz | hz) | hz
          · exact HR0.out.byte z (List.mem_of_mem_take hz)
          · exact HR3.out.byte z hz
          · exact HR0.out.byte z (List.mem_of_mem_drop hz)
        have hw15 := HB5.out.size
        have HLt5 : Hid (w1.heap.size < w5.heap.size) := (World.ownsRow.lt HRow.out _ rfl).2
        refine (scanSkip_any d len0 len0 i ck c ds w5 (HR1.out.later HB5.out) (fun x e => by have := HU1.out x e; omega) (by omega) hi).mono ?_
        rintro e w6 ⟨rfl, B6⟩
        have HB6 := hide B6
        clear B6
        have HSk2 := hide (fun (w6 : World) (hh : Below w5.heap.size w5 w6) => by
          have := scanSkip_any (some ⟨w1.heap.size, 0, none⟩) (i + k + (len0 - i)) (len0 + k) i ck c (ds.take i ++ ws ++ ds.drop i) w6 (HRd2.out.later hh) (fun x e => by cases e; have h1 := HLt5.out; have h2 := hh.size; show w1.heap.size ≠ _; omega) (by omega) (by omega)
          rw [HShift.out, HR3.out.lenEq] at this
          exact this)
        generalize skipTo ds i c = q at f1 f2 f3 HF3 HSk2
        obtain ⟨j1, okk⟩ := q
        simp only at f1 f2 f3 HF3 HSk2
        clear f3
        go_wp2_with fail
        refine (HSk2.out w6 HB6.out).mono ?_
        rintro e w7 ⟨rfl, B7⟩
        have HBel : Hid (Below w.heap.size w w7) := by
          have s1 := HB1.out.size
          have s5 := HB5.out.size
          have s6 := HB6.out.size
          exact ((HB1.out.trans (HB5.out.mono s1)).trans (HB6.out.mono (by omega))).trans (B7.mono (by omega))
        have HRdA : Hid (Rd w7 (some ⟨b, off, none⟩) len0 ds) := HR0.out.later HBel.out
        clear B7 HOw5 HRow HRd2 HShift HSk2 HB6 HB5 HB4 HB3 HB2 HOw2 HOw3 HOw4 HR1 HU1 HO1 HB1 HD HW HR0 HR3 HNone HDrop HLen2 HLt5 L1 L2 L3 HAll HN3 hii hz0 hz1 hz2
        have v1 : (ck != ck) = false := by simp
        have v2 : decide ((j1 : Int) < (i : Int)) = false := decide_eq_false (by omega)
        have v3 : decide ((len0 : Int) < (j1 : Int)) = false := decide_eq_false (by omega)
        have v6 : ((j1 : Int) + (k : Int) == (j1 : Int) + (k : Int)) = true := by simp
        cases okk
        · go_wp2
          go_ret
          exact ⟨rfl, HBel.out⟩
        · obtain ⟨m, rfl, g1, g2, g3, g4⟩ := HF3.out rfl
          have v7 : ((m : Int) + 1 + (k : Int) == (m : Int) + 1 + (k : Int)) = true := by simp
          obtain ⟨bb, oo, e, hcm⟩ := HRdA.out.cell m g2
          cases e
          rw [g3] at hcm
          have v4 : ((m : Int) + 1 == (i : Int)) = false := beq_eq_false_iff_ne.2 (by omega)
          have v5 : (c != c) = false := by simp
          have HCall := fun w => hide (zzIsSpace_no c w g4)
          clear g3 g4 HF3 v6
          first
            | (exfalso; omega)
            | (go_wp2_with fail
               refine (HCall w7).out.mono ?_
               rintro e w8 ⟨rfl, rfl⟩
               go_wp2
               go_ret
               exact ⟨rfl, HBel.out⟩)

set_option maxRecDepth 4000 in
set_option maxHeartbeats 1000000 in
theorem skip_empty (a0 : Option Addr) (cap0 : Nat) (ck : Bool) (a3 : Option Addr) (len3 cap3 : Nat) (c : Int) (ws : List Int) (w : World) (n0 : a0 = none → cap0 = 0) (_hcm : cap0 ≤ 9223372036854775807)
    (h : len3 ≤ 1048576) (r3 : Rd w a3 len3 ws) (n3 : a3 = none → cap3 = 0) :
    Calls Try.prog 6 #[.slice a0 0 cap0, .int .i64 0, .bool ck, .slice a3 len3 cap3, .int .u8 c] w fun e w' => e = .returned (.bool true) ∧ Below w.heap.size w w' := by
  have HC := hide (zzBytes16_any 0 ck c a0 a3 0 cap0 len3 cap3 w (by omega) (by omega))
  rw [decide_eq_true (by omega)] at HC
  have t3 : decide ((1048576 : Int) < (len3 : Int)) = false := decide_eq_false (by omega)
  have HR0 : Hid (Rd w a0 0 []) := ⟨rfl, fun _ => rfl, fun k hk => absurd hk (Nat.not_lt_zero _), fun z hz => by simp at hz⟩
  have HR3 := hide r3
  have HN3 := hide n3
  have HN0 := hide n0
  clear r3 n3 n0
  obtain ⟨i0, hii, hz0, hz1, hz2⟩ := info_parts info5
  go_enter Try.func6, Try.ntmps6
  go_wp2_with fail
  refine HC.out.mono ?_
  rintro e w0 ⟨rfl, rfl⟩
  clear HC
  go_wp2_with fail
  go_loop [10, 11] (fun r t => ∃ k : Nat, k ≤ len3 ∧ r = .bool false ∧ t = .int .i64 k ∧ ∀ j, j < k → isSp (ws[j]?.getD 0) = true) (fun _ t => len3 - (intOf t).toNat)
  case atStart => exact ⟨0, Nat.zero_le _, rfl, rfl, fun j hj => absurd hj (Nat.not_lt_zero _)⟩
  case round =>
    obtain ⟨k, hk, rfl, rfl, hall⟩ := hrel
    have HAll := hide hall
    clear hall
    by_cases hlt : k < len3
    · obtain ⟨b3, o3, hb3, hc3⟩ := HR3.out.cell k hlt
      cases hx : isSp (ws[k]?.getD 0)
      · have HCall := hide (zzIsSpace_no (ws[k]?.getD 0) w hx)
        clear hx
        generalize ws[k]?.getD 0 = x at hc3 HCall
        subst hb3
        go_wp2_with fail
        refine HCall.out.mono ?_
        rintro e w1 ⟨rfl, rfl⟩
        go_wp2
        go_ret
        exact ⟨rfl, Below.refl _ _⟩
      · have HX := hide hx
        have HCall := hide (zzIsSpace_yes (ws[k]?.getD 0) w hx)
        clear hx
        generalize hg : ws[k]?.getD 0 = x at hc3 HCall
        clear hg
        subst hb3
        go_wp2_with fail
        refine HCall.out.mono ?_
        rintro e w1 ⟨rfl, rfl⟩
        go_wp2
        go_round
        case rel =>
          refine ⟨k + 1, by omega, rfl, by go_num, fun j hj => ?_⟩
          rcases Nat.lt_or_ge j k with hh | hh
          · exact HAll.out j hh
          · obtain rfl : j = k := by omega
            exact HX.out
        case measure => simp [intOf]; omega
    · obtain rfl : k = len3 := by omega
      go_wp2_with fail
      refine (cloneBytes_any a0 0 cap0 [] w HR0.out HN0.out (by omega)).mono ?_
      rintro e w1 ⟨d, rfl, r1, u1, o1, q1, B1⟩
      have HR1 := hide r1
      have HU1 := hide u1
      have HB1 := hide B1
      clear r1 u1 o1 q1 B1
      have L2 : Hid ((toB ws).length = k * 1) := by have := HR3.out.lenEq; show (toB ws).length = k * 1; rw [toB_length]; omega
      have HW := hide (HR3.out.later HB1.out)
      have HNone : Hid (a3 = none → k = 0 ∧ cap3 = 0) := fun e => ⟨HR3.out.nilLen e, HN3.out e⟩
      go_upto_region 15 with fail
      go_wp2_with (first | (at_make; refine wpList_make_own _ rfl _ _ 22 rfl w1.heap.size 5 i0 (.int .u8 0) 1 Try.underlying22 hii hz0 hz1 .i64 .i64 _ k rfl rfl (by omega) (by rw [hz2]; omega) (by unfold maxLen; omega) (Nat.le_refl _) ?_; intro w2 hown2 hgrow2; have HOw2 := hide hown2; have HB2 := hide ((Below.refl w1.heap.size w1).grown hgrow2 (Nat.le_refl _) (fun k e => by cases e)); clear hown2 hgrow2) | (at_builtin; refine wpList_append_fits_any _ rfl (.tmp 61) (.tmp 64) 22 rfl w1.heap.size 5 i0 1 Try.underlying22 hii hz1 w1.heap.size 0 k [] rfl HOw2.out a0 0 cap0 [] rfl rfl (fun e => ⟨rfl, HN0.out e⟩) (fun ad e j u hu => by cases hu) (fun u hu => by cases hu) (by omega) ?_; intro w3 hown3 hgrow3; simp only [Nat.zero_add, List.nil_append] at hown3; have HOw3 := hide hown3; have HB3 := hide (HB2.out.grown hgrow3 HB2.out.size (fun k e => by cases e; exact Nat.le_refl _)); clear hown3 hgrow3) | (at_builtin; refine wpList_append_fits_any _ rfl (.tmp 66) (.tmp 67) 22 rfl w1.heap.size 5 i0 1 Try.underlying22 hii hz1 w1.heap.size 0 k [] rfl HOw3.out a3 k cap3 (toB ws) rfl L2.out HNone.out (cells_whole (HW.out.later HB3.out)) (one_cells _) (by omega) ?_; intro w4 hown4 hgrow4; simp only [Nat.zero_add, List.nil_append] at hown4; have HOw4 := hide hown4; have HB4 := hide (HB3.out.grown hgrow4 HB3.out.size (fun k e => by cases e; exact Nat.le_refl _)); clear hown4 hgrow4) | (at_builtin; refine wpList_append_fits_any _ rfl (.tmp 69) (.tmp 72) 22 rfl w1.heap.size 5 i0 1 Try.underlying22 hii hz1 w1.heap.size k k (toB ws) rfl HOw4.out a0 0 cap0 [] rfl rfl (fun e => ⟨rfl, HN0.out e⟩) (fun ad e j u hu => by cases hu) (fun u hu => by cases hu) (by omega) ?_; intro w5 hown5 hgrow5; simp only [Nat.add_zero, List.append_nil] at hown5; have HOw5 := hide hown5; have HB5 := hide (HB4.out.grown hgrow5 HB4.out.size (fun k e => by cases e; exact Nat.le_refl _)); clear hown5 hgrow5))
      have HShift : Hid (skipTo ws 0 c = (k, false)) := by
        have := skip_shift [] ws 0 c (Nat.le_refl _) (by rw [HR3.out.lenEq]; exact HAll.out)
        rw [HR3.out.lenEq] at this
        show skipTo ws 0 c = (k, false)
        simpa [skipTo, spRun] using this
      have HE : Hid (skipTo [] 0 c = (0, false)) := by simp [Hid, skipTo, spRun]
      have HRd2 : Hid (Rd w5 (some ⟨w1.heap.size, 0, none⟩) k ws) := by
        have ho : Own w1.heap.size w5 (.slice (some ⟨w1.heap.size, 0, none⟩) k k) ws := by unfold Own; rw [HR3.out.lenEq]; exact HOw5.out
        exact ho.rd HR3.out.lenEq HR3.out.byte
      have hw15 := HB5.out.size
      have HLt5 : Hid (w1.heap.size < w5.heap.size) := (World.ownsRow.lt HOw5.out _ rfl).2
      have HSk1 := hide (by
        have := scanSkip_any d 0 0 0 ck c [] w5 (HR1.out.later HB5.out) (fun x e => by have := HU1.out x e; omega) (by omega) (by omega)
        rw [HE.out] at this
        exact this)
      refine HSk1.out.mono ?_
      rintro e w6 ⟨rfl, B6⟩
      have HB6 := hide B6
      have HSk2 := hide (by
        have := scanSkip_any (some ⟨w1.heap.size, 0, none⟩) k k 0 ck c ws w6 (HRd2.out.later B6) (fun x e => by cases e; have h1 := HLt5.out; have h2 := B6.size; show w1.heap.size ≠ _; omega) (by omega) (by omega)
        rw [HShift.out] at this
        exact this)
      clear B6
      go_wp2_with fail
      refine HSk2.out.mono ?_
      rintro e w7 ⟨rfl, B7⟩
      have HBel : Hid (Below w.heap.size w w7) := by
        have s1 := HB1.out.size
        have s5 := HB5.out.size
        have s6 := HB6.out.size
        exact ((HB1.out.trans (HB5.out.mono s1)).trans (HB6.out.mono (by omega))).trans (B7.mono (by omega))
      clear B7 HOw5 HRd2 HShift HSk2 HSk1 HB6 HB5 HB4 HB3 HB2 HOw2 HOw3 HOw4 HR1 HU1 HB1 HW HR0 HR3 HNone HLt5 L2 HAll HN3 hii hz0 hz1 hz2
      have v1 : (ck != ck) = false := by simp
      have v6 : ((k : Int) == (k : Int)) = true := by simp
      go_wp2
      go_ret
      exact ⟨rfl, HBel.out⟩
end Go.Proofs.Qxb6619281a
