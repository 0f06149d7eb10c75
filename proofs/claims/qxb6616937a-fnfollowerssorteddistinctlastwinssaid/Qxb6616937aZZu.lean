/-
  ZZfollowersUpTo: what the iterator yields, until k are taken.
-/
import Derived.Test.Qxb6616937aZZf
namespace Go.Proofs.Qxb6616937a
open Go.RowKit Go.Maps Go.Sort Go.Shelf
attribute [local go_sem] Oper.semAt_some

theorem row_form {W : World} {base e n : Nat} {v : Value} {xs : List Value} (h : W.ownsRow base e 1 v n xs) : ∃ a c, v = .slice a n c := by
  rcases h.2 with ⟨rfl, rfl⟩ | ⟨g, cap, cur, rfl, _⟩
  · exact ⟨_, _, rfl⟩
  · exact ⟨_, _, rfl⟩

/-- No more than k have been taken. -/
def UpTo {α : Type} (k : Int) (pre : List α) : Prop := (pre.length : Int) ≤ k ∨ pre.length = 0

theorem gotk_own {w₀ : World} {n₀ B1 B2 B : Nat} {w : World} {k : Int} (h1 : n₀ ≤ w.heap.size) (h2 : n₀ ≤ B) : OwnFrom B (fun (pre : List (Item w₀)) W => (∃ v1 v2, Got n₀ B1 B2 w pre W v1 v2) ∧ UpTo k pre) :=
  fun s W W' row h hg hr => ⟨got_own h1 h2 s W W' row h.1 hg hr, h.2⟩

/-- The body has left: what lay before the last came is collected, k at least. -/
def Left {w₀ : World} (n₀ B1 B2 : Nat) (w : World) (k : Int) (ys : List (Item w₀)) (W : World) : Prop := ∃ pre x, ys = pre ++ [x] ∧ (∃ v1 v2, Got n₀ B1 B2 w pre W v1 v2) ∧ UpTo k pre ∧ k ≤ (pre.length : Int)

theorem left_own {w₀ : World} {n₀ B1 B2 B : Nat} {w : World} {k : Int} (h1 : n₀ ≤ w.heap.size) (h2 : n₀ ≤ B) (c c' : Code) : OwnFrom B (fun (ys : List (Item w₀)) W => c = c' ∧ Left n₀ B1 B2 w k ys W) :=
  fun _ W W' row ⟨hc, pre, x, e, h, h3⟩ hg hr => ⟨hc, pre, x, e, got_own h1 h2 pre W W' row h hg hr, h3⟩

set_option maxRecDepth 100000 in
set_option maxHeartbeats 2000000 in
theorem zzFollowersUpTo_in (r b n : Nat) (k : Int) (S : Nat → ByteArray) (M : Nat → Int) (D : DataW Unit) (w : World) (L : List (Item w)) (hI : Items w n S M D L) (hR : RepIs w r b n S M D) (hN : n ≤ 1048576) (hk : -9223372036854775808 ≤ k ∧ k ≤ 9223372036854775807) :
    CallsIn Fence.wide 5 Try.prog 29 #[.pointer (some ⟨r, 0, none⟩), .int .i64 k] w fun e W' => ∃ v1 v2, e = .returned (.tuple #[v1, v2]) ∧ W'.ownsRow (w.heap.size + 1 + 1) 9 1 v1 (L.take k.toNat).length ((L.take k.toNat).map fun x => encStr x.1.1) ∧ W'.ownsRow (w.heap.size + 1 + 1) 22 1 v2 (L.take k.toNat).length ((L.take k.toNat).map fun x => .int .u64 x.1.2.2) ∧ Below w.heap.size w W' := by
  have heq := run_eq_nilFunc
  refine callsIn_of_wp_marks Try.func29 rfl trivial ?_ rfl
  simp only [Try.ntmps29, List.size_toArray, List.length_cons, List.length_nil, Nat.reduceAdd, Nat.reduceSub, Array.replicate_succ, Array.replicate_zero, List.push_toArray, List.append_toArray, List.nil_append, List.cons_append]
  gi_wp2_with fail
  refine ⟨trivial, (followers_in _ _ _).mono ?_⟩
  rintro e w' ⟨rfl, rfl⟩
  gi_wp2_with fail
  clear heq
  obtain ⟨wb, hwb⟩ : ∃ wb, wb = (w.alloc (.cells #[.int .i64 k] 3)).alloc (.cells #[.pointer (some ⟨r, 0, none⟩)] 40) := ⟨_, rfl⟩
  have szb : Hid (wb.heap.size = w.heap.size + 1 + 1) := hide (by rw [hwb]; simp)
  have szl : w.heap.size + 1 < wb.heap.size := by rw [szb.out]; omega
  have cb : wb.cell? ⟨w.heap.size + 1, 0, none⟩ = some (.pointer (some ⟨r, 0, none⟩)) := by
    rw [hwb]
    have := (Boxed.new (w.alloc (.cells #[.int .i64 k] 3)) 40 (.pointer (some ⟨r, 0, none⟩))).cell
    rwa [World.size_alloc] at this
  have ck : wb.cell? ⟨w.heap.size, 0, none⟩ = some (.int .i64 k) := by rw [hwb]; exact ((Boxed.new w 3 (.int .i64 k)).alloc _).cell
  have Bb : Below w.heap.size w wb := by rw [hwb]; exact ((Below.refl _ _).alloc (Nat.le_refl _) _).alloc (by simp) _
  have Rb := hR.later Bb
  rw [← hwb]
  have b1 := Boxed.new wb 51 (.slice none 0 0)
  have b2 := Boxed.new (wb.alloc (.cells #[.slice none 0 0] 51)) 52 (.slice none 0 0)
  have Bc : Below wb.heap.size wb ((wb.alloc (.cells #[.slice none 0 0] 51)).alloc (.cells #[.slice none 0 0] 52)) := ((Below.refl _ _).alloc (Nat.le_refl _) _).alloc (by simp) _
  have bb1 := b1.alloc (.cells #[.slice none 0 0] 52)
  have hN2 : L.length ≤ 1048576 := by
    have e1 := congrArg List.length hI.keys
    have e2 : (strKeys D).length ≤ n := by
      have := hR.map.own.size_le
      obtain ⟨es, rfl, _⟩ := hR.map.own.keysOf
      simpa [strKeys, Maps.size] using this
    simp at e1
    omega
  have rr : r < w.heap.size := block_lt_of_cell hR.at_
  have rb : b < w.heap.size := hR.map.own.lt
  rw [World.size_alloc] at b2
  rw [← szb.out]
  clear hwb
  refine wpIn_rangeFunc_ownG rfl (by omega) (gf := 39) (lb := #[.pointer (some ⟨w.heap.size + 1, 0, none⟩)]) rfl trivial (enters_of Try.func39 (by kernel_rfl) rfl)
    (follow_stops (n₀ := wb.heap.size) (B1 := wb.heap.size) (B2 := wb.heap.size + 1) (m := 3) hI (Rb.later Bc) (by simp; omega) (by simp; omega) (by simp) (rowOf_boxed bb1) (rowOf_boxed b2) ((Bc.cell (p := ⟨w.heap.size + 1, 0, none⟩) (by simp; omega)).trans cb) (by omega) (by omega) (by omega) hN) KpB.trans (KpB.book (by simp; omega) (by simp; omega) (by simp)) (Below.refl _ _) (fun _ => rfl)
    (fun pre W => (∃ v1 v2, Got wb.heap.size wb.heap.size (wb.heap.size + 1) wb pre W v1 v2) ∧ UpTo k pre)
    (fun c ys W => c = .exit 0 ∧ Left wb.heap.size wb.heap.size (wb.heap.size + 1) wb k ys W)
    (gotk_own (Nat.le_refl _) (by simp; omega))
    (fun c => left_own (Nat.le_refl _) (by simp; omega) c _)
    ⟨⟨_, _, bb1, b2, World.ownsRow_nil _ _ _ _, World.ownsRow_nil _ _ _ _, Bc⟩, .inr rfl⟩
    (fun x => { tmps := #[.pointer (some ⟨r, 0, none⟩), .int .i64 k, undef, .pointer (some ⟨w.heap.size, 0, none⟩), .slice none 0 0, .slice none 0 0, .func (.func 39) #[] #[.pointer (some ⟨w.heap.size + 1, 0, none⟩)], .pointer (some ⟨wb.heap.size, 0, none⟩), .pointer (some ⟨wb.heap.size + 1, 0, none⟩), encStr x.1.1, .pointer (some ⟨x.1.2.1, 0, none⟩), .pointer (some ⟨r, 0, none⟩), .func (.func 39) #[] #[.pointer (some ⟨w.heap.size + 1, 0, none⟩)], .func (.func 39) #[] #[.pointer (some ⟨w.heap.size + 1, 0, none⟩)], .bool false, .func (.func 39) #[] #[.pointer (some ⟨w.heap.size + 1, 0, none⟩)], encStr x.1.1, .pointer (some ⟨x.1.2.1, 0, none⟩), undef, undef, undef, undef, undef, undef, undef, undef, undef, undef, undef, undef, undef, undef, undef, undef, undef], defers := [] }) ?assign ?body ?done ?stop
  case assign =>
    intro l x W K hK
    gi_wp2
    exact hK
  case body =>
    rintro l pre x W ⟨⟨v1, v2, hG⟩, hup0⟩ hlt
    have hck : W.cell? ⟨w.heap.size, 0, none⟩ = some (.int .i64 k) := (hG.below.cell (p := ⟨w.heap.size, 0, none⟩) (by simp; omega)).trans ck
    obtain ⟨a1, c1', hv1⟩ := row_form hG.row1
    subst hv1
    have hc1 := hG.box1.cell
    by_cases hkl : k ≤ (pre.length : Int)
    · have dk : decide (k ≤ (pre.length : Int)) = true := decide_eq_true hkl
      gi_wp2
      exact ⟨KeepsFrom.refl _ _, rfl, pre, x, rfl, ⟨_, _, hG⟩, hup0, hkl⟩
    · have dk : decide (k ≤ (pre.length : Int)) = false := decide_eq_false hkl
      have hup : UpTo k (pre ++ [x]) := .inl (by simp; omega)
      obtain ⟨g1, cap1, w1, g2, cap2, w2, run1, c1, f1, run2, c2, f2, c3, c4, bl1, fin⟩ := got_step hG x (Nat.le_refl _) (Nat.le_refl _) (by omega) (by omega) (by omega)
      have hx : W.cell? ⟨x.1.2.1, 0, none⟩ = some (.int .u64 x.1.2.2) := by
        have := block_lt_of_cell x.2
        exact (((Bb.trans (hG.below.mono (by omega))).cell (p := ⟨x.1.2.1, 0, none⟩) this).trans x.2)
      have hx' : (w1.setCell ⟨wb.heap.size, 0, none⟩ (.slice (some ⟨g1, 0, none⟩) (pre.length + 1) cap1)).cell? ⟨x.1.2.1, 0, none⟩ = some (.int .u64 x.1.2.2) := (bl1.cell (p := ⟨x.1.2.1, 0, none⟩) (by have := block_lt_of_cell x.2; simp at this ⊢; omega)).trans hx
      clear hG bl1 hx hup0
      have hup := hide hup
      gi_wp2_with (gi_at_builtin; refine wpListIn_append_eq rfl (.tmp 22) (.tmp 24) 51 rfl (by rfl) (by rfl) run1 ?_)
      clear run1 c1 f1
      refine wpIn_region_any (by kernel_rfl) ?_
      change wpAnyIn _ _ _ _ _ _ _ _ _ (World.drew _)
      refine wpAnyIn_ready (rs := [0, 1]) (by kernel_rfl) (by simp) ?_
      refine AllReadyIn.cons rfl (fun K hK => ?_) ?_
      · go_simp
        refine hK _ _ ?_
        clear hK K
        refine wpAnyIn_ready (rs := [1]) (by kernel_rfl) (by simp) ?_
        refine AllReadyIn.cons rfl (fun K hK => ?_) ?_
        · go_simp
          refine hK _ _ ?_
          clear hK K
          refine wpAnyIn_ready (rs := [2]) (by kernel_rfl) (by simp) ?_
          refine AllReadyIn.cons rfl (fun K hK => ?_) ?_
          · go_simp
            refine hK _ _ ?_
            clear hK K
            refine wpAnyIn_ready (rs := [3]) (by kernel_rfl) (by simp) ?_
            refine AllReadyIn.cons rfl (fun K hK => ?_) ?_
            · go_simp
              refine hK _ _ ?_
              clear hK K
              refine wpAnyIn_ready (rs := [4]) (by kernel_rfl) (by simp) ?_
              refine AllReadyIn.cons rfl (fun K hK => ?_) ?_
              · go_simp
                refine hK _ _ ?_
                clear hK K
                refine wpAnyIn_ready (rs := [5]) (by kernel_rfl) (by simp) ?_
                refine AllReadyIn.cons rfl (fun K hK => ?_) ?_
                · go_simp
                  refine hK _ _ ?_
                  clear hK K
                  refine wpAnyIn_ready (rs := [6]) (by kernel_rfl) (by simp) ?_
                  refine AllReadyIn.cons rfl (fun K hK => ?_) AllReadyIn.nil
                  refine stepIn_append_eq rfl (.tmp 26) (.tmp 31) 52 rfl (by rfl) (by rfl) run2 ?_
                  refine hK _ _ ?_
                  clear hK K
                  refine wpAnyIn_ready (rs := [7]) (by kernel_rfl) (by simp) ?_
                  refine AllReadyIn.cons rfl (fun K hK => ?_) AllReadyIn.nil
                  go_simp
                  refine hK _ _ ?_
                  clear hK K
                  refine wpAnyIn_done (by kernel_rfl) ?_ _
                  exact ⟨fin.out.1.from _, fin.out.2.1, ⟨_, _, fin.out.2.2⟩, hup.out⟩
                exact AllReadyIn.nil
              exact AllReadyIn.nil
            exact AllReadyIn.nil
          exact AllReadyIn.nil
        exact AllReadyIn.nil
      refine AllReadyIn.cons rfl (fun K hK => ?_) ?_
      · go_simp
        refine hK _ _ ?_
        clear hK K
        refine wpAnyIn_ready (rs := [0, 2]) (by kernel_rfl) (by simp) ?_
        refine AllReadyIn.cons rfl (fun K hK => ?_) ?_
        · go_simp
          refine hK _ _ ?_
          clear hK K
          refine wpAnyIn_ready (rs := [2]) (by kernel_rfl) (by simp) ?_
          refine AllReadyIn.cons rfl (fun K hK => ?_) ?_
          · go_simp
            refine hK _ _ ?_
            clear hK K
            refine wpAnyIn_ready (rs := [3]) (by kernel_rfl) (by simp) ?_
            refine AllReadyIn.cons rfl (fun K hK => ?_) ?_
            · go_simp
              refine hK _ _ ?_
              clear hK K
              refine wpAnyIn_ready (rs := [4]) (by kernel_rfl) (by simp) ?_
              refine AllReadyIn.cons rfl (fun K hK => ?_) ?_
              · go_simp
                refine hK _ _ ?_
                clear hK K
                refine wpAnyIn_ready (rs := [5]) (by kernel_rfl) (by simp) ?_
                refine AllReadyIn.cons rfl (fun K hK => ?_) ?_
                · go_simp
                  refine hK _ _ ?_
                  clear hK K
                  refine wpAnyIn_ready (rs := [6]) (by kernel_rfl) (by simp) ?_
                  refine AllReadyIn.cons rfl (fun K hK => ?_) AllReadyIn.nil
                  refine stepIn_append_eq rfl (.tmp 26) (.tmp 31) 52 rfl (by rfl) (by rfl) run2 ?_
                  refine hK _ _ ?_
                  clear hK K
                  refine wpAnyIn_ready (rs := [7]) (by kernel_rfl) (by simp) ?_
                  refine AllReadyIn.cons rfl (fun K hK => ?_) AllReadyIn.nil
                  go_simp
                  refine hK _ _ ?_
                  clear hK K
                  refine wpAnyIn_done (by kernel_rfl) ?_ _
                  exact ⟨fin.out.1.from _, fin.out.2.1, ⟨_, _, fin.out.2.2⟩, hup.out⟩
                exact AllReadyIn.nil
              exact AllReadyIn.nil
            exact AllReadyIn.nil
          exact AllReadyIn.nil
        refine AllReadyIn.cons rfl (fun K hK => ?_) ?_
        · go_simp
          refine hK _ _ ?_
          clear hK K
          refine wpAnyIn_ready (rs := [0, 3]) (by kernel_rfl) (by simp) ?_
          refine AllReadyIn.cons rfl (fun K hK => ?_) ?_
          · go_simp
            refine hK _ _ ?_
            clear hK K
            refine wpAnyIn_ready (rs := [3]) (by kernel_rfl) (by simp) ?_
            refine AllReadyIn.cons rfl (fun K hK => ?_) ?_
            · go_simp
              refine hK _ _ ?_
              clear hK K
              refine wpAnyIn_ready (rs := [4]) (by kernel_rfl) (by simp) ?_
              refine AllReadyIn.cons rfl (fun K hK => ?_) ?_
              · go_simp
                refine hK _ _ ?_
                clear hK K
                refine wpAnyIn_ready (rs := [5]) (by kernel_rfl) (by simp) ?_
                refine AllReadyIn.cons rfl (fun K hK => ?_) ?_
                · go_simp
                  refine hK _ _ ?_
                  clear hK K
                  refine wpAnyIn_ready (rs := [6]) (by kernel_rfl) (by simp) ?_
                  refine AllReadyIn.cons rfl (fun K hK => ?_) AllReadyIn.nil
                  refine stepIn_append_eq rfl (.tmp 26) (.tmp 31) 52 rfl (by rfl) (by rfl) run2 ?_
                  refine hK _ _ ?_
                  clear hK K
                  refine wpAnyIn_ready (rs := [7]) (by kernel_rfl) (by simp) ?_
                  refine AllReadyIn.cons rfl (fun K hK => ?_) AllReadyIn.nil
                  go_simp
                  refine hK _ _ ?_
                  clear hK K
                  refine wpAnyIn_done (by kernel_rfl) ?_ _
                  exact ⟨fin.out.1.from _, fin.out.2.1, ⟨_, _, fin.out.2.2⟩, hup.out⟩
                exact AllReadyIn.nil
              exact AllReadyIn.nil
            exact AllReadyIn.nil
          refine AllReadyIn.cons rfl (fun K hK => ?_) ?_
          · go_simp
            refine hK _ _ ?_
            clear hK K
            refine wpAnyIn_ready (rs := [0, 4]) (by kernel_rfl) (by simp) ?_
            refine AllReadyIn.cons rfl (fun K hK => ?_) ?_
            · go_simp
              refine hK _ _ ?_
              clear hK K
              refine wpAnyIn_ready (rs := [4]) (by kernel_rfl) (by simp) ?_
              refine AllReadyIn.cons rfl (fun K hK => ?_) ?_
              · go_simp
                refine hK _ _ ?_
                clear hK K
                refine wpAnyIn_ready (rs := [5]) (by kernel_rfl) (by simp) ?_
                refine AllReadyIn.cons rfl (fun K hK => ?_) ?_
                · go_simp
                  refine hK _ _ ?_
                  clear hK K
                  refine wpAnyIn_ready (rs := [6]) (by kernel_rfl) (by simp) ?_
                  refine AllReadyIn.cons rfl (fun K hK => ?_) AllReadyIn.nil
                  refine stepIn_append_eq rfl (.tmp 26) (.tmp 31) 52 rfl (by rfl) (by rfl) run2 ?_
                  refine hK _ _ ?_
                  clear hK K
                  refine wpAnyIn_ready (rs := [7]) (by kernel_rfl) (by simp) ?_
                  refine AllReadyIn.cons rfl (fun K hK => ?_) AllReadyIn.nil
                  go_simp
                  refine hK _ _ ?_
                  clear hK K
                  refine wpAnyIn_done (by kernel_rfl) ?_ _
                  exact ⟨fin.out.1.from _, fin.out.2.1, ⟨_, _, fin.out.2.2⟩, hup.out⟩
                exact AllReadyIn.nil
              exact AllReadyIn.nil
            refine AllReadyIn.cons rfl (fun K hK => ?_) ?_
            · go_simp
              refine hK _ _ ?_
              clear hK K
              refine wpAnyIn_ready (rs := [0, 5]) (by kernel_rfl) (by simp) ?_
              refine AllReadyIn.cons rfl (fun K hK => ?_) ?_
              · go_simp
                refine hK _ _ ?_
                clear hK K
                refine wpAnyIn_ready (rs := [5]) (by kernel_rfl) (by simp) ?_
                refine AllReadyIn.cons rfl (fun K hK => ?_) ?_
                · go_simp
                  refine hK _ _ ?_
                  clear hK K
                  refine wpAnyIn_ready (rs := [6]) (by kernel_rfl) (by simp) ?_
                  refine AllReadyIn.cons rfl (fun K hK => ?_) AllReadyIn.nil
                  refine stepIn_append_eq rfl (.tmp 26) (.tmp 31) 52 rfl (by rfl) (by rfl) run2 ?_
                  refine hK _ _ ?_
                  clear hK K
                  refine wpAnyIn_ready (rs := [7]) (by kernel_rfl) (by simp) ?_
                  refine AllReadyIn.cons rfl (fun K hK => ?_) AllReadyIn.nil
                  go_simp
                  refine hK _ _ ?_
                  clear hK K
                  refine wpAnyIn_done (by kernel_rfl) ?_ _
                  exact ⟨fin.out.1.from _, fin.out.2.1, ⟨_, _, fin.out.2.2⟩, hup.out⟩
                exact AllReadyIn.nil
              refine AllReadyIn.cons rfl (fun K hK => ?_) ?_
              · go_simp
                refine hK _ _ ?_
                clear hK K
                refine wpAnyIn_ready (rs := [0]) (by kernel_rfl) (by simp) ?_
                refine AllReadyIn.cons rfl (fun K hK => ?_) ?_
                · go_simp
                  refine hK _ _ ?_
                  clear hK K
                  refine wpAnyIn_ready (rs := [6]) (by kernel_rfl) (by simp) ?_
                  refine AllReadyIn.cons rfl (fun K hK => ?_) AllReadyIn.nil
                  refine stepIn_append_eq rfl (.tmp 26) (.tmp 31) 52 rfl (by rfl) (by rfl) run2 ?_
                  refine hK _ _ ?_
                  clear hK K
                  refine wpAnyIn_ready (rs := [7]) (by kernel_rfl) (by simp) ?_
                  refine AllReadyIn.cons rfl (fun K hK => ?_) AllReadyIn.nil
                  go_simp
                  refine hK _ _ ?_
                  clear hK K
                  refine wpAnyIn_done (by kernel_rfl) ?_ _
                  exact ⟨fin.out.1.from _, fin.out.2.1, ⟨_, _, fin.out.2.2⟩, hup.out⟩
                exact AllReadyIn.nil
              exact AllReadyIn.nil
            exact AllReadyIn.nil
          exact AllReadyIn.nil
        exact AllReadyIn.nil
      exact AllReadyIn.nil
  case done =>
    rintro D ys W hD rfl ⟨⟨v1, v2, hG⟩, hup⟩ hK
    have hc1 := hG.box1.cell
    have hc2 := hG.box2.cell
    have hT : ys.take k.toNat = ys := by
      refine List.take_of_length_le ?_
      rcases hup with h | h <;> omega
    have hT := hide hT
    gi_wp2
    gi_region
    gi_wp2
    refine ⟨by simp, .inl ⟨_, _, rfl, run_takeDeferred (w := W.drew) hK, ?_⟩⟩
    rw [← szb.out, hT.out]
    refine ⟨_, results_tmp2 rfl _ _ _, v1, v2, rfl, ownsRow_putObj (W := W.drew) hG.row1 _ hK rfl, ownsRow_putObj (W := W.drew) hG.row2 _ hK rfl, ?_⟩
    simp at hD
    exact (Bb.trans (hG.below.mono (by omega))).trans ((Below.refl _ W).drew.trans (belowK_b (w := wb) (by omega) W.drew D _ _ (by omega) hK rfl rfl))
  case stop =>
    rintro D c ys W hD hpre ⟨rfl, pre, x, rfl, ⟨v1, v2, hG⟩, hup, hkl⟩ hK
    have hc1 := hG.box1.cell
    have hc2 := hG.box2.cell
    have hT : L.take k.toNat = pre := by
      obtain ⟨rest, rfl⟩ := hpre
      have e : k.toNat = pre.length := by rcases hup with h | h <;> omega
      rw [e]
      simp
    have hT := hide hT
    gi_wp2
    gi_region
    gi_wp2
    refine ⟨by simp, .inl ⟨_, _, rfl, run_takeDeferred (w := W.drew) hK, ?_⟩⟩
    rw [← szb.out, hT.out]
    refine ⟨_, results_tmp2 rfl _ _ _, v1, v2, rfl, ownsRow_putObj (W := W.drew) hG.row1 _ hK rfl, ownsRow_putObj (W := W.drew) hG.row2 _ hK rfl, ?_⟩
    simp at hD
    exact (Bb.trans (hG.below.mono (by omega))).trans ((Below.refl _ W).drew.trans (belowK_b (w := wb) (by omega) W.drew D _ _ (by omega) hK rfl rfl))
end Go.Proofs.Qxb6616937a
