/-
  ONE APPEND TO ONE OF TWO BOXED SLICES: what the walk wants ahead, and what stands behind it.
-/
import Derived.Test.Qxb6616937aSeq
import Derived.Deep.AppendLies
namespace Go.Proofs.Qxb6616937a
open Go.RowKit Go.Maps Go.Sort Go.Shelf

/-- Two rows of different element types lie in different blocks. -/
theorem rows_apart {W : World} {base base' e e' size size' n n' : Nat} {v v' : Value} {xs xs' : List Value} (h : W.ownsRow base e size v n xs) (h' : W.ownsRow base' e' size' v' n' xs') (he : e ≠ e') (h0 : v.ownBlock = v'.ownBlock) : v.ownBlock = Option.none := by
  rcases h.2 with ⟨rfl, _⟩ | ⟨g, cap, cur, rfl, _, hgb, _⟩
  · rfl
  · rcases h'.2 with ⟨rfl, _⟩ | ⟨g', cap', cur', rfl, _, hgb', _⟩
    · exact h0
    · simp [Value.ownBlock] at h0
      subst h0
      rw [hgb] at hgb'
      simp at hgb'
      exact absurd hgb'.2 he

theorem kept_other {W w1 : World} {base base' e e' size size' n n' : Nat} {v v' : Value} {xs xs' : List Value} (h : W.ownsRow base e size v n xs) (h' : W.ownsRow base' e' size' v' n' xs') (he : e' ≠ e) (hg : W.grownBy w1 v.ownBlock) : w1.ownsRow base' e' size' v' n' xs' := by
  refine h'.kept hg ?_
  rcases h'.2 with ⟨rfl, _⟩ | ⟨g', cap', cur', rfl, _, hgb', _⟩
  · exact .inl rfl
  · refine .inr fun e0 => ?_
    have := rows_apart h' h he e0
    simp [Value.ownBlock] at this

/-- Behind one append and the store into its box. -/
structure Appended (n₀ B Bo : Nat) (t to e eo : TypeId) (W w1 : World) (v vo v' : Value) (k ko : Nat) (xs xso : List Value) (x : Value) : Prop where
  cell : w1.cell? ⟨B, 0, none⟩ = some v
  frozen : w1.frozen? ⟨B, 0, none⟩ = false
  box : Boxed (w1.setCell ⟨B, 0, none⟩ v') B t v'
  row : (w1.setCell ⟨B, 0, none⟩ v').ownsRow n₀ e 1 v' (k + 1) (xs ++ [x])
  boxo : Boxed (w1.setCell ⟨B, 0, none⟩ v') Bo to vo
  rowo : (w1.setCell ⟨B, 0, none⟩ v').ownsRow n₀ eo 1 vo ko xso
  keeps : KeepsOthers W (w1.setCell ⟨B, 0, none⟩ v')
  below : Below n₀ W (w1.setCell ⟨B, 0, none⟩ v')
  rest : ∀ i, i < W.heap.size → i ≠ B → v.ownBlock ≠ some i → (w1.setCell ⟨B, 0, none⟩ v').heap[i]? = W.heap[i]?
  new : ∀ j, v'.ownBlock = some j → v.ownBlock = some j ∨ W.heap.size ≤ j

theorem app_step {n₀ B Bo : Nat} {t to e eo : TypeId} {z : Value} {bytes : Nat} (ty : TypeId) (ht : Try.prog.underlying t = some (.slice e)) (hinfo : (Try.prog.info? e).map (fun i => (i.zero, i.size, i.bytes)) = some (some z, 1, bytes)) (hz : z.cells.size = 1)
    (hte : t ≠ e) (hto : t ≠ eo) (hoe : to ≠ e) (hee : eo ≠ e) (hBB : Bo ≠ B) {W : World} {v vo : Value} {k ko : Nat} {xs xso : List Value} (x : Value) (hx : x.oneCell' = true)
    (hv : Boxed W B t v) (hvo : Boxed W Bo to vo) (hrow : W.ownsRow n₀ e 1 v k xs) (hrowo : W.ownsRow n₀ eo 1 vo ko xso) (hn₀ : n₀ ≤ W.heap.size) (hB : n₀ ≤ B) (h63 : k + 1 ≤ maxLen) (hby : (k + 1) * bytes ≤ 140737488355328) :
    ∃ g cap w1, (Builtin.append_ #[t, t] ty #[v, .slice (some ⟨W.heap.size, 0, none⟩) 1 1]).run Try.prog (W.alloc (.cells #[x] e)) = .ok (.slice (some ⟨g, 0, none⟩) (k + 1) cap) w1 ∧
      Appended n₀ B Bo t to e eo W w1 v vo (.slice (some ⟨g, 0, none⟩) (k + 1) cap) k ko xs xso x := by
  obtain ⟨i0, hi, hz0, hz1, hz2⟩ := info_parts hinfo
  obtain ⟨g, cap, w1, hrun, hown', hgrow, hat, hlt⟩ := run_append_lies (P := Try.prog) (W.alloc (.cells #[x] e)) t ty n₀ e i0 z 1 bytes ht hi hz0 hz1 hz2 hz (by decide) v k xs (hrow.alloc _) ⟨W.heap.size, 0, none⟩ 1 1 [x] rfl (cell_one_new _ _ _) (by simp [hx]) (by decide) h63 hby (by simp; omega) (W.heap.size + 1) (by simp)
  obtain ⟨hv1, hv2, hr2, hk2, hb2⟩ := hv.appended hte hrow hn₀ hB hown' hgrow
  have hvo1 : Boxed w1 Bo to vo := (hvo.alloc _).kept hgrow (hvo.not_row hoe hrow)
  have hro1 : w1.ownsRow n₀ eo 1 vo ko xso := kept_other (hrow.alloc _) (hrowo.alloc _) hee hgrow
  refine ⟨g, cap, w1, hrun, hv1.cell, hv1.frozen, hv2, hr2, hvo1.kept (grownBy_setCell' w1 B _) (by simp; omega), hro1.kept (grownBy_setCell' w1 B _) (.inr (hv1.not_row hto hro1).symm), hk2, hb2, fun i hi' hiB hiv => ?_, fun j hj => ?_⟩
  · rw [(grownBy_setCell' w1 B _).block i (by have := hgrow.size; simp at this; omega) (by simp; omega), hgrow.block i (by simp; omega) (fun e' => hiv e'.symm)]
    exact Below.heap_alloc W _ i hi'
  · simp [Value.ownBlock] at hj
    subst hj
    rcases hat with h | h
    · exact .inl h
    · exact .inr (by omega)

theorem rowOf_boxed {W : World} {B : Nat} {t : TypeId} {v : Value} (h : Boxed W B t v) : rowOf W B = v.ownBlock := by unfold rowOf; rw [h.cell]; rfl

theorem Appended.kp1 {n₀ B Bo : Nat} {t to e eo : TypeId} {W w1 : World} {v vo v' : Value} {k ko : Nat} {xs xso : List Value} {x : Value} (h : Appended n₀ B Bo t to e eo W w1 v vo v' k ko xs xso x) (hv : Boxed W B t v) (hvo : Boxed W Bo to vo) : KpB n₀ B Bo W (w1.setCell ⟨B, 0, none⟩ v') := by
  refine ⟨h.below, fun i o hi _ hm => ?_, fun j hj => ?_, fun j hj => .inl ?_⟩
  · refine (h.rest i (Array.getElem?_eq_some_iff.1 hi).1 (fun e => hm (.inl e)) (fun e => hm (.inr (.inr (.inl ?_))))).trans hi
    rw [rowOf_boxed hv]; exact e
  · rw [rowOf_boxed h.box] at hj
    rw [rowOf_boxed hv]
    exact h.new j hj
  · rw [rowOf_boxed h.boxo] at hj
    rw [rowOf_boxed hvo]; exact hj

theorem KpB.swap {n₀ B1 B2 : Nat} {W W' : World} (h : KpB n₀ B1 B2 W W') : KpB n₀ B2 B1 W W' :=
  ⟨h.below, fun i o hi ho hm => h.cells i o hi ho (fun m => hm (by rcases m with m | m | m | m <;> simp [Mine, m])), h.row2, h.row1⟩
end Go.Proofs.Qxb6616937a
