/-
  ZZfollowers, ZZfollowersUpTo: what the iterator yields, collected.
-/
import Derived.Test.Qxb6616937aApp
namespace Go.Proofs.Qxb6616937a
open Go.RowKit Go.Maps Go.Sort Go.Shelf
attribute [local go_sem] Oper.semAt_some

/-- The two appends of this text: names that the walk does not open. -/
def app51 (args : Array Value) : Sem Value := Builtin.append_ #[51, 51] 51 args
def app52 (args : Array Value) : Sem Value := Builtin.append_ #[52, 52] 52 args

/-- An append by its run's equation. -/
theorem wpIn_append_eq {F : Fence} {n : Nat} {P : Program} {o : Oper} {a : Act} {w w' : World} {K : Act → World → Prop} {Q : Exit → Act → World → Prop} (s x : Operand) (t : TypeId) (hop : o.op = Op.call { callee := Callee.builtin Builtin.append, args := #[s, x], argTypes := #[t, t] })
    {v y v' : Value} (hs : a.eval s = v) (hx : a.eval x = y) (hrun : (Builtin.append_ #[t, t] o.type #[v, y]).run P w = .ok v' w') (hK : K (a.put o.dst v') w') : Oper.wpIn F n P o a w K Q := by
  unfold Oper.wpIn
  refine ⟨?_, ?_⟩
  · simp [Oper.about, hop, resolve, Target.leads, Sem.run_pure]
  · rw [Oper.semAt_plain F _ _ (by rw [hop]; intro c hc'; cases hc')]
    simp [execOp, hop, resolve, invoke, builtin, hs, hx, hrun, Result.andThen]
    exact hK

theorem wpListIn_append_eq {F : Fence} {n : Nat} {P : Program} {ops : Array Oper} {rest : List Oper} {o : Oper} {a : Act} {w w' : World} {Q : Exit → Act → World → Prop} (hg : o.guard = none) (s x : Operand) (t : TypeId) (hop : o.op = Op.call { callee := Callee.builtin Builtin.append, args := #[s, x], argTypes := #[t, t] })
    {v y v' : Value} (hs : a.eval s = v) (hx : a.eval x = y) (hrun : (Builtin.append_ #[t, t] o.type #[v, y]).run P w = .ok v' w') (hK : wpListIn F n P ops Q rest (a.put o.dst v') w') : wpListIn F n P ops Q (o :: rest) a w :=
  wpListIn_plain hg fun _ hK' => wpIn_append_eq s x t hop hs hx hrun (hK' _ _ hK)

theorem stepIn_append_eq {F : Fence} {n : Nat} {P : Program} {ops : Array Oper} {o : Oper} {a : Act} {w w' : World} {K : Act → World → Prop} {Q : Exit → Act → World → Prop} {E : Prop} (hg : o.guard = none) (s x : Operand) (t : TypeId) (hop : o.op = Op.call { callee := Callee.builtin Builtin.append, args := #[s, x], argTypes := #[t, t] })
    {v y v' : Value} (hs : a.eval s = v) (hx : a.eval x = y) (hrun : (Builtin.append_ #[t, t] o.type #[v, y]).run P w = .ok v' w') (hK : K (a.put o.dst v') w') : if Region.wanted o (yielded ops a.tmps) = true then Oper.wpIn F n P o a w K Q else E := by
  have hw : Region.wanted o (yielded ops a.tmps) = true := by simp [Region.wanted, hg]
  rw [if_pos hw]
  exact wpIn_append_eq s x t hop hs hx hrun hK

/-- The items of the map: its keys, sorted, each with its progress. -/
structure Items (w : World) (n : Nat) (S : Nat → ByteArray) (M : Nat → Int) (D : DataW Unit) (L : List (Item w)) : Prop where
  keys : L.map (·.1.1) = (strKeys D).mergeSort leB
  at_ : ∀ x ∈ L, ∀ z, D.atKey (.string x.1.1) z = .lit (.int .i64 (x.1.2.1 : Int))
  len : ∀ x ∈ L, x.1.1.length ≤ maxLen
  last : ∀ x ∈ L, lastOf S M n x.1.1 = some x.1.2.2

theorem has_of_strKeys {D : DataW Unit} {s : List UInt8} (hk : ∃ es, D = .map es ∧ ∀ p ∈ es, KeysOf Try.prog 9 p.1) (h : s ∈ strKeys D) : has D (.string s) = true := by
  obtain ⟨es, rfl, hk⟩ := hk
  obtain ⟨p, hp, rfl⟩ := List.mem_map.1 h
  obtain ⟨v, hv⟩ := hk p hp
  obtain ⟨x, _, hx, _⟩ := Maps.keyOf_str Try.underlying9 hv
  rw [has_eq, List.any_eq_true]
  refine ⟨p, hp, ?_⟩
  rw [hx]
  simp [strOf, Lit.sameKey]

theorem run_equalIn_nilFunc (d f : Nat) (lb : Array Value) (w : World) : (Op.equalIn (d + 1) 113 (.func (.func f) #[] lb) .nilFunc).run Try.prog w = .ok false w := by
  unfold Op.equalIn
  simp [run_underlying Try.underlying113, Result.andThen]

theorem run_eq_nilFunc (f : Nat) (lb : Array Value) (w : World) : (binOp .eql 113 (.func (.func f) #[] lb) .nilFunc).run Try.prog w = .ok (.bool false) w := by
  have h := run_equalIn_nilFunc (Op.maxDepth - 1) f lb w
  rw [show Op.maxDepth - 1 + 1 = Op.maxDepth from rfl] at h
  show (do pure (.bool (← Op.equal 113 (.func (.func f) #[] lb) .nilFunc)) : Sem Value).run Try.prog w = _
  unfold Op.equal
  simp [h, Result.andThen]

theorem KpB.drew0 (n₀ B1 B2 : Nat) (W : World) : KpB n₀ B1 B2 W W.drew := ⟨(Below.refl n₀ W).drew, fun _ _ hi _ _ => hi, fun _ hj => .inl hj, fun _ hj => .inl hj⟩

theorem items_of {w : World} {b n : Nat} {S : Nat → ByteArray} {M : Nat → Int} {D : DataW Unit} (h : MapIs w b n S M D) : ∃ L : List (Item w), Items w n S M D L := by
  have key : ∀ T : List (List UInt8), (∀ s ∈ T, s ∈ strKeys D) → ∃ L : List (Item w), L.map (·.1.1) = T ∧ (∀ x ∈ L, ∀ z, D.atKey (.string x.1.1) z = .lit (.int .i64 (x.1.2.1 : Int))) ∧ (∀ x ∈ L, x.1.1.length ≤ maxLen) ∧ (∀ x ∈ L, lastOf S M n x.1.1 = some x.1.2.2) := by
    intro T
    induction T with
    | nil => exact fun _ => ⟨[], rfl, by simp, by simp, by simp⟩
    | cons s T ih =>
      intro hT
      obtain ⟨L, h1, h2, h3, h4⟩ := ih (fun s' hs' => hT s' (by simp [hs']))
      have hs := hT s (by simp)
      cases e : lastOf S M n s with
      | none =>
        have := h.miss s e
        rw [has_of_strKeys h.own.keysOf hs] at this
        cases this
      | some m =>
        obtain ⟨g, a1, _, a3⟩ := h.hit s m e
        refine ⟨⟨(s, g, m), a3⟩ :: L, by simp [h1], ?_, ?_, ?_⟩
        · intro x hx z
          rcases List.mem_cons.1 hx with rfl | hx
          · exact a1 z
          · exact h2 x hx z
        · intro x hx
          rcases List.mem_cons.1 hx with rfl | hx
          · exact strKeys_le h.own Try.underlying9 s hs
          · exact h3 x hx
        · intro x hx
          rcases List.mem_cons.1 hx with rfl | hx
          · exact e
          · exact h4 x hx
  obtain ⟨L, h1, h2, h3, h4⟩ := key ((strKeys D).mergeSort leB) (fun s hs => (List.mergeSort_perm _ _).mem_iff.1 hs)
  exact ⟨L, h1, h2, h3, h4⟩

set_option maxHeartbeats 1000000 in
theorem followers_in (m : Nat) (p : Option Addr) (w : World) :
    CallsIn Fence.wide m Try.prog 32 #[.pointer p] w fun e w' => e = .returned (.func (.func 39) #[] #[.pointer (some ⟨w.heap.size, 0, none⟩)]) ∧ w' = w.alloc (.cells #[.pointer p] 40) := by
  refine callsIn_of_wp Try.func32 rfl trivial ?_ rfl
  simp only [Try.ntmps32, List.size_toArray, List.length_cons, List.length_nil, Nat.reduceAdd, Nat.reduceSub, Array.replicate_succ, Array.replicate_zero, List.push_toArray, List.append_toArray, List.nil_append, List.cons_append]
  gi_wp2
  go_ret
  exact ⟨rfl, rfl⟩

theorem follow_stops {r b n n₀ B1 B2 Bn m : Nat} {S : Nat → ByteArray} {M : Nat → Int} {D : DataW Unit} {w₀ w : World} {L : List (Item w₀)} (hI : Items w₀ n S M D L) (hR : RepIs w r b n S M D)
    (hn₀ : n₀ ≤ w.heap.size) (hB1 : B1 < w.heap.size) (hB2 : B2 < w.heap.size) (nil1 : rowOf w B1 = Option.none) (nil2 : rowOf w B2 = Option.none)
    (hbox : w.cell? ⟨Bn, 0, none⟩ = some (.pointer (some ⟨r, 0, none⟩))) (hBn : Bn < n₀) (hr : r < n₀) (hb : b < n₀) (hN : n ≤ 1048576) :
    SeqStopsK Fence.wide (m + 1) Try.prog 39 #[.pointer (some ⟨Bn, 0, none⟩)] encI (KpB n₀ B1 B2) (fun ys => ys = L) (fun pre => pre <+: L) L.length w := by
  intro l J Jx W hW hJ _ hY h0
  have hR' := hR.later hW
  have hsz := hW.size
  refine follow_in l Bn r b n n₀ B1 B2 m D w₀ L J Jx W hI.keys hI.at_ hI.len hJ hY (by omega) (by omega) (by omega) ?_ ?_ ((hW.cell (p := ⟨Bn, 0, none⟩) (by simp; omega)).trans hbox) hBn hr hR'.at_ hR'.map.own hb hN h0
  · unfold rowOf at nil1 ⊢; rwa [hW.cell (p := ⟨B1, 0, none⟩) hB1]
  · unfold rowOf at nil2 ⊢; rwa [hW.cell (p := ⟨B2, 0, none⟩) hB2]

theorem Try.info9' : (Try.prog.info? 9).map (fun i => (i.zero, i.size, i.bytes)) = some (some (.string ⟨#[]⟩), 1, 16) := by kernel_rfl
theorem Try.info22' : (Try.prog.info? 22).map (fun i => (i.zero, i.size, i.bytes)) = some (some (.int .u64 0), 1, 8) := by kernel_rfl

/-- What the two boxes hold when pre has been collected. -/
structure Got {w₀ : World} (n₀ B1 B2 : Nat) (w : World) (pre : List (Item w₀)) (W : World) (v1 v2 : Value) : Prop where
  box1 : Boxed W B1 51 v1
  box2 : Boxed W B2 52 v2
  row1 : W.ownsRow n₀ 9 1 v1 pre.length (pre.map fun x => encStr x.1.1)
  row2 : W.ownsRow n₀ 22 1 v2 pre.length (pre.map fun x => .int .u64 x.1.2.2)
  below : Below n₀ w W

theorem got_own {w₀ : World} {n₀ B1 B2 B : Nat} {w : World} (h1 : n₀ ≤ w.heap.size) (h2 : n₀ ≤ B) : OwnFrom B (fun (pre : List (Item w₀)) W => ∃ v1 v2, Got n₀ B1 B2 w pre W v1 v2) := by
  rintro s W W' row ⟨v1, v2, b1, b2, r1, r2, bl⟩ hg hr
  obtain ⟨_, b1', r1', rfl⟩ := holdsRow_own n₀ B1 51 9 1 (fun pre : List (Item w₀) => pre.length) (fun pre => pre.map fun x => encStr x.1.1) (fun _ v => v = v1) s W W' row ⟨v1, b1, r1, rfl⟩ hg (fun r e => (hr r e).2)
  obtain ⟨_, b2', r2', rfl⟩ := holdsRow_own n₀ B2 52 22 1 (fun pre : List (Item w₀) => pre.length) (fun pre => pre.map fun x => .int .u64 x.1.2.2) (fun _ v => v = v2) s W W' row ⟨v2, b2, r2, rfl⟩ hg (fun r e => (hr r e).2)
  exact ⟨_, _, b1', b2', r1', r2', ownFrom_below h1 h2 s W W' row bl hg hr⟩

/-- One round's two appends. -/
theorem got_step {w₀ w W : World} {n₀ B1 B2 : Nat} {pre : List (Item w₀)} {v1 v2 : Value} (h : Got n₀ B1 B2 w pre W v1 v2) (x : Item w₀) (hn : n₀ ≤ w.heap.size) (hB1 : n₀ ≤ B1) (hB2 : n₀ ≤ B2) (hne : B1 ≠ B2) (hl : pre.length < 1048577) :
    ∃ g1 cap1 w1 g2 cap2 w2, (app51 #[v1, .slice (some ⟨W.heap.size, 0, none⟩) 1 1]).run Try.prog (W.alloc (.cells #[encStr x.1.1] 9)) = .ok (.slice (some ⟨g1, 0, none⟩) (pre.length + 1) cap1) w1 ∧
      w1.cell? ⟨B1, 0, none⟩ = some v1 ∧ w1.frozen? ⟨B1, 0, none⟩ = false ∧
      (app52 #[v2, .slice (some ⟨w1.heap.size, 0, none⟩) 1 1]).run Try.prog ((w1.setCell ⟨B1, 0, none⟩ (.slice (some ⟨g1, 0, none⟩) (pre.length + 1) cap1)).drew.alloc (.cells #[.int .u64 x.1.2.2] 22)) = .ok (.slice (some ⟨g2, 0, none⟩) (pre.length + 1) cap2) w2 ∧
      w2.cell? ⟨B2, 0, none⟩ = some v2 ∧ w2.frozen? ⟨B2, 0, none⟩ = false ∧ (w1.setCell ⟨B1, 0, none⟩ (.slice (some ⟨g1, 0, none⟩) (pre.length + 1) cap1)).cell? ⟨B2, 0, none⟩ = some v2 ∧ ((w1.setCell ⟨B1, 0, none⟩ (.slice (some ⟨g1, 0, none⟩) (pre.length + 1) cap1)).alloc (.cells #[.int .u64 x.1.2.2] 22)).cell? ⟨B2, 0, none⟩ = some v2 ∧ Below n₀ W (w1.setCell ⟨B1, 0, none⟩ (.slice (some ⟨g1, 0, none⟩) (pre.length + 1) cap1)) ∧
      Hid (KeepsOthers W (w2.setCell ⟨B2, 0, none⟩ (.slice (some ⟨g2, 0, none⟩) (pre.length + 1) cap2)) ∧ KpB n₀ B1 B2 W (w2.setCell ⟨B2, 0, none⟩ (.slice (some ⟨g2, 0, none⟩) (pre.length + 1) cap2)) ∧
      Got n₀ B1 B2 w (pre ++ [x]) (w2.setCell ⟨B2, 0, none⟩ (.slice (some ⟨g2, 0, none⟩) (pre.length + 1) cap2)) (.slice (some ⟨g1, 0, none⟩) (pre.length + 1) cap1) (.slice (some ⟨g2, 0, none⟩) (pre.length + 1) cap2)) := by
  have hsz := h.below.size
  obtain ⟨g1, cap1, w1, run1, A1⟩ := app_step (n₀ := n₀) (B := B1) (Bo := B2) (t := 51) (to := 52) (e := 9) (eo := 22) 51 Try.underlying51 Try.info9' rfl (by decide) (by decide) (by decide) (by decide) hne.symm (encStr x.1.1) rfl h.box1 h.box2 h.row1 h.row2 (by omega) hB1 (by unfold maxLen; omega) (by omega)
  have hs1 := A1.below.size
  obtain ⟨g2, cap2, w2, run2, A2⟩ := app_step (n₀ := n₀) (B := B2) (Bo := B1) (t := 52) (to := 51) (e := 22) (eo := 9) 52 Try.underlying52 Try.info22' rfl (by decide) (by decide) (by decide) (by decide) hne (W := (w1.setCell ⟨B1, 0, none⟩ (.slice (some ⟨g1, 0, none⟩) (pre.length + 1) cap1)).drew) (.int .u64 x.1.2.2) rfl A1.boxo A1.box A1.rowo A1.row (by show n₀ ≤ (w1.setCell ⟨B1, 0, none⟩ (.slice (some ⟨g1, 0, none⟩) (pre.length + 1) cap1)).heap.size; omega) hB2 (by unfold maxLen; omega) (by omega)
  refine ⟨g1, cap1, w1, g2, cap2, w2, run1, A1.cell, A1.frozen, ?_, A2.cell, A2.frozen, A1.boxo.cell, (A1.boxo.alloc _).cell, A1.below, A1.keeps.trans ((KeepsOthers.drew _).trans A2.keeps), (A1.kp1 h.box1 h.box2).trans ((KpB.drew0 _ _ _ _).trans (A2.kp1 (W := (w1.setCell ⟨B1, 0, none⟩ (.slice (some ⟨g1, 0, none⟩) (pre.length + 1) cap1)).drew) A1.boxo A1.box).swap), A2.boxo, A2.box, ?_, ?_, h.below.trans (A1.below.trans (((Below.refl _ _).drew).trans A2.below))⟩
  · have e : (w1.setCell ⟨B1, 0, none⟩ (.slice (some ⟨g1, 0, none⟩) (pre.length + 1) cap1)).heap.size = w1.heap.size := by simp
    rw [← e]
    exact run2
  · simpa using A2.rowo
  · simpa using A2.row

set_option maxRecDepth 100000 in
set_option maxHeartbeats 2000000 in
theorem zzFollowers_in (r b n : Nat) (S : Nat → ByteArray) (M : Nat → Int) (D : DataW Unit) (w : World) (L : List (Item w)) (hI : Items w n S M D L) (hR : RepIs w r b n S M D) (hN : n ≤ 1048576) :
    CallsIn Fence.wide 5 Try.prog 26 #[.pointer (some ⟨r, 0, none⟩)] w fun e W' => ∃ v1 v2, e = .returned (.tuple #[v1, v2]) ∧ W'.ownsRow (w.heap.size + 1) 9 1 v1 L.length (L.map fun x => encStr x.1.1) ∧ W'.ownsRow (w.heap.size + 1) 22 1 v2 L.length (L.map fun x => .int .u64 x.1.2.2) ∧ Below w.heap.size w W' := by
  have heq := run_eq_nilFunc
  refine callsIn_of_wp_marks Try.func26 rfl trivial ?_ rfl
  simp only [Try.ntmps26, List.size_toArray, List.length_cons, List.length_nil, Nat.reduceAdd, Nat.reduceSub, Array.replicate_succ, Array.replicate_zero, List.push_toArray, List.append_toArray, List.nil_append, List.cons_append]
  gi_wp2_with fail
  refine ⟨trivial, (followers_in _ _ _).mono ?_⟩
  rintro e w' ⟨rfl, rfl⟩
  gi_wp2_with fail
  clear heq
  obtain ⟨wb, hwb⟩ : ∃ wb, wb = w.alloc (.cells #[.pointer (some ⟨r, 0, none⟩)] 40) := ⟨_, rfl⟩
  have szb : Hid (wb.heap.size = w.heap.size + 1) := hide (by rw [hwb]; simp)
  have szl : w.heap.size < wb.heap.size := by rw [szb.out]; omega
  have cb : wb.cell? ⟨w.heap.size, 0, none⟩ = some (.pointer (some ⟨r, 0, none⟩)) := by rw [hwb]; simp
  have Bb : Below w.heap.size w wb := by rw [hwb]; exact (Below.refl _ _).alloc (Nat.le_refl _) _
  have Rb := hR.later Bb
  rw [← hwb]
  have b1 := Boxed.new wb 51 (.slice none 0 0)
  have b2 := Boxed.new (wb.alloc (.cells #[.slice none 0 0] 51)) 52 (.slice none 0 0)
  have Bc : Below wb.heap.size wb ((wb.alloc (.cells #[.slice none 0 0] 51)).alloc (.cells #[.slice none 0 0] 52)) := ((Below.refl _ _).alloc (Nat.le_refl _) _).alloc (by simp) _
  have bb1 := b1.alloc (.cells #[.slice none 0 0] 52)
  have hN2 : L.length ≤ 1048576 := by
    have e1 := congrArg List.length hI.keys
    have e2 : (strKeys D).length ≤ n := by
      have := hR.map.own.size_le
      obtain ⟨es, rfl, _⟩ := hR.map.own.keysOf
      simpa [strKeys, Maps.size] using this
    simp at e1
    omega
  have rr : r < w.heap.size := block_lt_of_cell hR.at_
  have rb : b < w.heap.size := hR.map.own.lt
  rw [World.size_alloc] at b2
  rw [← szb.out]
  clear hwb
  refine wpIn_rangeFunc_ownG rfl (by omega) (gf := 39) (lb := #[.pointer (some ⟨w.heap.size, 0, none⟩)]) rfl trivial (enters_of Try.func39 (by kernel_rfl) rfl)
    (follow_stops (n₀ := wb.heap.size) (B1 := wb.heap.size) (B2 := wb.heap.size + 1) (m := 3) hI (Rb.later Bc) (by simp; omega) (by simp; omega) (by simp) (rowOf_boxed bb1) (rowOf_boxed b2) ((Bc.cell (p := ⟨w.heap.size, 0, none⟩) (by simp; omega)).trans cb) (by omega) (by omega) (by omega) hN) KpB.trans (KpB.book (by simp; omega) (by simp; omega) (by simp)) (Below.refl _ _) (fun _ => rfl)
    (fun pre W => ∃ v1 v2, Got wb.heap.size wb.heap.size (wb.heap.size + 1) wb pre W v1 v2)
    (fun _ _ _ => False)
    (got_own (Nat.le_refl _) (by simp; omega))
    (fun _ _ _ _ _ hs _ _ => hs)
    ⟨_, _, bb1, b2, World.ownsRow_nil _ _ _ _, World.ownsRow_nil _ _ _ _, Bc⟩
    (fun x => { tmps := #[.pointer (some ⟨r, 0, none⟩), undef, .slice none 0 0, .slice none 0 0, .func (.func 39) #[] #[.pointer (some ⟨w.heap.size, 0, none⟩)], .pointer (some ⟨wb.heap.size, 0, none⟩), .pointer (some ⟨wb.heap.size + 1, 0, none⟩), encStr x.1.1, .pointer (some ⟨x.1.2.1, 0, none⟩), .pointer (some ⟨r, 0, none⟩), .func (.func 39) #[] #[.pointer (some ⟨w.heap.size, 0, none⟩)], .func (.func 39) #[] #[.pointer (some ⟨w.heap.size, 0, none⟩)], .bool false, .func (.func 39) #[] #[.pointer (some ⟨w.heap.size, 0, none⟩)], encStr x.1.1, .pointer (some ⟨x.1.2.1, 0, none⟩), undef, undef, undef, undef, undef, undef, undef, undef, undef, undef, undef, undef, undef], defers := [] }) ?assign ?body ?done ?stop
  case assign =>
    intro l x W K hK
    gi_wp2
    exact hK
  case body =>
    rintro l pre x W ⟨v1, v2, hG⟩ hlt
    obtain ⟨g1, cap1, w1, g2, cap2, w2, run1, c1, f1, run2, c2, f2, c3, c4, bl1, fin⟩ := got_step hG x (Nat.le_refl _) (Nat.le_refl _) (by omega) (by omega) (by omega)
    have hc1 := hG.box1.cell
    have hx : W.cell? ⟨x.1.2.1, 0, none⟩ = some (.int .u64 x.1.2.2) := by
      have := block_lt_of_cell x.2
      exact (((Bb.trans (hG.below.mono (by omega))).cell (p := ⟨x.1.2.1, 0, none⟩) this).trans x.2)
    have hx' : (w1.setCell ⟨wb.heap.size, 0, none⟩ (.slice (some ⟨g1, 0, none⟩) (pre.length + 1) cap1)).cell? ⟨x.1.2.1, 0, none⟩ = some (.int .u64 x.1.2.2) := (bl1.cell (p := ⟨x.1.2.1, 0, none⟩) (by have := block_lt_of_cell x.2; simp at this ⊢; omega)).trans hx
    clear hG bl1 hx
    gi_wp2_with (gi_at_builtin; refine wpListIn_append_eq rfl (.tmp 16) (.tmp 18) 51 rfl (by rfl) (by rfl) run1 ?_)
    clear run1 c1 f1
    refine wpIn_region_any (by kernel_rfl) ?_
    change wpAnyIn _ _ _ _ _ _ _ _ _ (World.drew _)
    refine wpAnyIn_ready (rs := [0, 1]) (by kernel_rfl) (by simp) ?_
    refine AllReadyIn.cons rfl (fun K hK => ?_) ?_
    · go_simp
      refine hK _ _ ?_
      clear hK K
      refine wpAnyIn_ready (rs := [1]) (by kernel_rfl) (by simp) ?_
      refine AllReadyIn.cons rfl (fun K hK => ?_) ?_
      · go_simp
        refine hK _ _ ?_
        clear hK K
        refine wpAnyIn_ready (rs := [2]) (by kernel_rfl) (by simp) ?_
        refine AllReadyIn.cons rfl (fun K hK => ?_) ?_
        · go_simp
          refine hK _ _ ?_
          clear hK K
          refine wpAnyIn_ready (rs := [3]) (by kernel_rfl) (by simp) ?_
          refine AllReadyIn.cons rfl (fun K hK => ?_) ?_
          · go_simp
            refine hK _ _ ?_
            clear hK K
            refine wpAnyIn_ready (rs := [4]) (by kernel_rfl) (by simp) ?_
            refine AllReadyIn.cons rfl (fun K hK => ?_) ?_
            · go_simp
              refine hK _ _ ?_
              clear hK K
              refine wpAnyIn_ready (rs := [5]) (by kernel_rfl) (by simp) ?_
              refine AllReadyIn.cons rfl (fun K hK => ?_) ?_
              · go_simp
                refine hK _ _ ?_
                clear hK K
                refine wpAnyIn_ready (rs := [6]) (by kernel_rfl) (by simp) ?_
                refine AllReadyIn.cons rfl (fun K hK => ?_) AllReadyIn.nil
                refine stepIn_append_eq rfl (.tmp 20) (.tmp 25) 52 rfl (by rfl) (by rfl) run2 ?_
                refine hK _ _ ?_
                clear hK K
                refine wpAnyIn_ready (rs := [7]) (by kernel_rfl) (by simp) ?_
                refine AllReadyIn.cons rfl (fun K hK => ?_) AllReadyIn.nil
                go_simp
                refine hK _ _ ?_
                clear hK K
                refine wpAnyIn_done (by kernel_rfl) ?_ _
                exact ⟨fin.out.1.from _, fin.out.2.1, _, _, fin.out.2.2⟩
              exact AllReadyIn.nil
            exact AllReadyIn.nil
          exact AllReadyIn.nil
        exact AllReadyIn.nil
      exact AllReadyIn.nil
    refine AllReadyIn.cons rfl (fun K hK => ?_) ?_
    · go_simp
      refine hK _ _ ?_
      clear hK K
      refine wpAnyIn_ready (rs := [0, 2]) (by kernel_rfl) (by simp) ?_
      refine AllReadyIn.cons rfl (fun K hK => ?_) ?_
      · go_simp
        refine hK _ _ ?_
        clear hK K
        refine wpAnyIn_ready (rs := [2]) (by kernel_rfl) (by simp) ?_
        refine AllReadyIn.cons rfl (fun K hK => ?_) ?_
        · go_simp
          refine hK _ _ ?_
          clear hK K
          refine wpAnyIn_ready (rs := [3]) (by kernel_rfl) (by simp) ?_
          refine AllReadyIn.cons rfl (fun K hK => ?_) ?_
          · go_simp
            refine hK _ _ ?_
            clear hK K
            refine wpAnyIn_ready (rs := [4]) (by kernel_rfl) (by simp) ?_
            refine AllReadyIn.cons rfl (fun K hK => ?_) ?_
            · go_simp
              refine hK _ _ ?_
              clear hK K
              refine wpAnyIn_ready (rs := [5]) (by kernel_rfl) (by simp) ?_
              refine AllReadyIn.cons rfl (fun K hK => ?_) ?_
              · go_simp
                refine hK _ _ ?_
                clear hK K
                refine wpAnyIn_ready (rs := [6]) (by kernel_rfl) (by simp) ?_
                refine AllReadyIn.cons rfl (fun K hK => ?_) AllReadyIn.nil
                refine stepIn_append_eq rfl (.tmp 20) (.tmp 25) 52 rfl (by rfl) (by rfl) run2 ?_
                refine hK _ _ ?_
                clear hK K
                refine wpAnyIn_ready (rs := [7]) (by kernel_rfl) (by simp) ?_
                refine AllReadyIn.cons rfl (fun K hK => ?_) AllReadyIn.nil
                go_simp
                refine hK _ _ ?_
                clear hK K
                refine wpAnyIn_done (by kernel_rfl) ?_ _
                exact ⟨fin.out.1.from _, fin.out.2.1, _, _, fin.out.2.2⟩
              exact AllReadyIn.nil
            exact AllReadyIn.nil
          exact AllReadyIn.nil
        exact AllReadyIn.nil
      refine AllReadyIn.cons rfl (fun K hK => ?_) ?_
      · go_simp
        refine hK _ _ ?_
        clear hK K
        refine wpAnyIn_ready (rs := [0, 3]) (by kernel_rfl) (by simp) ?_
        refine AllReadyIn.cons rfl (fun K hK => ?_) ?_
        · go_simp
          refine hK _ _ ?_
          clear hK K
          refine wpAnyIn_ready (rs := [3]) (by kernel_rfl) (by simp) ?_
          refine AllReadyIn.cons rfl (fun K hK => ?_) ?_
          · go_simp
            refine hK _ _ ?_
            clear hK K
            refine wpAnyIn_ready (rs := [4]) (by kernel_rfl) (by simp) ?_
            refine AllReadyIn.cons rfl (fun K hK => ?_) ?_
            · go_simp
              refine hK _ _ ?_
              clear hK K
              refine wpAnyIn_ready (rs := [5]) (by kernel_rfl) (by simp) ?_
              refine AllReadyIn.cons rfl (fun K hK => ?_) ?_
              · go_simp
                refine hK _ _ ?_
                clear hK K
                refine wpAnyIn_ready (rs := [6]) (by kernel_rfl) (by simp) ?_
                refine AllReadyIn.cons rfl (fun K hK => ?_) AllReadyIn.nil
                refine stepIn_append_eq rfl (.tmp 20) (.tmp 25) 52 rfl (by rfl) (by rfl) run2 ?_
                refine hK _ _ ?_
                clear hK K
                refine wpAnyIn_ready (rs := [7]) (by kernel_rfl) (by simp) ?_
                refine AllReadyIn.cons rfl (fun K hK => ?_) AllReadyIn.nil
                go_simp
                refine hK _ _ ?_
                clear hK K
                refine wpAnyIn_done (by kernel_rfl) ?_ _
                exact ⟨fin.out.1.from _, fin.out.2.1, _, _, fin.out.2.2⟩
              exact AllReadyIn.nil
            exact AllReadyIn.nil
          exact AllReadyIn.nil
        refine AllReadyIn.cons rfl (fun K hK => ?_) ?_
        · go_simp
          refine hK _ _ ?_
          clear hK K
          refine wpAnyIn_ready (rs := [0, 4]) (by kernel_rfl) (by simp) ?_
          refine AllReadyIn.cons rfl (fun K hK => ?_) ?_
          · go_simp
            refine hK _ _ ?_
            clear hK K
            refine wpAnyIn_ready (rs := [4]) (by kernel_rfl) (by simp) ?_
            refine AllReadyIn.cons rfl (fun K hK => ?_) ?_
            · go_simp
              refine hK _ _ ?_
              clear hK K
              refine wpAnyIn_ready (rs := [5]) (by kernel_rfl) (by simp) ?_
              refine AllReadyIn.cons rfl (fun K hK => ?_) ?_
              · go_simp
                refine hK _ _ ?_
                clear hK K
                refine wpAnyIn_ready (rs := [6]) (by kernel_rfl) (by simp) ?_
                refine AllReadyIn.cons rfl (fun K hK => ?_) AllReadyIn.nil
                refine stepIn_append_eq rfl (.tmp 20) (.tmp 25) 52 rfl (by rfl) (by rfl) run2 ?_
                refine hK _ _ ?_
                clear hK K
                refine wpAnyIn_ready (rs := [7]) (by kernel_rfl) (by simp) ?_
                refine AllReadyIn.cons rfl (fun K hK => ?_) AllReadyIn.nil
                go_simp
                refine hK _ _ ?_
                clear hK K
                refine wpAnyIn_done (by kernel_rfl) ?_ _
                exact ⟨fin.out.1.from _, fin.out.2.1, _, _, fin.out.2.2⟩
              exact AllReadyIn.nil
            exact AllReadyIn.nil
          refine AllReadyIn.cons rfl (fun K hK => ?_) ?_
          · go_simp
            refine hK _ _ ?_
            clear hK K
            refine wpAnyIn_ready (rs := [0, 5]) (by kernel_rfl) (by simp) ?_
            refine AllReadyIn.cons rfl (fun K hK => ?_) ?_
            · go_simp
              refine hK _ _ ?_
              clear hK K
              refine wpAnyIn_ready (rs := [5]) (by kernel_rfl) (by simp) ?_
              refine AllReadyIn.cons rfl (fun K hK => ?_) ?_
              · go_simp
                refine hK _ _ ?_
                clear hK K
                refine wpAnyIn_ready (rs := [6]) (by kernel_rfl) (by simp) ?_
                refine AllReadyIn.cons rfl (fun K hK => ?_) AllReadyIn.nil
                refine stepIn_append_eq rfl (.tmp 20) (.tmp 25) 52 rfl (by rfl) (by rfl) run2 ?_
                refine hK _ _ ?_
                clear hK K
                refine wpAnyIn_ready (rs := [7]) (by kernel_rfl) (by simp) ?_
                refine AllReadyIn.cons rfl (fun K hK => ?_) AllReadyIn.nil
                go_simp
                refine hK _ _ ?_
                clear hK K
                refine wpAnyIn_done (by kernel_rfl) ?_ _
                exact ⟨fin.out.1.from _, fin.out.2.1, _, _, fin.out.2.2⟩
              exact AllReadyIn.nil
            refine AllReadyIn.cons rfl (fun K hK => ?_) ?_
            · go_simp
              refine hK _ _ ?_
              clear hK K
              refine wpAnyIn_ready (rs := [0]) (by kernel_rfl) (by simp) ?_
              refine AllReadyIn.cons rfl (fun K hK => ?_) ?_
              · go_simp
                refine hK _ _ ?_
                clear hK K
                refine wpAnyIn_ready (rs := [6]) (by kernel_rfl) (by simp) ?_
                refine AllReadyIn.cons rfl (fun K hK => ?_) AllReadyIn.nil
                refine stepIn_append_eq rfl (.tmp 20) (.tmp 25) 52 rfl (by rfl) (by rfl) run2 ?_
                refine hK _ _ ?_
                clear hK K
                refine wpAnyIn_ready (rs := [7]) (by kernel_rfl) (by simp) ?_
                refine AllReadyIn.cons rfl (fun K hK => ?_) AllReadyIn.nil
                go_simp
                refine hK _ _ ?_
                clear hK K
                refine wpAnyIn_done (by kernel_rfl) ?_ _
                exact ⟨fin.out.1.from _, fin.out.2.1, _, _, fin.out.2.2⟩
              exact AllReadyIn.nil
            exact AllReadyIn.nil
          exact AllReadyIn.nil
        exact AllReadyIn.nil
      exact AllReadyIn.nil
    exact AllReadyIn.nil
  case done =>
    rintro D ys W hD rfl ⟨v1, v2, hG⟩ hK
    have hc1 := hG.box1.cell
    have hc2 := hG.box2.cell
    gi_wp2
    gi_region
    gi_wp2
    refine ⟨by simp, .inl ⟨_, _, rfl, run_takeDeferred (w := W.drew) hK, ?_⟩⟩
    rw [← szb.out]
    refine ⟨_, results_tmp2 rfl _ _ _, v1, v2, rfl, ownsRow_putObj (W := W.drew) hG.row1 _ hK rfl, ownsRow_putObj (W := W.drew) hG.row2 _ hK rfl, ?_⟩
    simp at hD
    exact (Bb.trans (hG.below.mono (by omega))).trans ((Below.refl _ W).drew.trans (belowK_b (w := wb) (by omega) W.drew D _ _ (by omega) hK rfl rfl))
  case stop =>
    rintro D c pre W _ _ h _
    exact h.elim
end Go.Proofs.Qxb6616937a
