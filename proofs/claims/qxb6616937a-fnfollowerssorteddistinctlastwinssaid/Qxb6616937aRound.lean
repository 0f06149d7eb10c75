/-
  THE CONTRACTS OF THE REPLICA's ROUND FUNCTIONS. 'IsRep w b n s': the block b holds a replica (a struct of many cells) whose field 'round' is n and whose field 'roundSent' is s, neither frozen.
-/
import Derived.Test.Qxb6616937aProg
import Derived.WalkKit
import Derived.Laws.Tables
namespace Go.Proofs.Qxb6616937a
open Go.RowKit

/-- A composite literal, its parts' values and its cells named ahead: the cells stay a letter. -/
theorem wpList_build_at {P : Program} {ops : Array Oper} {rest : List Oper} {o : Oper} {a : Act} {w : World} {Q : Exit → Act → World → Prop} (hg : o.guard = none) (t : TypeId) (parts : Array (Nat × Operand)) (ho : o.op = .build t parts)
    (vs : List (Nat × Value)) (hvs : (parts.map fun (i, x) => (i, a.eval x)).toList = vs) (cells : Array Value) (hc : P.built t vs = some cells)
    (h : wpList P ops Q rest (a.put o.dst (.agg cells)) w) : wpList P ops Q (o :: rest) a w := by
  subst hvs
  refine wpList_build hg t parts ho (by rw [hc]; rfl) ?_
  rw [hc]
  exact h

structure IsRep (w : World) (b : Nat) (n : Int) (s : Bool) : Prop where
  rd : w.cell? ⟨b, 144, none⟩ = some (.int .u64 n)
  st : w.cell? ⟨b, 145, none⟩ = some (.bool s)
  frd : w.frozen? ⟨b, 144, none⟩ = false
  fst : w.frozen? ⟨b, 145, none⟩ = false

theorem build105 (n : Int) (s : Bool) : ∃ cells : Array Value, Try.prog.built 105 [(55, .int .u64 n), (56, .bool s)] = some cells ∧ cells[144]? = some (.int .u64 n) ∧ cells[145]? = some (.bool s) :=
  ⟨(Try.prog.built 105 [(55, .int .u64 n), (56, .bool s)]).getD #[], by kernel_rfl, by kernel_rfl, by kernel_rfl⟩

/-- A new block of cells: what each cell of it holds. -/
theorem cell_newBlock (w : World) (cs : Array Value) (t : TypeId) (j : Nat) : (w.alloc (.cells cs t)).cell? ⟨w.heap.size, j, none⟩ = cs[j]? := by
  simp
theorem frozen_newBlock (w : World) (cs : Array Value) (t : TypeId) (j : Nat) : (w.alloc (.cells cs t)).frozen? ⟨w.heap.size, j, none⟩ = false := by
  simp

theorem IsRep.alloc (w : World) (cs : Array Value) (n : Int) (s : Bool) (h1 : cs[144]? = some (.int .u64 n)) (h2 : cs[145]? = some (.bool s)) : IsRep (w.alloc (.cells cs 105)) w.heap.size n s :=
  ⟨(cell_newBlock _ _ _ _).trans h1, (cell_newBlock _ _ _ _).trans h2, frozen_newBlock _ _ _ _, frozen_newBlock _ _ _ _⟩

theorem newReplicaRound_any (n : Int) (s : Bool) (w : World) :
    Calls Try.prog 19 #[.int .u64 n, .bool s] w fun e w' => ∃ b, e = .returned (.pointer (some ⟨b, 0, none⟩)) ∧ IsRep w' b n s ∧ w.heap.size ≤ b ∧ Below w.heap.size w w' := by
  obtain ⟨cells, hb, h1, h2⟩ := build105 n s
  have HB : Hid (Try.prog.built 105 [(55, .int .u64 n), (56, .bool s)] = some cells) := hb
  have H1 := h1
  have H2 := h2
  clear hb h1 h2
  go_enter Try.func19, Try.ntmps19
  go_wp2_with (refine wpList_build_at rfl 105 #[(55, .tmp 5), (56, .tmp 6)] rfl [(55, .int .u64 n), (56, .bool s)] (by simp [go_sem]) cells HB.out ?_)
  go_ret
  exact ⟨_, rfl, IsRep.alloc w cells n s H1 H2, Nat.le_refl _, (Below.refl _ _).alloc (Nat.le_refl _) _⟩

theorem round_any (b : Nat) (n : Int) (s : Bool) (w : World) (h : IsRep w b n s) :
    Calls Try.prog 21 #[.pointer (some ⟨b, 0, none⟩)] w fun e w' => e = .returned (.int .u64 n) ∧ w' = w := by
  have h1 := h.rd
  go_enter Try.func21, Try.ntmps21
  go_wp2
  go_ret
  exact ⟨rfl, rfl⟩

theorem roundSent_any (b : Nat) (n : Int) (s : Bool) (w : World) (h : IsRep w b n s) :
    Calls Try.prog 22 #[.pointer (some ⟨b, 0, none⟩)] w fun e w' => e = .returned (.bool s) ∧ w' = w := by
  have h1 := h.st
  go_enter Try.func22, Try.ntmps22
  go_wp2
  go_ret
  exact ⟨rfl, rfl⟩

/-- What newRound answers: the round that is open, else the next. -/
def nextRound (n : Int) (s : Bool) : Int := if s = true ∨ n = 0 then n + 1 else n

/-- The round is not to be advanced. -/
theorem newRound_stays (b : Nat) (n : Int) (w : World) (h : IsRep w b n false) (h0 : 0 < n) :
    Calls Try.prog 31 #[.pointer (some ⟨b, 0, none⟩)] w fun e w' => e = .returned (.int .u64 n) ∧ w' = w := by
  have h1 := h.rd
  have h2 := h.st
  have h3 : (n == 0) = false := beq_eq_false_iff_ne.2 (by omega)
  go_enter Try.func31, Try.ntmps31
  go_wp2
  go_ret
  exact ⟨rfl, rfl⟩

theorem IsRep.advance {w : World} {b : Nat} {n : Int} {s : Bool} (h : IsRep w b n s) (m : Int) (s' : Bool) : IsRep ((w.setCell ⟨b, 144, none⟩ (.int .u64 m)).setCell ⟨b, 145, none⟩ (.bool s')) b m s' := by
  obtain ⟨h1, h2, h3, h4⟩ := h
  refine ⟨?_, ?_, ?_, ?_⟩
  · rw [World.cell?_setCell_other _ _ _ _ (by simp)]
    exact World.cell?_setCell_same' _ _ _ (by rw [h1]; rfl)
  · refine World.cell?_setCell_same' _ _ _ ?_
    rw [World.cell?_setCell_other _ _ _ _ (by simp), h2]; rfl
  · simp [h3]
  · simp [h4]

/-- The round is advanced: it was sent, or there was none. -/
theorem newRound_next (b : Nat) (n : Int) (s : Bool) (w : World) (h : IsRep w b n s) (hn : 0 ≤ n) (hm : n < 18446744073709551615) (hs : s = true ∨ n = 0) :
    Calls Try.prog 31 #[.pointer (some ⟨b, 0, none⟩)] w fun e w' => e = .returned (.int .u64 (n + 1)) ∧ w' = (w.setCell ⟨b, 144, none⟩ (.int .u64 (n + 1))).setCell ⟨b, 145, none⟩ (.bool false) := by
  obtain ⟨h1, h2, h3, h4⟩ := h
  rcases hs with rfl | rfl
  · go_enter Try.func31, Try.ntmps31
    go_wp2
    go_ret
    exact ⟨rfl, rfl⟩
  · cases s
    · go_enter Try.func31, Try.ntmps31
      go_wp2
      go_ret
      exact ⟨rfl, rfl⟩
    · go_enter Try.func31, Try.ntmps31
      go_wp2
      go_ret
      exact ⟨rfl, rfl⟩

theorem newRound_any (b : Nat) (n : Int) (s : Bool) (w : World) (h : IsRep w b n s) (hn : 0 ≤ n) (hm : n < 18446744073709551615 ∨ s = false) :
    Calls Try.prog 31 #[.pointer (some ⟨b, 0, none⟩)] w fun e w' => e = .returned (.int .u64 (nextRound n s)) ∧ IsRep w' b (nextRound n s) false ∧ Below b w w' := by
  by_cases hs : s = true ∨ n = 0
  · have e1 : nextRound n s = n + 1 := if_pos hs
    rw [e1]
    have hm' : n < 18446744073709551615 := by
      rcases hm with h | h
      · exact h
      · rcases hs with k | k
        · rw [h] at k; cases k
        · omega
    refine (newRound_next b n s w h hn hm' hs).mono ?_
    rintro e w' ⟨rfl, rfl⟩
    exact ⟨rfl, h.advance _ _, ((Below.refl b w).setCell (Nat.le_refl _) _).setCell (Nat.le_refl _) _⟩
  · have e1 : nextRound n s = n := if_neg hs
    rw [e1]
    have e2 : s = false := by cases s <;> simp_all
    subst e2
    refine (newRound_stays b n w h (by simp at hs; omega)).mono ?_
    rintro e w' ⟨rfl, rfl⟩
    exact ⟨rfl, h, Below.refl _ _⟩

theorem zzNewRound_any (b : Nat) (n : Int) (s : Bool) (w : World) (h : IsRep w b n s) (hn : 0 ≤ n) (hm : n < 18446744073709551615 ∨ s = false) :
    Calls Try.prog 20 #[.pointer (some ⟨b, 0, none⟩)] w fun e w' => e = .returned (.int .u64 (nextRound n s)) ∧ IsRep w' b (nextRound n s) false ∧ Below b w w' := by
  have c := newRound_any b n s w h hn hm
  have HC : Hid (Calls Try.prog 31 #[.pointer (some ⟨b, 0, none⟩)] w fun e w' => e = .returned (.int .u64 (nextRound n s)) ∧ IsRep w' b (nextRound n s) false ∧ Below b w w') := c
  clear c
  generalize nextRound n s = m at HC ⊢
  go_enter Try.func20, Try.ntmps20
  go_wp2_with fail
  refine HC.out.mono ?_
  rintro e w' ⟨rfl, h1, h2⟩
  go_wp2
  go_ret
  exact ⟨rfl, h1, h2⟩
end Go.Proofs.Qxb6616937a
