/-
  A ROW OF ONE'S OWN, MADE AND FILLED.
-/
import Derived.Test.Qxb6616937aGot
namespace Go.Proofs.Qxb6616937a
open Go.RowKit

structure Fill (W : World) (g n : Nat) (f : Nat → Value) : Prop where
  cell : ∀ j, j < n → W.cell? ⟨g, j, none⟩ = some (f j)
  frozen : ∀ j, W.frozen? ⟨g, j, none⟩ = false

theorem Fill.made {W : World} {base e n g c : Nat} {z : Value} (hz : z.cells = #[z]) (h : W.ownsRow base e 1 (.slice (some ⟨g, 0, none⟩) n c) n (madeCells z.cells (n * 1)).toList) : Fill W g n (fun _ => z) := by
  refine ⟨fun j hj => ?_, fun j => World.ownsRow.frozenAt h j⟩
  obtain ⟨a, c', e, hr⟩ := row_open (f := fun _ => z) h (fun j hj => by
    rw [hz, toList_madeCells_one]
    simp [hj])
  cases e
  obtain ⟨g', e', hc⟩ := hr j hj
  cases e'
  exact hc

theorem Fill.far {W : World} {g n : Nat} {f : Nat → Value} (h : Fill W g n f) (a : Addr) (v : Value) (hne : a.block ≠ g) : Fill (W.setCell a v) g n f :=
  ⟨fun j hj => (World.cell?_setCell_far W a ⟨g, j, none⟩ v hne).trans (h.cell j hj), fun j => by rw [World.frozen?_setCell]; exact h.frozen j⟩

theorem Fill.set {W : World} {g n : Nat} {f : Nat → Value} (h : Fill W g n f) (k : Nat) (hk : k < n) (v : Value) (f' : Nat → Value) (hf1 : f' k = v) (hf2 : ∀ j, j < n → j ≠ k → f' j = f j) : Fill (W.setCell ⟨g, k, none⟩ v) g n f' := by
  refine ⟨fun j hj => ?_, fun j => by rw [World.frozen?_setCell]; exact h.frozen j⟩
  by_cases e : j = k
  · subst e
    rw [World.cell?_setCell_same' _ _ _ (by rw [h.cell j hk]; rfl), hf1]
  · rw [World.cell?_setCell_other _ _ _ _ (by simp only [ne_eq, Addr.mk.injEq]; omega), h.cell j hj, hf2 j hj e]

theorem Fill.later {W W' : World} {g n : Nat} {f : Nat → Value} (h : Fill W g n f) (hg : g < W.heap.size) (hb : Below W.heap.size W W') : Fill W' g n f :=
  ⟨fun j hj => (hb.cell (p := ⟨g, j, none⟩) hg).trans (h.cell j hj), fun j => (World.frozen?_of_block (a := ⟨g, j, none⟩) (hb.block g hg)).trans (h.frozen j)⟩

theorem row_lt {W : World} {base e n g c : Nat} {xs : List Value} (h : W.ownsRow base e 1 (.slice (some ⟨g, 0, none⟩) n c) n xs) : g < W.heap.size := by
  rcases h.2 with ⟨h, _⟩ | ⟨g', cap, cur, h, _, hgb, _⟩
  · cases h
  · cases h
    exact (Array.getElem?_eq_some_iff.1 hgb).1

/-- What the two rows hold when k peers have been copied. -/
def idsAt (S : Nat → ByteArray) (k j : Nat) : Value := if j < k then .string (S j) else .string ⟨#[]⟩
def msAt (M : Nat → Int) (k j : Nat) : Value := if j < k then .int .u64 (M j) else .int .u64 0

theorem idsAt_other {S : Nat → ByteArray} {k j : Nat} (h : j ≠ k) : idsAt S (k + 1) j = idsAt S k j := by
  unfold idsAt
  by_cases e : j < k
  · rw [if_pos e, if_pos (by omega)]
  · rw [if_neg e, if_neg (by omega)]
theorem msAt_other {M : Nat → Int} {k j : Nat} (h : j ≠ k) : msAt M (k + 1) j = msAt M k j := by
  unfold msAt
  by_cases e : j < k
  · rw [if_pos e, if_pos (by omega)]
  · rw [if_neg e, if_neg (by omega)]

theorem fill_step {W : World} {g1 g2 n k : Nat} {S : Nat → ByteArray} {M : Nat → Int} (hk : k < n) (hne : g1 ≠ g2) (h1 : Fill W g1 n (idsAt S k)) (h2 : Fill W g2 n (msAt M k)) :
    Fill ((W.setCell ⟨g1, k, none⟩ (.string (S k))).setCell ⟨g2, k, none⟩ (.int .u64 (M k))) g1 n (idsAt S (k + 1)) ∧ Fill ((W.setCell ⟨g1, k, none⟩ (.string (S k))).setCell ⟨g2, k, none⟩ (.int .u64 (M k))) g2 n (msAt M (k + 1)) :=
  ⟨(h1.set k hk _ (idsAt S (k + 1)) (by simp [idsAt]) (fun j _ hn => idsAt_other hn)).far _ _ (Ne.symm hne),
   (h2.far _ _ hne).set k hk _ (msAt M (k + 1)) (by simp [msAt]) (fun j _ hn => msAt_other hn)⟩

/-- The least id of the first i peers, and the match of the last of them that bears it. -/
structure MinAt (S : Nat → ByteArray) (M : Nat → Int) (i : Nat) (s : ByteArray) (m : Int) : Prop where
  mem : ∃ j, j < i ∧ S j = s
  least : ∀ j, j < i → ¬ (S j).data.toList < s.data.toList
  last : lastOf S M i s.data.toList = some m

theorem less_iff (x y : ByteArray) : Op.bytesLess x.toList y.toList = decide (x.data.toList < y.data.toList) := by
  rw [Go.Proofs.bytesLess_eq, Lib.toList_data, Lib.toList_data]
theorem same_iff (x y : ByteArray) : (x.toList == y.toList) = decide (x = y) := by
  rw [Lib.toList_data, Lib.toList_data]
  by_cases e : x = y
  · subst e; simp
  · rw [decide_eq_false e]
    have : x.data.toList ≠ y.data.toList := fun h => e (ByteArray.ext (Array.ext' h))
    simpa using this

theorem MinAt.start (S : Nat → ByteArray) (M : Nat → Int) : MinAt S M 1 (S 0) (M 0) :=
  ⟨⟨0, by omega, rfl⟩, fun j hj => by obtain rfl : j = 0 := by omega
                                      exact List.lt_irrefl _, by simp [lastOf]⟩

theorem MinAt.lt {S : Nat → ByteArray} {M : Nat → Int} {i : Nat} {s : ByteArray} {m : Int} (h : MinAt S M i s m) (hl : (S i).data.toList < s.data.toList) : MinAt S M (i + 1) (S i) (M i) := by
  refine ⟨⟨i, by omega, rfl⟩, fun j hj => ?_, by simp [lastOf]⟩
  by_cases e : j = i
  · subst e; exact List.lt_irrefl _
  · exact fun h' => h.least j (by omega) (List.lt_trans h' hl)

theorem MinAt.eq {S : Nat → ByteArray} {M : Nat → Int} {i : Nat} {s : ByteArray} {m : Int} (h : MinAt S M i s m) (he : S i = s) : MinAt S M (i + 1) s (M i) := by
  refine ⟨⟨i, by omega, he⟩, fun j hj => ?_, by rw [← he]; simp [lastOf]⟩
  by_cases e : j = i
  · subst e; rw [he]; exact List.lt_irrefl _
  · exact h.least j (by omega)

theorem MinAt.gt {S : Nat → ByteArray} {M : Nat → Int} {i : Nat} {s : ByteArray} {m : Int} (h : MinAt S M i s m) (hl : ¬ (S i).data.toList < s.data.toList) (he : S i ≠ s) : MinAt S M (i + 1) s m := by
  refine ⟨?_, fun j hj => ?_, ?_⟩
  · obtain ⟨j, hj, e⟩ := h.mem
    exact ⟨j, by omega, e⟩
  · by_cases e : j = i
    · subst e; exact hl
    · exact h.least j (by omega)
  · unfold lastOf
    rw [if_neg (fun e => he (ByteArray.ext (Array.ext' e)))]
    exact h.last

theorem lastOf_mem {S : Nat → ByteArray} {M : Nat → Int} : ∀ {n : Nat} {s : List UInt8} {m : Int}, lastOf S M n s = some m → ∃ k, k < n ∧ (S k).data.toList = s
  | n + 1, s, m, h => by
    unfold lastOf at h
    split at h
    · next e => exact ⟨n, by omega, e⟩
    · obtain ⟨k, hk, e⟩ := lastOf_mem h
      exact ⟨k, by omega, e⟩

theorem MinAt.first {S : Nat → ByteArray} {M : Nat → Int} {N n : Nat} {s : ByteArray} {m : Int} {T : Nat → ByteArray} {V : Nat → Int} (h : MinAt S M n s m) (hP : Plain N n S M T V) : 0 < N ∧ T 0 = s ∧ V 0 = m := by
  obtain ⟨k, hk, rfl⟩ := h.mem
  obtain ⟨j, hj, e⟩ := hP.mem k hk
  have hN : 0 < N := by omega
  have hT : T 0 = S k := by
    by_cases hj0 : j = 0
    · rw [← hj0]; exact e
    · have h1 := hP.rise 0 j (by omega) hj
      obtain ⟨k', hk', e'⟩ := lastOf_mem (hP.last 0 hN)
      rw [e] at h1
      exact absurd (e' ▸ h1) (h.least k' hk')
  refine ⟨hN, hT, ?_⟩
  have h2 := hP.last 0 hN
  rw [hT, h.last] at h2
  simpa using h2.symm
end Go.Proofs.Qxb6616937a
