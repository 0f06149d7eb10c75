/-
  (*cborReader).entry at a canonical map of an entry's fields.
-/
import Derived.Test.Qxb6616937aRead
namespace Go.Proofs.Qxb6616937a
open Go.RowKit

/-- What follows a field's key. -/
def payload (T I K : Int) (D : List Int) (k : Nat) : List Int :=
  if k = 1 then head 0 T else if k = 2 then head 0 I else if k = 3 then head 0 K else head 64 (D.length : Int) ++ D
def item (T I K : Int) (D : List Int) (k : Nat) : List Int := head 0 (k : Int) ++ payload T I K D k
def items (T I K : Int) (D : List Int) (ks : List Nat) : List Int := ks.flatMap (item T I K D)

theorem items_cons (T I K : Int) (D : List Int) (k : Nat) (ks : List Nat) : items T I K D (k :: ks) = head 0 (k : Int) ++ (payload T I K D k ++ items T I K D ks) := by
  simp [items, item]

structure IsEnt (w : World) (E : Nat) (t i kd : Int) (dv : Value) : Prop where
  c0 : w.cell? ⟨E, 0, none⟩ = some (.int .u64 t)
  c1 : w.cell? ⟨E, 1, none⟩ = some (.int .u64 i)
  c2 : w.cell? ⟨E, 2, none⟩ = some (.int .u8 kd)
  c3 : w.cell? ⟨E, 3, none⟩ = some dv
  f0 : w.frozen? ⟨E, 0, none⟩ = false
  f1 : w.frozen? ⟨E, 1, none⟩ = false
  f2 : w.frozen? ⟨E, 2, none⟩ = false
  f3 : w.frozen? ⟨E, 3, none⟩ = false

theorem IsEnt.kept {w w' : World} {E : Nat} {t i kd : Int} {dv : Value} {r : Option Nat} (h : IsEnt w E t i kd dv) (hg : w.grownBy w' r) (hne : some E ≠ r) : IsEnt w' E t i kd dv :=
  ⟨hg.cell h.c0 hne, hg.cell h.c1 hne, hg.cell h.c2 hne, hg.cell h.c3 hne, (hg.frozen_far ⟨E, 0, none⟩ (block_lt_of_cell h.c0) hne).trans h.f0, (hg.frozen_far ⟨E, 1, none⟩ (block_lt_of_cell h.c1) hne).trans h.f1,
    (hg.frozen_far ⟨E, 2, none⟩ (block_lt_of_cell h.c2) hne).trans h.f2, (hg.frozen_far ⟨E, 3, none⟩ (block_lt_of_cell h.c3) hne).trans h.f3⟩
theorem IsEnt.lt {w : World} {E : Nat} {t i kd : Int} {dv : Value} (h : IsEnt w E t i kd dv) : E < w.heap.size := block_lt_of_cell h.c0

theorem IsEnt.set0 {w : World} {E : Nat} {t i kd : Int} {dv : Value} (h : IsEnt w E t i kd dv) (t' : Int) : IsEnt (w.setCell ⟨E, 0, none⟩ (.int .u64 t')) E t' i kd dv := by
  obtain ⟨h0, h1, h2, h3, f0, f1, f2, f3⟩ := h
  refine ⟨World.cell?_setCell_same' _ _ _ (by rw [h0]; rfl), ?_, ?_, ?_, by simp [f0], by simp [f1], by simp [f2], by simp [f3]⟩
  all_goals (rw [World.cell?_setCell_other _ _ _ _ (by simp)]; assumption)
theorem IsEnt.set1 {w : World} {E : Nat} {t i kd : Int} {dv : Value} (h : IsEnt w E t i kd dv) (i' : Int) : IsEnt (w.setCell ⟨E, 1, none⟩ (.int .u64 i')) E t i' kd dv := by
  obtain ⟨h0, h1, h2, h3, f0, f1, f2, f3⟩ := h
  refine ⟨?_, World.cell?_setCell_same' _ _ _ (by rw [h1]; rfl), ?_, ?_, by simp [f0], by simp [f1], by simp [f2], by simp [f3]⟩
  all_goals (rw [World.cell?_setCell_other _ _ _ _ (by simp)]; assumption)
theorem IsEnt.set2 {w : World} {E : Nat} {t i kd : Int} {dv : Value} (h : IsEnt w E t i kd dv) (k' : Int) : IsEnt (w.setCell ⟨E, 2, none⟩ (.int .u8 k')) E t i k' dv := by
  obtain ⟨h0, h1, h2, h3, f0, f1, f2, f3⟩ := h
  refine ⟨?_, ?_, World.cell?_setCell_same' _ _ _ (by rw [h2]; rfl), ?_, by simp [f0], by simp [f1], by simp [f2], by simp [f3]⟩
  all_goals (rw [World.cell?_setCell_other _ _ _ _ (by simp)]; assumption)
theorem IsEnt.set3 {w : World} {E : Nat} {t i kd : Int} {dv : Value} (h : IsEnt w E t i kd dv) (dv' : Value) : IsEnt (w.setCell ⟨E, 3, none⟩ dv') E t i kd dv' := by
  obtain ⟨h0, h1, h2, h3, f0, f1, f2, f3⟩ := h
  refine ⟨?_, ?_, ?_, World.cell?_setCell_same' _ _ _ (by rw [h3]; rfl), by simp [f0], by simp [f1], by simp [f2], by simp [f3]⟩
  all_goals (rw [World.cell?_setCell_other _ _ _ _ (by simp)]; assumption)

/-- A slice that reads, where the blocks that have turned are none of its own. -/
theorem Rd.kept {w w' : World} {a : Option Addr} {len : Nat} {bs : List Int} {r : Option Nat} (h : Rd w a len bs) (hg : w.grownBy w' r) (hne : ∀ x, a = some x → some x.block ≠ r) : Rd w' a len bs :=
  ⟨h.lenEq, h.nilLen, fun k hk => by
    obtain ⟨b, off, rfl, hc⟩ := h.cell k hk
    exact ⟨b, off, rfl, hg.cell hc (hne ⟨b, off, none⟩ rfl)⟩, h.byte⟩

/-- The box of 'last'. -/
structure IsLast (w : World) (L : Nat) (l : Int) : Prop where
  c : w.cell? ⟨L, 0, none⟩ = some (.int .u64 l)
  f : w.frozen? ⟨L, 0, none⟩ = false
theorem IsLast.kept {w w' : World} {L : Nat} {l : Int} {r : Option Nat} (h : IsLast w L l) (hg : w.grownBy w' r) (hne : some L ≠ r) : IsLast w' L l :=
  ⟨hg.cell h.c hne, (hg.frozen_far ⟨L, 0, none⟩ (block_lt_of_cell h.c) hne).trans h.f⟩
theorem IsLast.set {w : World} {L : Nat} {l : Int} (h : IsLast w L l) (l' : Int) : IsLast (w.setCell ⟨L, 0, none⟩ (.int .u64 l')) L l' :=
  ⟨World.cell?_setCell_same' _ _ _ (by rw [h.c]; rfl), by simp [h.f]⟩

theorem below_grown {B : Nat} {a w w' : World} {g : Nat} (h : Below B a w) (hg : w.grownBy w' (some g)) (hB : B ≤ w.heap.size) (hr : B ≤ g) : Below B a w' := h.grown hg hB (fun k e => by cases e; exact hr)
theorem grownBy_set (w : World) (g j : Nat) (v : Value) : w.grownBy (w.setCell ⟨g, j, none⟩ v) (some g) := grownBy_setCell (grownBy_refl w (some g)) j v

/-- What does not change while an entry is read. -/
structure Ctx where
  B : Nat
  b : Nat
  g : Nat
  len : Nat
  cap : Nat
  E : Nat
  L : Nat
  T : Int
  I : Int
  K : Int
  D : List Int
  D0 : List Int
  bs : List Int
  t0 : Int
  i0 : Int
  k0 : Int
  a0 : Option Addr
  P : Nat
  w0 : World

/-- WHAT HOLDS: the keys 'done' have been read, 'lft' is left to read. -/
structure At (x : Ctx) (done : List Nat) (lft : List Int) (off : Nat) (l : Int) (a : Option Addr) (dl c : Nat) (w : World) : Prop where
  rd : IsReader w x.b (.slice (some ⟨x.g, 0, none⟩) x.len x.cap) off
  buf : Rd w (some ⟨x.g, 0, none⟩) x.len x.bs
  left : x.bs.drop off = lft
  pos : off + lft.length = x.P
  last : IsLast w x.L l
  ent : IsEnt w x.E (if 1 ∈ done then x.T else x.t0) (if 2 ∈ done then x.I else x.i0) (if 3 ∈ done then x.K else x.k0) (.slice a dl c)
  dat : Rd w a dl (if 4 ∈ done then x.D else x.D0)
  far : ∀ y, a = some y → y.block ≠ x.b ∧ y.block ≠ x.E ∧ y.block ≠ x.L ∧ x.B ≤ y.block
  nil : a = none ↔ (4 ∉ done ∧ x.a0 = none)
  bel : Below x.B x.w0 w

/-- The blocks are apart. -/
structure Apart (x : Ctx) : Prop where
  gB : x.g < x.B
  Bb : x.B ≤ x.b
  BE : x.B ≤ x.E
  BL : x.B ≤ x.L
  bE : x.b ≠ x.E
  bL : x.b ≠ x.L
  EL : x.E ≠ x.L

theorem At.lt {x : Ctx} {done : List Nat} {lft : List Int} {off : Nat} {l : Int} {a : Option Addr} {dl c : Nat} {w : World} (h : At x done lft off l a dl c w) (ha : Apart x) : x.B ≤ w.heap.size := by
  have := h.ent.lt; have := ha.BE; omega

/-- A head has been read. -/
theorem At.head {x : Ctx} {done : List Nat} {H lft : List Int} {off : Nat} {l : Int} {a : Option Addr} {dl c : Nat} {w w' : World} (ha : Apart x) (h : At x done (H ++ lft) off l a dl c w)
    (hr : IsReader w' x.b (.slice (some ⟨x.g, 0, none⟩) x.len x.cap) (off + H.length)) (hg : w.grownBy w' (some x.b)) : At x done lft (off + H.length) l a dl c w' := by
  have hB := h.lt ha
  obtain ⟨gB, Bb, BE, BL, bE, bL, EL⟩ := ha
  refine ⟨hr, h.buf.kept hg (fun y e => by cases e; simp; omega), ?_, ?_, h.last.kept hg (by simp; omega), h.ent.kept hg (by simp; omega), h.dat.kept hg (fun y e => by simp; exact (h.far y e).1), h.far, h.nil, below_grown h.bel hg hB Bb⟩
  · rw [← List.drop_drop, h.left]; simp
  · have := h.pos; simp at this; omega

/-- 'last' has been set. -/
theorem At.key {x : Ctx} {done : List Nat} {lft : List Int} {off : Nat} {l : Int} {a : Option Addr} {dl c : Nat} {w : World} (ha : Apart x) (h : At x done lft off l a dl c w) (l' : Int) :
    At x done lft off l' a dl c (w.setCell ⟨x.L, 0, none⟩ (.int .u64 l')) := by
  have hB := h.lt ha
  obtain ⟨gB, Bb, BE, BL, bE, bL, EL⟩ := ha
  have hg := grownBy_set w x.L 0 (.int .u64 l')
  exact ⟨h.rd.kept hg (by simp; omega), h.buf.kept hg (fun y e => by cases e; simp; omega), h.left, h.pos, h.last.set l', h.ent.kept hg (by simp; omega), h.dat.kept hg (fun y e => by simp; exact (h.far y e).2.2.1), h.far, h.nil, below_grown h.bel hg hB BL⟩

theorem At.set1 {x : Ctx} {done : List Nat} {lft : List Int} {off : Nat} {l : Int} {a : Option Addr} {dl c : Nat} {w : World} (ha : Apart x) (h : At x done lft off l a dl c w) :
    At x (done ++ [1]) lft off l a dl c (w.setCell ⟨x.E, 0, none⟩ (.int .u64 x.T)) := by
  have hB := h.lt ha
  obtain ⟨gB, Bb, BE, BL, bE, bL, EL⟩ := ha
  have hg := grownBy_set w x.E 0 (.int .u64 x.T)
  exact ⟨h.rd.kept hg (by simp; omega), h.buf.kept hg (fun y e => by cases e; simp; omega), h.left, h.pos, h.last.kept hg (by simp; omega), by simpa using h.ent.set0 x.T, by simpa using h.dat.kept hg (fun y e => by simp; exact (h.far y e).2.1), h.far, by simpa using h.nil, below_grown h.bel hg hB BE⟩
theorem At.set2 {x : Ctx} {done : List Nat} {lft : List Int} {off : Nat} {l : Int} {a : Option Addr} {dl c : Nat} {w : World} (ha : Apart x) (h : At x done lft off l a dl c w) :
    At x (done ++ [2]) lft off l a dl c (w.setCell ⟨x.E, 1, none⟩ (.int .u64 x.I)) := by
  have hB := h.lt ha
  obtain ⟨gB, Bb, BE, BL, bE, bL, EL⟩ := ha
  have hg := grownBy_set w x.E 1 (.int .u64 x.I)
  exact ⟨h.rd.kept hg (by simp; omega), h.buf.kept hg (fun y e => by cases e; simp; omega), h.left, h.pos, h.last.kept hg (by simp; omega), by simpa using h.ent.set1 x.I, by simpa using h.dat.kept hg (fun y e => by simp; exact (h.far y e).2.1), h.far, by simpa using h.nil, below_grown h.bel hg hB BE⟩
theorem At.set3 {x : Ctx} {done : List Nat} {lft : List Int} {off : Nat} {l : Int} {a : Option Addr} {dl c : Nat} {w : World} (ha : Apart x) (h : At x done lft off l a dl c w) :
    At x (done ++ [3]) lft off l a dl c (w.setCell ⟨x.E, 2, none⟩ (.int .u8 x.K)) := by
  have hB := h.lt ha
  obtain ⟨gB, Bb, BE, BL, bE, bL, EL⟩ := ha
  have hg := grownBy_set w x.E 2 (.int .u8 x.K)
  exact ⟨h.rd.kept hg (by simp; omega), h.buf.kept hg (fun y e => by cases e; simp; omega), h.left, h.pos, h.last.kept hg (by simp; omega), by simpa using h.ent.set2 x.K, by simpa using h.dat.kept hg (fun y e => by simp; exact (h.far y e).2.1), h.far, by simpa using h.nil, below_grown h.bel hg hB BE⟩

/-- The data have been read and stored. -/
theorem At.set4 {x : Ctx} {done : List Nat} {H lft : List Int} {off : Nat} {l : Int} {a : Option Addr} {dl c n : Nat} {w w' : World} (ha : Apart x) (h : At x done (H ++ (x.D ++ lft)) off l a dl c w) (hn : x.D.length = n) (hby : ∀ z, z ∈ x.D → 0 ≤ z ∧ z < 256)
    (hr : IsReader w' x.b (.slice (some ⟨x.g, 0, none⟩) x.len x.cap) (off + H.length + n)) (hg : w.grownBy w' (some x.b)) {g' c' : Nat} (ho : Own w.heap.size w' (.slice (some ⟨g', 0, none⟩) n c') x.D) :
    At x (done ++ [4]) lft (off + H.length + n) l (some ⟨g', 0, none⟩) n c' (w'.setCell ⟨x.E, 3, none⟩ (.slice (some ⟨g', 0, none⟩) n c')) := by
  have hB := h.lt ha
  have hEl := h.ent.lt
  have hbl := h.rd.lt
  have hLl : x.L < w.heap.size := block_lt_of_cell h.last.c
  have hg' := World.ownsRow.lt ho g' rfl
  have hsz := hg.size
  obtain ⟨gB, Bb, BE, BL, bE, bL, EL⟩ := ha
  have hs := grownBy_set w' x.E 3 (.slice (some ⟨g', 0, none⟩) n c')
  refine ⟨hr.kept hs (by simp; omega), (h.buf.kept hg (fun y e => by cases e; simp; omega)).kept hs (fun y e => by cases e; simp; omega), ?_, ?_, (h.last.kept hg (by simp; omega)).kept hs (by simp; omega), ?_, ?_, ?_, by simp, below_grown (below_grown h.bel hg hB Bb) hs (by omega) BE⟩
  · rw [← List.drop_drop, ← List.drop_drop, h.left, List.drop_left, ← hn, List.drop_left]
  · have := h.pos; simp at this; omega
  · have := (h.ent.kept hg (by simp; omega)).set3 (.slice (some ⟨g', 0, none⟩) n c')
    simpa using this
  · rw [if_pos (by simp)]
    exact (ho.rd hn hby).kept hs (fun y e => by cases e; simp; omega)
  · intro y e
    cases e
    simp only
    omega

set_option maxRecDepth 4000 in
set_option maxHeartbeats 1600000 in
theorem entry_any (x : Ctx) (ks : List Nat) (tail : List Int) (off dl0 c0 : Nat) (w : World) (hL : x.L = w.heap.size) (hw0 : x.w0 = w) (hap : Apart x) (hcap : x.len ≤ x.cap) (hlen4 : x.len ≤ 4294967296)
    (h0 : IsReader w x.b (.slice (some ⟨x.g, 0, none⟩) x.len x.cap) off) (hr : Rd w (some ⟨x.g, 0, none⟩) x.len x.bs) (he : IsEnt w x.E x.t0 x.i0 x.k0 (.slice x.a0 dl0 c0)) (hd : Rd w x.a0 dl0 x.D0)
    (hfar : ∀ y, x.a0 = some y → y.block ≠ x.b ∧ y.block ≠ x.E ∧ y.block < w.heap.size ∧ x.B ≤ y.block)
    (hl : x.bs.drop off = head 160 (ks.length : Int) ++ (items x.T x.I x.K x.D ks ++ tail)) (hP : off + (head 160 (ks.length : Int)).length + (items x.T x.I x.K x.D ks ++ tail).length = x.P)
    (hks : ∀ done k rem, ks = done ++ k :: rem → (k = 1 ∨ k = 2 ∨ k = 3 ∨ k = 4) ∧ ∀ j, j ∈ done → j < k) (hkl : ks.length ≤ 4)
    (hT : 0 ≤ x.T ∧ x.T < 18446744073709551616) (hI : 0 ≤ x.I ∧ x.I < 18446744073709551616) (hK : 0 ≤ x.K ∧ x.K < 256) (hD : ∀ z, z ∈ x.D → 0 ≤ z ∧ z < 256) :
    Calls Try.prog 30 #[.pointer (some ⟨x.b, 0, none⟩), .pointer (some ⟨x.E, 0, none⟩)] w fun e w' => e = .returned (.tuple #[]) ∧ ∃ off' l a dl c, At x ks tail off' l a dl c w' := by
  have hB : x.B ≤ w.heap.size := by rw [← hL]; exact hap.BL
  have hbl := h0.lt
  have hEl := he.lt
  have A0 : At x [] (head 160 (ks.length : Int) ++ (items x.T x.I x.K x.D ks ++ tail)) off 0 x.a0 dl0 c0 (w.alloc (.cells #[.int .u64 0] 22)) := by
    have hg := World.grownBy_alloc w (.cells #[.int .u64 0] 22) none
    refine ⟨h0.kept hg (by simp), hr.kept hg (fun _ _ => by simp), hl, by rw [List.length_append]; omega, ?_, by simpa using he.kept hg (by simp), by simpa using hd.kept hg (fun _ _ => by simp), ?_, by simp, by rw [hw0]; exact (Below.refl _ _).alloc hB _⟩
    · rw [hL]
      exact ⟨by simp, by simp⟩
    · intro y e
      have := hfar y e
      exact ⟨this.1, this.2.1, by rw [hL]; omega, this.2.2.2⟩
  have HA0 := hide A0
  have HAp := hide hap
  have HKs := hide hks
  have HD := hide hD
  have HL := hide hL
  obtain ⟨hT0, hT1⟩ := hT
  obtain ⟨hI0, hI1⟩ := hI
  obtain ⟨hK0, hK1⟩ := hK
  clear A0 h0 hr he hd hfar hl hP hks hD hw0 hap hL
  go_enter Try.func30, Try.ntmps30
  go_wp2_with fail
  refine (head_any x.b x.g x.len x.cap off 160 (ks.length : Int) x.bs _ _ isMajor160 (by omega) (by omega) (by have := HAp.out.gB; have := HAp.out.Bb; omega) hcap hlen4 HA0.out.rd HA0.out.buf HA0.out.left).mono ?_
  rintro e w2 ⟨rfl, hr2, hg2⟩
  have A2 := At.head HAp.out HA0.out hr2 hg2
  have HA2 := hide A2
  clear A2 hr2 hg2 HA0
  go_wp2_with fail
  go_loopw [5] (fun nn wr => ∃ (done rem : List Nat) (off ln : Nat) (a : Option Addr) (dl c : Nat), nn = .int .u64 (rem.length : Int) ∧ ks = done ++ rem ∧ (ln = 0 ∨ ln ∈ done) ∧ At x done (items x.T x.I x.K x.D rem ++ tail) off (ln : Int) a dl c wr) (fun nn _ => (intOf nn).toNat)
  case atStart => exact ⟨[], ks, _, 0, _, _, _, rfl, rfl, .inl rfl, HA2.out⟩
  case round =>
    clear HA2
    obtain ⟨done, rem, off, ln, a, dl, c, rfl, hdone, hln, hat⟩ := hrel
    have HDone := hide hdone
    have hll : rem.length ≤ 4 := by rw [hdone] at hkl; simp at hkl; omega
    have HG : Hid (x.g ≠ x.b) := by have := HAp.out.gB; have := HAp.out.Bb; show x.g ≠ x.b; omega
    have HLb : Hid (w.heap.size ≠ x.b) := by have := HAp.out.bL; rw [HL.out] at this; exact Ne.symm this
    cases rem with
    | nil =>
      have HA := hide hat
      clear hat hdone
      go_wp2
      go_end0
      refine ⟨rfl, off, ln, a, dl, c, ?_⟩
      have h1 := HDone.out
      simp only [List.append_nil] at h1
      rw [h1]
      simpa [items] using HA.out
    | cons k rem =>
      have hk := HKs.out done k rem hdone
      have hlk : (ln : Int) < (k : Int) := by
        rcases hln with h | h
        · rcases hk.1 with h' | h' | h' | h' <;> omega
        · have := hk.2 ln h; omega
      have HLn := hide hln
      clear hdone hln
      simp only [List.length_cons] at hll ⊢
      rcases hk.1 with hk1 | hk1 | hk1 | hk1
      · obtain rfl : k = 1 := hk1
        have HA := hide (show At x done (head 0 ((1 : Nat) : Int) ++ (payload x.T x.I x.K x.D 1 ++ (items x.T x.I x.K x.D rem ++ tail))) off (ln : Int) a dl c wr by
          have := hat; rw [items_cons, List.append_assoc, List.append_assoc] at this; exact this)
        clear hat
        go_wp2_with fail
        refine (ok_any x.b _ off wr HA.out.rd).mono ?_
        rintro e w3 ⟨rfl, rfl⟩
        go_wp2_with fail
        refine (key_any x.b x.g x.len x.cap off w.heap.size 1 ln x.bs _ wr (by omega) (by omega) hlk HG.out HLb.out hcap hlen4 HA.out.rd HA.out.buf HA.out.left (by rw [← HL.out]; exact HA.out.last.c) (by rw [← HL.out]; exact HA.out.last.f)).mono ?_
        rintro e w4 ⟨rfl, w5, hr5, hg5, rfl⟩
        have HA4 := hide (show At x done (payload x.T x.I x.K x.D 1 ++ (items x.T x.I x.K x.D rem ++ tail)) (off + (head 0 ((1 : Nat) : Int)).length) (1 : Int) a dl c (w5.setCell ⟨w.heap.size, 0, none⟩ (.int .u64 1)) by
          have := (At.head HAp.out HA.out hr5 hg5).key HAp.out 1; rw [HL.out] at this; exact this)
        clear hr5 hg5 HA
        obtain ⟨w6, hw6⟩ : ∃ w6, w6 = w5.setCell ⟨w.heap.size, 0, none⟩ (.int .u64 1) := ⟨_, rfl⟩
        rw [← hw6] at HA4 ⊢
        clear hw6
        go_wp2_with fail
        refine (uint_any x.b x.g x.len x.cap _ x.T 18446744073709551615 x.bs _ w6 hT0 hT1 (by omega) HG.out hcap hlen4 HA4.out.rd HA4.out.buf HA4.out.left).mono ?_
        rintro e w7 ⟨rfl, hr7, hg7⟩
        have A7 := At.head HAp.out HA4.out hr7 hg7
        have HA7 := hide A7
        have HNew := hide (A7.set1 HAp.out)
        obtain ⟨e0, e1, e2, e3, f0, f1, f2, f3⟩ := A7.ent
        clear hr7 hg7 HA4 A7
        generalize (if 1 ∈ done then x.T else x.t0) = z1 at e0
        generalize (if 2 ∈ done then x.I else x.i0) = z2 at e1
        generalize (if 3 ∈ done then x.K else x.k0) = z3 at e2
        go_wp2
        go_roundw
        case rel => exact ⟨done ++ [1], rem, _, 1, _, _, _, by go_num, by rw [HDone.out]; simp, .inr (by simp), HNew.out⟩
        case measure => simp [intOf]
      · obtain rfl : k = 2 := hk1
        have HA := hide (show At x done (head 0 ((2 : Nat) : Int) ++ (payload x.T x.I x.K x.D 2 ++ (items x.T x.I x.K x.D rem ++ tail))) off (ln : Int) a dl c wr by
          have := hat; rw [items_cons, List.append_assoc, List.append_assoc] at this; exact this)
        clear hat
        go_wp2_with fail
        refine (ok_any x.b _ off wr HA.out.rd).mono ?_
        rintro e w3 ⟨rfl, rfl⟩
        go_wp2_with fail
        refine (key_any x.b x.g x.len x.cap off w.heap.size 2 ln x.bs _ wr (by omega) (by omega) hlk HG.out HLb.out hcap hlen4 HA.out.rd HA.out.buf HA.out.left (by rw [← HL.out]; exact HA.out.last.c) (by rw [← HL.out]; exact HA.out.last.f)).mono ?_
        rintro e w4 ⟨rfl, w5, hr5, hg5, rfl⟩
        have HA4 := hide (show At x done (payload x.T x.I x.K x.D 2 ++ (items x.T x.I x.K x.D rem ++ tail)) (off + (head 0 ((2 : Nat) : Int)).length) (2 : Int) a dl c (w5.setCell ⟨w.heap.size, 0, none⟩ (.int .u64 2)) by
          have := (At.head HAp.out HA.out hr5 hg5).key HAp.out 2; rw [HL.out] at this; exact this)
        clear hr5 hg5 HA
        obtain ⟨w6, hw6⟩ : ∃ w6, w6 = w5.setCell ⟨w.heap.size, 0, none⟩ (.int .u64 2) := ⟨_, rfl⟩
        rw [← hw6] at HA4 ⊢
        clear hw6
        go_wp2_with fail
        refine (uint_any x.b x.g x.len x.cap _ x.I 18446744073709551615 x.bs _ w6 hI0 hI1 (by omega) HG.out hcap hlen4 HA4.out.rd HA4.out.buf HA4.out.left).mono ?_
        rintro e w7 ⟨rfl, hr7, hg7⟩
        have A7 := At.head HAp.out HA4.out hr7 hg7
        have HA7 := hide A7
        have HNew := hide (A7.set2 HAp.out)
        obtain ⟨e0, e1, e2, e3, f0, f1, f2, f3⟩ := A7.ent
        clear hr7 hg7 HA4 A7
        generalize (if 1 ∈ done then x.T else x.t0) = z1 at e0
        generalize (if 2 ∈ done then x.I else x.i0) = z2 at e1
        generalize (if 3 ∈ done then x.K else x.k0) = z3 at e2
        go_wp2
        go_roundw
        case rel => exact ⟨done ++ [2], rem, _, 2, _, _, _, by go_num, by rw [HDone.out]; simp, .inr (by simp), HNew.out⟩
        case measure => simp [intOf]
      · obtain rfl : k = 3 := hk1
        have HA := hide (show At x done (head 0 ((3 : Nat) : Int) ++ (payload x.T x.I x.K x.D 3 ++ (items x.T x.I x.K x.D rem ++ tail))) off (ln : Int) a dl c wr by
          have := hat; rw [items_cons, List.append_assoc, List.append_assoc] at this; exact this)
        clear hat
        go_wp2_with fail
        refine (ok_any x.b _ off wr HA.out.rd).mono ?_
        rintro e w3 ⟨rfl, rfl⟩
        go_wp2_with fail
        refine (key_any x.b x.g x.len x.cap off w.heap.size 3 ln x.bs _ wr (by omega) (by omega) hlk HG.out HLb.out hcap hlen4 HA.out.rd HA.out.buf HA.out.left (by rw [← HL.out]; exact HA.out.last.c) (by rw [← HL.out]; exact HA.out.last.f)).mono ?_
        rintro e w4 ⟨rfl, w5, hr5, hg5, rfl⟩
        have HA4 := hide (show At x done (payload x.T x.I x.K x.D 3 ++ (items x.T x.I x.K x.D rem ++ tail)) (off + (head 0 ((3 : Nat) : Int)).length) (3 : Int) a dl c (w5.setCell ⟨w.heap.size, 0, none⟩ (.int .u64 3)) by
          have := (At.head HAp.out HA.out hr5 hg5).key HAp.out 3; rw [HL.out] at this; exact this)
        clear hr5 hg5 HA
        obtain ⟨w6, hw6⟩ : ∃ w6, w6 = w5.setCell ⟨w.heap.size, 0, none⟩ (.int .u64 3) := ⟨_, rfl⟩
        rw [← hw6] at HA4 ⊢
        clear hw6
        go_wp2_with fail
        refine (uint_any x.b x.g x.len x.cap _ x.K 255 x.bs _ w6 hK0 (by omega) (by omega) HG.out hcap hlen4 HA4.out.rd HA4.out.buf HA4.out.left).mono ?_
        rintro e w7 ⟨rfl, hr7, hg7⟩
        have A7 := At.head HAp.out HA4.out hr7 hg7
        have HA7 := hide A7
        have HNew := hide (A7.set3 HAp.out)
        obtain ⟨e0, e1, e2, e3, f0, f1, f2, f3⟩ := A7.ent
        clear hr7 hg7 HA4 A7
        generalize (if 1 ∈ done then x.T else x.t0) = z1 at e0
        generalize (if 2 ∈ done then x.I else x.i0) = z2 at e1
        generalize (if 3 ∈ done then x.K else x.k0) = z3 at e2
        go_wp2
        go_roundw
        case rel => exact ⟨done ++ [3], rem, _, 3, _, _, _, by go_num, by rw [HDone.out]; simp, .inr (by simp), HNew.out⟩
        case measure => simp [intOf]
      · obtain rfl : k = 4 := hk1
        have HA := hide (show At x done (head 0 ((4 : Nat) : Int) ++ (payload x.T x.I x.K x.D 4 ++ (items x.T x.I x.K x.D rem ++ tail))) off (ln : Int) a dl c wr by
          have := hat; rw [items_cons, List.append_assoc, List.append_assoc] at this; exact this)
        clear hat
        go_wp2_with fail
        refine (ok_any x.b _ off wr HA.out.rd).mono ?_
        rintro e w3 ⟨rfl, rfl⟩
        go_wp2_with fail
        refine (key_any x.b x.g x.len x.cap off w.heap.size 4 ln x.bs _ wr (by omega) (by omega) hlk HG.out HLb.out hcap hlen4 HA.out.rd HA.out.buf HA.out.left (by rw [← HL.out]; exact HA.out.last.c) (by rw [← HL.out]; exact HA.out.last.f)).mono ?_
        rintro e w4 ⟨rfl, w5, hr5, hg5, rfl⟩
        have HA4 := hide (show At x done (payload x.T x.I x.K x.D 4 ++ (items x.T x.I x.K x.D rem ++ tail)) (off + (head 0 ((4 : Nat) : Int)).length) (4 : Int) a dl c (w5.setCell ⟨w.heap.size, 0, none⟩ (.int .u64 4)) by
          have := (At.head HAp.out HA.out hr5 hg5).key HAp.out 4; rw [HL.out] at this; exact this)
        clear hr5 hg5 HA
        obtain ⟨w6, hw6⟩ : ∃ w6, w6 = w5.setCell ⟨w.heap.size, 0, none⟩ (.int .u64 4) := ⟨_, rfl⟩
        rw [← hw6] at HA4 ⊢
        clear hw6
        go_wp2_with fail
        refine (bytes_any x.b x.g x.len x.cap _ x.D.length x.bs x.D (items x.T x.I x.K x.D rem ++ tail) w6 HG.out hcap hlen4 HA4.out.rd HA4.out.buf (by have := HA4.out.left; rw [this]; simp [payload]) rfl).mono ?_
        rintro e w7 ⟨g', c', rfl, ho7, hr7, hg7⟩
        have HNew := hide (At.set4 HAp.out (show At x done (head 64 (x.D.length : Int) ++ (x.D ++ (items x.T x.I x.K x.D rem ++ tail))) _ 4 a dl c w6 by have := HA4.out; simpa [payload] using this) rfl HD.out hr7 hg7 ho7)
        have hent := HA4.out.ent.kept hg7 (by simp; exact Ne.symm HAp.out.bE)
        obtain ⟨e0, e1, e2, e3, f0, f1, f2, f3⟩ := hent
        clear hr7 hg7 HA4 ho7
        generalize (if 1 ∈ done then x.T else x.t0) = z1 at e0
        generalize (if 2 ∈ done then x.I else x.i0) = z2 at e1
        generalize (if 3 ∈ done then x.K else x.k0) = z3 at e2
        go_wp2
        go_roundw
        case rel => exact ⟨done ++ [4], rem, _, 4, _, _, _, by go_num, by rw [HDone.out]; simp, .inr (by simp), HNew.out⟩
        case measure => simp [intOf]
end Go.Proofs.Qxb6616937a
