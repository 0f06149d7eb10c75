/-
  THE CALL OF ZZcborReaderEntry IN THE CBOR LAW, in the law's own letters.
-/
import Derived.Test.Qxb6616937aPlain
namespace Go.Proofs.Qxb6616937a
open Go.RowKit

theorem buffer_left (T I K : Int) (d3 d5 d6 Z0 Z1 Z2 Z3 Z4 : List Int) (p1 p2 p3 p4 : Bool) (cn l3 l5 : Nat) (h3 : d3.length = l3) (h5 : d5.length = l5)
    (z0 : Z0 = d5 ++ head 160 (cn : Int)) (z1 : Z1 = Z0 ++ part1 p1 (1 :: head 0 T)) (z2 : Z2 = Z1 ++ part1 p2 (2 :: head 0 I)) (z3 : Z3 = Z2 ++ part1 p3 (3 :: head 0 K)) (z4 : Z4 = Z3 ++ part1 p4 (4 :: (head 64 (l3 : Int) ++ d3))) :
    Z4 = d5 ++ (head 160 (cn : Int) ++ items T I K d3 (keysOf p1 p2 p3 p4)) ∧ (Z4 ++ d6).drop l5 = head 160 (cn : Int) ++ (items T I K d3 (keysOf p1 p2 p3 p4) ++ d6) := by
  have e : Z4 = d5 ++ (head 160 (cn : Int) ++ items T I K d3 (keysOf p1 p2 p3 p4)) := by
    rw [z4, z3, z2, z1, z0, items_keys, h3]
    simp only [List.append_assoc]
  refine ⟨e, ?_⟩
  rw [e, List.append_assoc, ← h5, List.drop_left]
  simp only [List.append_assoc]

/-- What keeps every old block keeps a slice that reads, and the entry and the reader. -/
theorem grownBy_of_below {w w' : World} (h : Below w.heap.size w w') : w.grownBy w' none := ⟨h.os, h.tape, h.output, h.size, fun k hk _ => h.block k hk⟩
theorem IsEnt.later {w w' : World} {E : Nat} {t i kd : Int} {dv : Value} (h : IsEnt w E t i kd dv) (hb : Below w.heap.size w w') : IsEnt w' E t i kd dv := h.kept (grownBy_of_below hb) (by simp)
theorem IsReader.later {w w' : World} {b : Nat} {v : Value} {off : Nat} (h : IsReader w b v off) (hb : Below w.heap.size w w') : IsReader w' b v off := h.kept (grownBy_of_below hb) (by simp)

theorem readEntry_law (T I K ot oi ok : Int) (d3 d5 d6 d10 Z4 : List Int) (p1 p2 p3 p4 : Bool) (cn l5 l6 m4 l10 g cap b E : Nat) (a11 : Option Addr) (w : World)
    (hT : 0 ≤ T ∧ T < 18446744073709551616) (hI : 0 ≤ I ∧ I < 18446744073709551616) (hK : 0 ≤ K ∧ K < 256)
    (hcn : cn = (keysOf p1 p2 p3 p4).length) (h6 : d6.length = l6) (h5 : d5.length = l5) (hm : Z4.length = m4) (hmax : m4 + l6 ≤ 2097152) (hcap : m4 + l6 ≤ cap)
    (hZ : Z4 = d5 ++ (head 160 (cn : Int) ++ items T I K d3 (keysOf p1 p2 p3 p4))) (hl : (Z4 ++ d6).drop l5 = head 160 (cn : Int) ++ (items T I K d3 (keysOf p1 p2 p3 p4) ++ d6))
    (hgb : g < b) (hbE : b < E)
    (h0 : IsReader w b (.slice (some ⟨g, 0, none⟩) (m4 + l6) cap) l5) (hr : Rd w (some ⟨g, 0, none⟩) (m4 + l6) (Z4 ++ d6)) (he : IsEnt w E ot oi ok (.slice a11 l10 l10)) (hd : Rd w a11 l10 d10) (hby : ∀ z, z ∈ d3 → 0 ≤ z ∧ z < 256)
    (hfar : ∀ y, a11 = some y → b < y.block ∧ y.block < E) :
    Calls Try.prog 14 #[.pointer (some ⟨b, 0, none⟩), .pointer (some ⟨E, 0, none⟩)] w fun e w' => e = .returned (.tuple #[]) ∧ ∃ a dl c, IsReader w' b (.slice (some ⟨g, 0, none⟩) (m4 + l6) cap) m4 ∧
      IsEnt w' E (if p1 then T else ot) (if p2 then I else oi) (if p3 then K else ok) (.slice a dl c) ∧ Rd w' a dl (if p4 then d3 else d10) ∧ (∀ y, a = some y → b < y.block) ∧ (a = none ↔ (p4 = false ∧ a11 = none)) ∧ Below b w w' := by
  have hEl := he.lt
  let x : Ctx := { B := b, b := b, g := g, len := m4 + l6, cap := cap, E := E, L := w.heap.size, T := T, I := I, K := K, D := d3, D0 := d10, bs := Z4 ++ d6, t0 := ot, i0 := oi, k0 := ok, a0 := a11, P := m4 + l6, w0 := w }
  have hap : Apart x := ⟨hgb, Nat.le_refl _, by show b ≤ E; omega, by show b ≤ w.heap.size; omega, by show b ≠ E; omega, by show b ≠ w.heap.size; omega, by show E ≠ w.heap.size; omega⟩
  refine (readerEntry_any b E _ w (entry_any x (keysOf p1 p2 p3 p4) d6 l5 l10 l10 w rfl rfl hap hcap (by show m4 + l6 ≤ _; omega) h0 hr he hd (fun y e => ?_) (by rw [← hcn]; exact hl) ?_ (keys_inc p1 p2 p3 p4) (keys_le p1 p2 p3 p4) hT hI hK hby)).mono ?_
  · have := hfar y e
    exact ⟨by show y.block ≠ b; omega, by show y.block ≠ E; omega, by omega, by show b ≤ y.block; omega⟩
  · show l5 + (head 160 ((keysOf p1 p2 p3 p4).length : Int)).length + (items T I K d3 (keysOf p1 p2 p3 p4) ++ d6).length = m4 + l6
    rw [← hcn, ← hm, hZ]
    simp only [List.length_append]
    omega
  · rintro e w' ⟨rfl, off', l, a, dl, c, hat⟩
    obtain ⟨k1, k2, k3, k4⟩ := mem_keys p1 p2 p3 p4
    have hoff : off' = m4 := by have := hat.pos; simp only [x] at this; omega
    subst hoff
    refine ⟨rfl, a, dl, c, hat.rd, ?_, ?_, ?_, ?_, hat.bel⟩
    · have := hat.ent
      simp only [k1, k2, k3, x] at this
      exact this
    · have := hat.dat
      simp only [k4, x] at this
      exact this
    · intro y e
      have h1 := hat.far y e
      have h2 : b ≤ y.block := h1.2.2.2
      have h3 : y.block ≠ b := h1.1
      omega
    · have := hat.nil
      simp only [k4, x] at this
      simpa using this

/-- A row of the call's own, where only blocks from B' on have turned. -/
theorem Own.below {B B' : Nat} {w w' : World} {g n cap : Nat} {bs : List Int} (h : Own B w (.slice (some ⟨g, 0, none⟩) n cap) bs) (hb : Below B' w w') (hlt : g < B') : Own B w' (.slice (some ⟨g, 0, none⟩) n cap) bs := by
  unfold Own at h ⊢
  refine ⟨h.1, ?_⟩
  rcases h.2 with ⟨e, _⟩ | ⟨g', c', cur, e, hB, hg, rest⟩
  · cases e
  · cases e
    exact .inr ⟨g, cap, cur, rfl, hB, (hb.block g hlt).trans hg, rest⟩
theorem Own.later {B : Nat} {w w' : World} {g n cap : Nat} {bs : List Int} (h : Own B w (.slice (some ⟨g, 0, none⟩) n cap) bs) (hb : Below w.heap.size w w') : Own B w' (.slice (some ⟨g, 0, none⟩) n cap) bs :=
  h.below hb (World.ownsRow.lt h g rfl).2
theorem Own.set {B : Nat} {w : World} {g n cap : Nat} {bs : List Int} (h : Own B w (.slice (some ⟨g, 0, none⟩) n cap) bs) (hn : bs.length = n) (k : Nat) (x : Int) : Own B (w.setCell ⟨g, k, none⟩ (.int .u8 x)) (.slice (some ⟨g, 0, none⟩) n cap) (bs.set k x) := by
  subst hn
  have := (World.ownsRow.stored h k (.int .u8 x)).1
  unfold Own
  rw [List.length_set]
  have e : toB (bs.set k x) = (toB bs).set k (.int .u8 x) := by simp [toB, List.map_set]
  rw [e]
  exact this

theorem head_byte (M v : Int) (hM : IsMajor M) (h0 : 0 ≤ v) : ∀ z, z ∈ head M v → 0 ≤ z ∧ z < 256 := by
  have hb : ∀ n z, z ∈ be v n → 0 ≤ z ∧ z < 256 := by
    intro n
    induction n with
    | zero => intro z hz; simp [be] at hz
    | succ n ih =>
      intro z hz
      simp only [be, List.mem_cons] at hz
      rcases hz with rfl | hz
      · omega
      · exact ih z hz
  have hx : ∀ x, 0 ≤ x → x < 32 → 0 ≤ bits BinOp.or IntKind.u8 M x ∧ bits BinOp.or IntKind.u8 M x < 256 := by
    intro x a b
    rw [or_major M x hM a b]
    rcases hM with rfl | rfl | rfl <;> omega
  intro z hz
  unfold head at hz
  split at hz
  · simp at hz; subst hz; exact hx v h0 (by omega)
  repeat' split at hz
  all_goals
    simp only [List.mem_cons] at hz
    rcases hz with rfl | hz
    · exact hx _ (by omega) (by omega)
    · exact hb _ z hz

theorem items_byte (T I K : Int) (D : List Int) (p1 p2 p3 p4 : Bool) (hT : 0 ≤ T) (hI : 0 ≤ I) (hK : 0 ≤ K) (hD : ∀ z, z ∈ D → 0 ≤ z ∧ z < 256) : ∀ z, z ∈ items T I K D (keysOf p1 p2 p3 p4) → 0 ≤ z ∧ z < 256 := by
  intro z hz
  rw [items_keys] at hz
  have h1 := head_byte 0 T isMajor0 hT z
  have h2 := head_byte 0 I isMajor0 hI z
  have h3 := head_byte 0 K isMajor0 hK z
  have h4 := head_byte 64 (D.length : Int) isMajor64 (by omega) z
  have h5 := hD z
  simp only [List.mem_append] at hz
  rcases hz with hz | hz | hz | hz
  · cases p1 <;> simp [part1] at hz
    rcases hz with rfl | hz
    · omega
    · exact h1 hz
  · cases p2 <;> simp [part1] at hz
    rcases hz with rfl | hz
    · omega
    · exact h2 hz
  · cases p3 <;> simp [part1] at hz
    rcases hz with rfl | hz
    · omega
    · exact h3 hz
  · cases p4 <;> simp [part1] at hz
    rcases hz with rfl | hz | hz
    · omega
    · exact h4 hz
    · exact h5 hz

theorem Own.cellAt {B : Nat} {w : World} {g n cap : Nat} {bs : List Int} (h : Own B w (.slice (some ⟨g, 0, none⟩) n cap) bs) (hn : bs.length = n) (k : Nat) (hk : k < n) : w.cell? ⟨g, k, none⟩ = some (.int .u8 (bs[k]?.getD 0)) := by
  subst hn
  have := World.ownsRow.cellAt h k (by omega)
  rw [toB_get bs k hk] at this
  exact this
theorem Own.frozenAt {B : Nat} {w : World} {g n cap : Nat} {bs : List Int} (h : Own B w (.slice (some ⟨g, 0, none⟩) n cap) bs) (hn : bs.length = n) (k : Nat) : w.frozen? ⟨g, k, none⟩ = false := by
  subst hn
  exact World.ownsRow.frozenAt h k
end Go.Proofs.Qxb6616937a
