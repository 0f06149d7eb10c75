/-
  THE CBOR READER: left, ok, head: what they do at a reader that has not failed and stands ahead of a head that zzCborPutHead wrote.
-/
import Derived.Test.Qxb6616937aHeadW
namespace Go.Proofs.Qxb6616937a
open Go.RowKit

/-! ### Bits -/
theorem or_major_fin : ∀ x : Fin 32, bits BinOp.or IntKind.u8 0 x.val = 0 + x.val ∧ bits BinOp.or IntKind.u8 64 x.val = 64 + x.val ∧ bits BinOp.or IntKind.u8 160 x.val = 160 + x.val := by decide
theorem and_major_fin : ∀ x : Fin 32, bits BinOp.and IntKind.u8 (0 + x.val) 224 = 0 ∧ bits BinOp.and IntKind.u8 (64 + x.val) 224 = 64 ∧ bits BinOp.and IntKind.u8 (160 + x.val) 224 = 160 := by decide
theorem and_info_fin : ∀ x : Fin 32, bits BinOp.and IntKind.u8 (0 + x.val) 31 = x.val ∧ bits BinOp.and IntKind.u8 (64 + x.val) 31 = x.val ∧ bits BinOp.and IntKind.u8 (160 + x.val) 31 = x.val := by decide

def IsMajor (M : Int) : Prop := M = 0 ∨ M = 64 ∨ M = 160

theorem fin_of (x : Int) (h0 : 0 ≤ x) (h1 : x < 32) : ∃ y : Fin 32, x = (y.val : Int) := ⟨⟨x.toNat, by omega⟩, by simp; omega⟩
theorem or_major (M x : Int) (hM : IsMajor M) (h0 : 0 ≤ x) (h1 : x < 32) : bits BinOp.or IntKind.u8 M x = M + x := by
  obtain ⟨y, rfl⟩ := fin_of x h0 h1
  rcases hM with rfl | rfl | rfl
  · exact (or_major_fin y).1
  · exact (or_major_fin y).2.1
  · exact (or_major_fin y).2.2
theorem and_major (M x : Int) (hM : IsMajor M) (h0 : 0 ≤ x) (h1 : x < 32) : bits BinOp.and IntKind.u8 (M + x) 224 = M := by
  obtain ⟨y, rfl⟩ := fin_of x h0 h1
  rcases hM with rfl | rfl | rfl
  · exact (and_major_fin y).1
  · exact (and_major_fin y).2.1
  · exact (and_major_fin y).2.2
theorem and_info (M x : Int) (hM : IsMajor M) (h0 : 0 ≤ x) (h1 : x < 32) : bits BinOp.and IntKind.u8 (M + x) 31 = x := by
  obtain ⟨y, rfl⟩ := fin_of x h0 h1
  rcases hM with rfl | rfl | rfl
  · exact (and_info_fin y).1
  · exact (and_info_fin y).2.1
  · exact (and_info_fin y).2.2

/-! ### The reader in memory -/
structure IsReader (w : World) (b : Nat) (v : Value) (off : Nat) : Prop where
  data : w.cell? ⟨b, 0, none⟩ = some v
  pos : w.cell? ⟨b, 1, none⟩ = some (.int .i64 off)
  failed : w.cell? ⟨b, 2, none⟩ = some (.bool false)
  fpos : w.frozen? ⟨b, 1, none⟩ = false

theorem left_any (b : Nat) (a : Option Addr) (len cap off : Nat) (w : World) (h : IsReader w b (.slice a len cap) off) (h1 : off ≤ len) (h2 : len ≤ 9223372036854775807) :
    Calls Try.prog 42 #[.pointer (some ⟨b, 0, none⟩)] w fun e w' => e = .returned (.int .i64 ((len : Int) - off)) ∧ ∃ n, w' = w.drewN n := by
  obtain ⟨c0, c1, c2, _⟩ := h
  have h3 : (off : Int) ≤ (len : Int) := by omega
  go_enter Try.func42, Try.ntmps42
  go_wp2
  go_quiet (fail)
  go_wp2
  go_ret
  exact ⟨rfl, _, rfl⟩

theorem ok_any (b : Nat) (v : Value) (off : Nat) (w : World) (h : IsReader w b v off) :
    Calls Try.prog 34 #[.pointer (some ⟨b, 0, none⟩)] w fun e w' => e = .returned (.bool true) ∧ w = w' := by
  obtain ⟨c0, c1, c2, _⟩ := h
  go_enter Try.func34, Try.ntmps34
  go_wp2
  go_ret
  exact ⟨rfl, rfl⟩

theorem IsReader.drewN {w : World} {b : Nat} {v : Value} {off : Nat} (h : IsReader w b v off) (n : Nat) : IsReader (w.drewN n) b v off := ⟨h.data, h.pos, h.failed, h.fpos⟩

set_option maxRecDepth 4000 in
set_option maxHeartbeats 400000 in
theorem head_small (b g len cap off : Nat) (M x y : Int) (w : World) (h : IsReader w b (.slice (some ⟨g, 0, none⟩) len cap) off) (h1 : off < len) (h2 : len ≤ 9223372036854775806)
    (hc : w.cell? ⟨g, off, none⟩ = some (.int .u8 y)) (e1 : bits BinOp.and IntKind.u8 y 224 = M) (e2 : bits BinOp.and IntKind.u8 y 31 = x) (hx0 : 0 ≤ x) (hx : x < 24) :
    Calls Try.prog 33 #[.pointer (some ⟨b, 0, none⟩), .int .u8 M] w fun e w' => e = .returned (.int .u64 x) ∧ ∃ n, w' = (w.setCell ⟨b, 1, none⟩ (.int .i64 ((off : Int) + 1))).drewN n := by
  have HR := hide h
  obtain ⟨c0, c1, c2, c3⟩ := h
  have t1 : (off : Int) < (len : Int) := by omega
  have t2 : (0 : Int) ≤ (off : Int) := by omega
  have t3 : decide ((len : Int) - (off : Int) < 1) = false := decide_eq_false (by omega)
  have t4 : (M != M) = false := by simp
  have t5 : decide (x < 24) = true := decide_eq_true hx
  go_enter Try.func33, Try.ntmps33
  go_wp2
  go_quiet ((go_at_call 42; exact Calls.quiet_of (left_any b (some ⟨g, 0, none⟩) len cap off _ (HR.out.drewN _) (by omega) (by omega))))
  go_wp2
  go_quiet (fail)
  go_wp2
  go_ret
  exact ⟨rfl, _, rfl⟩

theorem IsReader.moved {w : World} {b : Nat} {v : Value} {off : Nat} (h : IsReader w b v off) (off' : Nat) (z : Int) (hz : z = off') : IsReader (w.setCell ⟨b, 1, none⟩ (.int .i64 z)) b v off' := by
  subst hz
  obtain ⟨h1, h2, h3, h4⟩ := h
  refine ⟨?_, ?_, ?_, ?_⟩
  · rw [World.cell?_setCell_other _ _ _ _ (by simp)]; exact h1
  · exact World.cell?_setCell_same' _ _ _ (by rw [h2]; rfl)
  · rw [World.cell?_setCell_other _ _ _ _ (by simp)]; exact h3
  · simp [h4]

/-! ### Frames: what a step on the reader leaves alone -/
theorem grownBy_trans {a b c : World} {r : Option Nat} (h : a.grownBy b r) (k : b.grownBy c r) : a.grownBy c r :=
  ⟨k.os.trans h.os, k.tape.trans h.tape, k.output.trans h.output, Nat.le_trans h.size k.size, fun j hj hr => (k.block j (Nat.lt_of_lt_of_le hj h.size) hr).trans (h.block j hj hr)⟩
theorem grownBy_refl (w : World) (r : Option Nat) : w.grownBy w r := ⟨rfl, rfl, rfl, Nat.le_refl _, fun _ _ _ => rfl⟩
theorem grownBy_drewN {a b : World} {r : Option Nat} (h : a.grownBy b r) (n : Nat) : a.grownBy (b.drewN n) r := ⟨h.os, h.tape, h.output, h.size, h.block⟩
theorem grownBy_ofDrewN {a b : World} {r : Option Nat} {n : Nat} (h : (a.drewN n).grownBy b r) : a.grownBy b r := ⟨h.os, h.tape, h.output, h.size, h.block⟩
theorem IsReader.of_heap {w w' : World} {b : Nat} {v : Value} {off : Nat} (h : IsReader w b v off) (e : w'.heap = w.heap) : IsReader w' b v off :=
  ⟨(World.cell?_of_block (by rw [e])).trans h.data, (World.cell?_of_block (by rw [e])).trans h.pos, (World.cell?_of_block (by rw [e])).trans h.failed, (World.frozen?_of_block (by rw [e])).trans h.fpos⟩
theorem grownBy_setCell {a b : World} {g : Nat} (h : a.grownBy b (some g)) (j : Nat) (v : Value) : a.grownBy (b.setCell ⟨g, j, none⟩ v) (some g) :=
  grownBy_trans h ⟨rfl, rfl, rfl, by simp, fun k _ hk => heap_setCell_other b ⟨g, j, none⟩ k v (fun e => hk (by simp [e]))⟩

theorem or_shift (n c : Int) (h1 : 0 ≤ n) (h2 : n < 72057594037927936) (h3 : 0 ≤ c) (h4 : c < 256) : bits BinOp.or IntKind.u64 (n * 256) c = n * 256 + c := by
  obtain ⟨a, rfl⟩ := Int.eq_ofNat_of_zero_le h1
  obtain ⟨b, rfl⟩ := Int.eq_ofNat_of_zero_le h3
  have ha : a * 256 < 18446744073709551616 := by omega
  have e1 : (BitVec.ofInt 64 ((a * 256 : Nat) : Int)).toNat = a * 256 := by
    rw [BitVec.ofInt_natCast, BitVec.toNat_ofNat]; exact Nat.mod_eq_of_lt (by omega)
  have e2 : (BitVec.ofInt 64 (b : Int)).toNat = b := by
    rw [BitVec.ofInt_natCast, BitVec.toNat_ofNat]; exact Nat.mod_eq_of_lt (by omega)
  have e3 : ((a : Int) * 256) = ((a * 256 : Nat) : Int) := by simp
  rw [e3]
  show IntKind.u64.wrap ((BitVec.ofInt 64 ((a * 256 : Nat) : Int) ||| BitVec.ofInt 64 (b : Int)).toNat : Int) = _
  rw [BitVec.toNat_or, e1, e2, IntKind.wrap_u64]
  have e4 : a * 256 ||| b = a * 256 + b := by
    have := Nat.shiftLeft_add_eq_or_of_lt (i := 8) (b := b) (by omega) a
    rw [Nat.shiftLeft_eq, show (2 : Nat) ^ 8 = 256 from rfl] at this
    omega
  rw [e4]
  omega

set_option maxRecDepth 4000 in
set_option maxHeartbeats 1600000 in
theorem head_wide (b g len cap off wd : Nat) (M x y : Int) (N : Nat → Int) (C : Nat → Int) (w : World) (h : IsReader w b (.slice (some ⟨g, 0, none⟩) len cap) off) (h1 : off + 1 + wd ≤ len) (hcap : len ≤ cap) (h2 : len ≤ 4294967296)
    (hc : w.cell? ⟨g, off, none⟩ = some (.int .u8 y)) (e1 : bits BinOp.and IntKind.u8 y 224 = M) (e2 : bits BinOp.and IntKind.u8 y 31 = x) (hx : (x = 24 ∧ wd = 1) ∨ (x = 25 ∧ wd = 2) ∨ (x = 26 ∧ wd = 4) ∨ (x = 27 ∧ wd = 8))
    (hcs : ∀ k, k < wd → w.cell? ⟨g, off + 1 + k, none⟩ = some (.int .u8 (C k))) (hN0 : N 0 = 0) (hNs : ∀ k, k < wd → N (k + 1) = N k * 256 + C k) (hNb : ∀ k, k < wd → 0 ≤ N k ∧ N k < 72057594037927936 ∧ 0 ≤ C k ∧ C k < 256) (hgb : g ≠ b) :
    Calls Try.prog 33 #[.pointer (some ⟨b, 0, none⟩), .int .u8 M] w fun e w' => e = .returned (.int .u64 (N wd)) ∧ IsReader w' b (.slice (some ⟨g, 0, none⟩) len cap) (off + 1 + wd) ∧ w.grownBy w' (some b) := by
  have HR := hide h
  obtain ⟨c0, c1, c2, c3⟩ := h
  have t1 : (off : Int) < (len : Int) := by omega
  have t2 : (0 : Int) ≤ (off : Int) := by omega
  have t3 : decide ((len : Int) - (off : Int) < 1) = false := decide_eq_false (by omega)
  have t4 : (M != M) = false := by simp
  have hx2 := hide hx
  have HN0 := hide hN0
  have HNs := hide hNs
  have HNb := hide hNb
  have HCs := hide hcs
  have R5 := (HR.out.moved (off + 1) ((off : Int) + 1) (by omega))
  have HR5 := hide R5
  obtain ⟨d0, d1, d2, d3⟩ := R5
  clear hx hN0 hNs hNb hcs
  rcases hx2.out with ⟨rfl, rfl⟩ | ⟨rfl, rfl⟩ | ⟨rfl, rfl⟩ | ⟨rfl, rfl⟩
  · have t7 : decide ((len : Int) - ((off + 1 : Nat) : Int) < 1) = false := decide_eq_false (by omega)
    clear hx2
    go_enter Try.func33, Try.ntmps33
    go_wp2
    go_quiet ((go_at_call 42; exact Calls.quiet_of (left_any b (some ⟨g, 0, none⟩) len cap off _ (HR.out.drewN _) (by omega) (by omega))))
    go_wp2
    go_quiet (fail)
    go_wp2_with fail
    refine (left_any b (some ⟨g, 0, none⟩) len cap (off + 1) _ ?hr (by omega) (by omega)).mono ?_
    case hr => exact HR5.out.drewN _
    rintro e w5 ⟨rfl, n5, rfl⟩
    go_wp2
    go_quiet (fail)
    go_wp2
    clear t1 t2 t3 t4 e1 e2 hc
    go_loop [6, 87] (fun n i => ∃ k : Nat, k ≤ 1 ∧ n = .int .u64 (N k) ∧ i = .int .i64 k) (fun _ i => 1 - (intOf i).toNat)
    case atStart => exact ⟨0, by omega, by rw [HN0.out], rfl⟩
    case round =>
      obtain ⟨k, hk, rfl, rfl⟩ := hrel
      by_cases hlt : k < 1
      · have hck := HCs.out k hlt
        have hck2 : (w.setCell ⟨b, 1, none⟩ (.int .i64 ((off : Int) + 1))).cell? ⟨g, off + 1 + k, none⟩ = some (.int .u8 (C k)) := by
          rw [World.cell?_setCell_other _ _ _ _ (by simp)]; exact hck
        have hb := HNb.out k hlt
        have HS := hide (HNs.out k hlt)
        obtain ⟨b1, b2, b3, b4⟩ := hb
        have HO := hide (or_shift (N k) (C k) b1 b2 b3 b4)
        generalize N k = nk at b1 b2 HS HO
        generalize C k = ck at b3 b4 HS hck hck2 HO
        go_wp2
        go_round
        case rel => exact ⟨_, _, _, ⟨k + 1, by omega, rfl, rfl⟩, by rw [HS.out, HO.out], rfl, by go_num⟩
        case measure => simp [intOf]; omega
      · obtain rfl : k = 1 := by omega
        go_wp2
        go_ret
        exact ⟨rfl, (HR5.out.moved (off + 1 + 1) ((off : Int) + 1 + 1) (by omega)).of_heap rfl, grownBy_setCell (grownBy_drewN (grownBy_setCell (grownBy_drewN (grownBy_refl w (some b)) _) 1 _) _) 1 _⟩
  · have t7 : decide ((len : Int) - ((off + 1 : Nat) : Int) < 2) = false := decide_eq_false (by omega)
    clear hx2
    go_enter Try.func33, Try.ntmps33
    go_wp2
    go_quiet ((go_at_call 42; exact Calls.quiet_of (left_any b (some ⟨g, 0, none⟩) len cap off _ (HR.out.drewN _) (by omega) (by omega))))
    go_wp2
    go_quiet (fail)
    go_wp2_with fail
    refine (left_any b (some ⟨g, 0, none⟩) len cap (off + 1) _ ?hr (by omega) (by omega)).mono ?_
    case hr => exact HR5.out.drewN _
    rintro e w5 ⟨rfl, n5, rfl⟩
    go_wp2
    go_quiet (fail)
    go_wp2
    clear t1 t2 t3 t4 e1 e2 hc
    go_loop [6, 87] (fun n i => ∃ k : Nat, k ≤ 2 ∧ n = .int .u64 (N k) ∧ i = .int .i64 k) (fun _ i => 2 - (intOf i).toNat)
    case atStart => exact ⟨0, by omega, by rw [HN0.out], rfl⟩
    case round =>
      obtain ⟨k, hk, rfl, rfl⟩ := hrel
      by_cases hlt : k < 2
      · have hck := HCs.out k hlt
        have hck2 : (w.setCell ⟨b, 1, none⟩ (.int .i64 ((off : Int) + 1))).cell? ⟨g, off + 1 + k, none⟩ = some (.int .u8 (C k)) := by
          rw [World.cell?_setCell_other _ _ _ _ (by simp)]; exact hck
        have hb := HNb.out k hlt
        have HS := hide (HNs.out k hlt)
        obtain ⟨b1, b2, b3, b4⟩ := hb
        have HO := hide (or_shift (N k) (C k) b1 b2 b3 b4)
        generalize N k = nk at b1 b2 HS HO
        generalize C k = ck at b3 b4 HS hck hck2 HO
        go_wp2
        go_round
        case rel => exact ⟨_, _, _, ⟨k + 1, by omega, rfl, rfl⟩, by rw [HS.out, HO.out], rfl, by go_num⟩
        case measure => simp [intOf]; omega
      · obtain rfl : k = 2 := by omega
        go_wp2
        go_ret
        exact ⟨rfl, (HR5.out.moved (off + 1 + 2) ((off : Int) + 1 + 2) (by omega)).of_heap rfl, grownBy_setCell (grownBy_drewN (grownBy_setCell (grownBy_drewN (grownBy_refl w (some b)) _) 1 _) _) 1 _⟩
  · have t7 : decide ((len : Int) - ((off + 1 : Nat) : Int) < 4) = false := decide_eq_false (by omega)
    clear hx2
    go_enter Try.func33, Try.ntmps33
    go_wp2
    go_quiet ((go_at_call 42; exact Calls.quiet_of (left_any b (some ⟨g, 0, none⟩) len cap off _ (HR.out.drewN _) (by omega) (by omega))))
    go_wp2
    go_quiet (fail)
    go_wp2_with fail
    refine (left_any b (some ⟨g, 0, none⟩) len cap (off + 1) _ ?hr (by omega) (by omega)).mono ?_
    case hr => exact HR5.out.drewN _
    rintro e w5 ⟨rfl, n5, rfl⟩
    go_wp2
    go_quiet (fail)
    go_wp2
    clear t1 t2 t3 t4 e1 e2 hc
    go_loop [6, 87] (fun n i => ∃ k : Nat, k ≤ 4 ∧ n = .int .u64 (N k) ∧ i = .int .i64 k) (fun _ i => 4 - (intOf i).toNat)
    case atStart => exact ⟨0, by omega, by rw [HN0.out], rfl⟩
    case round =>
      obtain ⟨k, hk, rfl, rfl⟩ := hrel
      by_cases hlt : k < 4
      · have hck := HCs.out k hlt
        have hck2 : (w.setCell ⟨b, 1, none⟩ (.int .i64 ((off : Int) + 1))).cell? ⟨g, off + 1 + k, none⟩ = some (.int .u8 (C k)) := by
          rw [World.cell?_setCell_other _ _ _ _ (by simp)]; exact hck
        have hb := HNb.out k hlt
        have HS := hide (HNs.out k hlt)
        obtain ⟨b1, b2, b3, b4⟩ := hb
        have HO := hide (or_shift (N k) (C k) b1 b2 b3 b4)
        generalize N k = nk at b1 b2 HS HO
        generalize C k = ck at b3 b4 HS hck hck2 HO
        go_wp2
        go_round
        case rel => exact ⟨_, _, _, ⟨k + 1, by omega, rfl, rfl⟩, by rw [HS.out, HO.out], rfl, by go_num⟩
        case measure => simp [intOf]; omega
      · obtain rfl : k = 4 := by omega
        go_wp2
        go_ret
        exact ⟨rfl, (HR5.out.moved (off + 1 + 4) ((off : Int) + 1 + 4) (by omega)).of_heap rfl, grownBy_setCell (grownBy_drewN (grownBy_setCell (grownBy_drewN (grownBy_refl w (some b)) _) 1 _) _) 1 _⟩
  · have t7 : decide ((len : Int) - ((off + 1 : Nat) : Int) < 8) = false := decide_eq_false (by omega)
    clear hx2
    go_enter Try.func33, Try.ntmps33
    go_wp2
    go_quiet ((go_at_call 42; exact Calls.quiet_of (left_any b (some ⟨g, 0, none⟩) len cap off _ (HR.out.drewN _) (by omega) (by omega))))
    go_wp2
    go_quiet (fail)
    go_wp2_with fail
    refine (left_any b (some ⟨g, 0, none⟩) len cap (off + 1) _ ?hr (by omega) (by omega)).mono ?_
    case hr => exact HR5.out.drewN _
    rintro e w5 ⟨rfl, n5, rfl⟩
    go_wp2
    go_quiet (fail)
    go_wp2
    clear t1 t2 t3 t4 e1 e2 hc
    go_loop [6, 87] (fun n i => ∃ k : Nat, k ≤ 8 ∧ n = .int .u64 (N k) ∧ i = .int .i64 k) (fun _ i => 8 - (intOf i).toNat)
    case atStart => exact ⟨0, by omega, by rw [HN0.out], rfl⟩
    case round =>
      obtain ⟨k, hk, rfl, rfl⟩ := hrel
      by_cases hlt : k < 8
      · have hck := HCs.out k hlt
        have hck2 : (w.setCell ⟨b, 1, none⟩ (.int .i64 ((off : Int) + 1))).cell? ⟨g, off + 1 + k, none⟩ = some (.int .u8 (C k)) := by
          rw [World.cell?_setCell_other _ _ _ _ (by simp)]; exact hck
        have hb := HNb.out k hlt
        have HS := hide (HNs.out k hlt)
        obtain ⟨b1, b2, b3, b4⟩ := hb
        have HO := hide (or_shift (N k) (C k) b1 b2 b3 b4)
        generalize N k = nk at b1 b2 HS HO
        generalize C k = ck at b3 b4 HS hck hck2 HO
        go_wp2
        go_round
        case rel => exact ⟨_, _, _, ⟨k + 1, by omega, rfl, rfl⟩, by rw [HS.out, HO.out], rfl, by go_num⟩
        case measure => simp [intOf]; omega
      · obtain rfl : k = 8 := by omega
        go_wp2
        go_ret
        exact ⟨rfl, (HR5.out.moved (off + 1 + 8) ((off : Int) + 1 + 8) (by omega)).of_heap rfl, grownBy_setCell (grownBy_drewN (grownBy_setCell (grownBy_drewN (grownBy_refl w (some b)) _) 1 _) _) 1 _⟩
end Go.Proofs.Qxb6616937a
