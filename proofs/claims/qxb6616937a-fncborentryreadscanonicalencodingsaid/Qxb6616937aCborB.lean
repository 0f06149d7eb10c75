/-
  THE WALK OF FnCborEntryReadsCanonicalEncoding: the main way.
-/
import Derived.Test.Qxb6616937aCbor
import Derived.Test.Qxb6616937aCborR
import Derived.Test.Qxb6616937aCborR
import Derived.Test.Qxb6616937aCborR
import Derived.Test.Qxb6616937aCborR
import Derived.Deep.CutRange
namespace Go.Proofs.Qxb6616937a
open Go.RowKit

set_option maxRecDepth 4000 in
set_option maxHeartbeats 1000000 in
theorem cbor_main (T I K f ot oi ok : Int) (a3 a5 a6 a10 : Option Addr) (l3 c3 l5 c5 l6 c6 l10 c10 : Nat) (d3 d5 d6 d10 : List Int) (w : World) (h3 : l3 ≤ 262144) (h5 : l5 ≤ 262144) (h6 : l6 ≤ 262144) (h10 : l10 ≤ 262144)
    (hT : 0 ≤ T ∧ T < 18446744073709551616) (hI : 0 ≤ I ∧ I < 18446744073709551616) (hK : 0 ≤ K ∧ K < 256) (hf : 0 ≤ f ∧ f < 256)
    (r3 : Rd w a3 l3 d3) (r5 : Rd w a5 l5 d5) (r6 : Rd w a6 l6 d6) (r10 : Rd w a10 l10 d10) (n3 : a3 = none → c3 = 0) (n5 : a5 = none → c5 = 0) (n6 : a6 = none → c6 = 0) (n10 : a10 = none → c10 = 0) :
    Calls Try.prog 3 #[.int .u64 T, .int .u64 I, .int .u8 K, .slice a3 l3 c3, .int .u8 f, .slice a5 l5 c5, .slice a6 l6 c6, .int .u64 ot, .int .u64 oi, .int .u8 ok, .slice a10 l10 c10] w fun e w' => e = .returned (.bool true) ∧ Below w.heap.size w w' := by
  have HC := hide (zzBytes8_any T I K f ot oi ok a3 a5 a6 a10 l3 c3 l5 c5 l6 c6 l10 c10 w (by omega) (by omega) (by omega) (by omega))
  have h3' : ¬ 262144 < (l3 : Int) := by omega
  have h5' : ¬ 262144 < (l5 : Int) := by omega
  have h6' : ¬ 262144 < (l6 : Int) := by omega
  have h10' : ¬ 262144 < (l10 : Int) := by omega
  have HR3 := hide r3
  have HR5 := hide r5
  have HR6 := hide r6
  have HR10 := hide r10
  have HN3 := hide n3
  have HN5 := hide n5
  have HN6 := hide n6
  have HN10 := hide n10
  have HBits := hide (bits_of f hf.1 hf.2)
  have HT := hide hT
  have HI := hide hI
  have HK := hide hK
  obtain ⟨hf0, hf1⟩ := hf
  clear r3 r5 r6 r10 n3 n5 n6 n10 hT hI hK
  go_enter Try.func3, Try.ntmps3
  go_wp2_with fail
  refine HC.out.mono ?_
  rintro e w0 ⟨⟨b, rfl, hb⟩, rfl⟩
  obtain rfl := hb h3 h5 h6 h10
  clear HC hb
  go_wp2_with fail
  refine (cloneBytes_any a3 l3 c3 d3 w HR3.out HN3.out (by omega)).mono ?_
  rintro e w1 ⟨b3, rfl, r3, u3, _, q3, B1⟩
  have HR5' := hide (HR5.out.later B1)
  have HR6' := hide (HR6.out.later B1)
  have HR10' := hide (HR10.out.later B1)
  have HB1 := hide B1
  have HC3 := hide r3
  have HV3 := hide u3
  clear HR5 HR6 HR10 B1 r3 u3 HR3 HN3 q3
  go_wp2_with fail
  refine (cloneBytes_any a5 l5 c5 d5 w1 HR5'.out HN5.out (by omega)).mono ?_
  rintro e w2 ⟨b5, rfl, r5, u5, _, q5, B2⟩
  have HC3' := hide (HC3.out.below B2 HV3.out)
  have HV3' : Hid (Under w2.heap.size b3) := fun x e => Nat.lt_of_lt_of_le (HV3.out x e) B2.size
  have HR6'' := hide (HR6'.out.later B2)
  have HR10'' := hide (HR10'.out.later B2)
  have HB2 := hide (HB1.out.trans (B2.mono HB1.out.size))
  have HC5 := hide r5
  have HV5 := hide u5
  clear HR5' HR6' HR10' B2 r5 u5 HN5 q5 HC3 HV3 HB1
  go_wp2_with fail
  refine (cloneBytes_any a6 l6 c6 d6 w2 HR6''.out HN6.out (by omega)).mono ?_
  rintro e w3 ⟨b6, rfl, r6, u6, _, q6, B3⟩
  have HC3 := hide (HC3'.out.below B3 HV3'.out)
  have HV3 : Hid (Under w3.heap.size b3) := fun x e => Nat.lt_of_lt_of_le (HV3'.out x e) B3.size
  have HC5' := hide (HC5.out.below B3 HV5.out)
  have HV5' : Hid (Under w3.heap.size b5) := fun x e => Nat.lt_of_lt_of_le (HV5.out x e) B3.size
  have HR10' := hide (HR10''.out.later B3)
  have HB3 := hide (HB2.out.trans (B3.mono HB2.out.size))
  have HC6 := hide r6
  have HV6 := hide u6
  clear HR6'' HR10'' B3 r6 u6 HN6 q6 HC3' HV3' HB2 HC5 HV5
  go_wp2_with fail
  refine (cloneBytes_any a10 l10 c10 d10 w3 HR10'.out HN10.out (by omega)).mono ?_
  rintro e w4 ⟨b10, rfl, r10, u10, _, q10, B4⟩
  have HD3 := hide (HC3.out.below B4 HV3.out)
  have HW3 : Hid (Under w4.heap.size b3) := fun x e => Nat.lt_of_lt_of_le (HV3.out x e) B4.size
  have HD5 := hide (HC5'.out.below B4 HV5'.out)
  have HW5 : Hid (Under w4.heap.size b5) := fun x e => Nat.lt_of_lt_of_le (HV5'.out x e) B4.size
  have HD6 := hide (HC6.out.below B4 HV6.out)
  have HW6 : Hid (Under w4.heap.size b6) := fun x e => Nat.lt_of_lt_of_le (HV6.out x e) B4.size
  have HD10 := hide r10
  have HW10 := hide u10
  have HB4 := hide (HB3.out.trans (B4.mono HB3.out.size))
  clear HC3 HV3 HC5' HV5' HC6 HV6 HR10' B4 r10 u10 HN10 q10 HB3
  go_wp2_with fail
  go_loop [23, 24] (fun n j => ∃ k : Nat, k ≤ 4 ∧ n = .int .u64 (cntTo f k : Int) ∧ j = .int .u64 (k : Int)) (fun _ j => 4 - (intOf j).toNat)
  case atStart => exact ⟨0, by omega, rfl, rfl⟩
  case round =>
    obtain ⟨k, hk, rfl, rfl⟩ := hrel
    have hcn := cntTo_le f k
    by_cases hlt : k < 4
    · cases hbit : bitAt f k
      · have hs : Hid (cntTo f (k + 1) = cntTo f k) := by show cntTo f k + _ = _; rw [hbit]; rfl
        have hbit' : (bits BinOp.and IntKind.u8 (f / 2 ^ k) 1 == 1) = false := hbit
        clear hbit
        generalize cntTo f k = cn at hcn hs
        go_wp2
        go_round
        case rel => exact ⟨k + 1, by omega, by rw [hs.out], by go_num⟩
        case measure => simp [intOf]; omega
      · have hs : Hid (cntTo f (k + 1) = cntTo f k + 1) := by show cntTo f k + _ = _; rw [hbit]; rfl
        have hbit' : (bits BinOp.and IntKind.u8 (f / 2 ^ k) 1 == 1) = true := hbit
        clear hbit
        generalize cntTo f k = cn at hcn hs
        go_wp2
        go_round
        case rel => exact ⟨k + 1, by omega, by rw [hs.out]; go_num, by go_num⟩
        case measure => simp [intOf]; omega
    · obtain rfl : k = 4 := by omega
      have HCn := hide (cnt_keys f)
      generalize cntTo f 4 = cn at hcn HCn ⊢
      go_wp2_with fail
      refine (appendBytes_any w4.heap.size w4.heap.size 0 0 [] b5 l5 l5 d5 _ (by simp) (own_empty w4.heap.size w4 (Nat.le_refl _)) rfl (HD5.out.kept (World.grownBy_alloc w4 _ none) (fun _ _ => by simp)) HW5.out (by omega)).mono ?_
      rintro e w5 ⟨g5, cap5, rfl, o5, B5⟩
      have b5' : Bld w4.heap.size w4 g5 l5 cap5 d5 w5 := ⟨by simpa using o5, HD5.out.lenEq, ((Below.refl _ w4).alloc (Nat.le_refl _) _).trans B5, Nat.le_refl _⟩
      have HL5 := hide b5'
      clear o5 B5 b5'
      simp only [Nat.zero_add]
      go_wp2_with fail
      refine (putHead_any w4.heap.size g5 l5 cap5 d5 160 (cn : Int) w5 HL5.out.size HL5.out.own HL5.out.len (by omega) (by omega) (by omega)).mono ?_
      rintro e w6 ⟨g6, cap6, rfl, o6, B6⟩
      have HL6 := hide (HL5.out.head o6 rfl B6)
      have hq6 := head_le 160 (cn : Int)
      have HQ6 : Hid ((head 160 (cn : Int)).length = (head 160 (cn : Int)).length) := rfl
      clear o6 B6 HL5
      generalize (head 160 (cn : Int)).length = q6 at HL6 hq6 ⊢
      obtain ⟨p1, hp1⟩ : ∃ p1, bitAt f 0 = p1 := ⟨_, rfl⟩
      obtain ⟨p2, hp2⟩ : ∃ p2, bitAt f 1 = p2 := ⟨_, rfl⟩
      obtain ⟨p3, hp3⟩ : ∃ p3, bitAt f 2 = p3 := ⟨_, rfl⟩
      obtain ⟨p4, hp4⟩ : ∃ p4, bitAt f 3 = p4 := ⟨_, rfl⟩
      have HBits' := HBits.out
      have HCn' := HCn.out
      rw [hp1, hp2, hp3, hp4] at HBits' HCn'
      obtain ⟨t1, t2, t3, t4⟩ := HBits'
      have HKn := hide HCn'
      clear HCn' HCn HBits hp1 hp2 hp3 hp4 HQ6
      obtain ⟨Z0, hZ0⟩ : ∃ Z0, Z0 = d5 ++ head 160 (cn : Int) := ⟨_, rfl⟩
      rw [← hZ0] at HL6
      have HZ0 := hide hZ0
      clear hZ0
      obtain ⟨i0, hi, hz0, hz1, hz2⟩ := info_parts info5
      go_upto_if 89 with fail
      go_cut [25] from 87 to 95 (fun s25 wx => ∃ g n cap, s25 = .slice (some ⟨g, 0, none⟩) n cap ∧ n ≤ (l5 + q6) + 10 ∧ Bld w4.heap.size w4 g n cap (Z0 ++ part1 p1 (1 :: head 0 T)) wx)
      case first =>
        have hrow := HL6.out.row
        have hsz := HL6.out.size
        cases p1
        · go_wp2
          go_meet
          case rel => exact ⟨_, _, _, rfl, by omega, by simpa [part1] using HL6.out⟩
        · go_wp2_with (at_builtin; refine wpList_append_lies _ rfl _ _ 23 rfl w4.heap.size 5 i0 (.int .u8 0) 1 1 Try.underlying23 hi hz0 hz1 hz2 rfl (by decide) _ (l5 + q6) (toB Z0) rfl (hrow.alloc _) ⟨w6.heap.size, 0, none⟩ 1 1 [.int .u8 1] rfl rfl (cell_one_new _ _ _) (by intro u hu; simp at hu; subst hu; rfl) (by omega) (by unfold maxLen; omega) (by omega) (by simp; omega) (w6.heap.size + 1) (by simp) ?_; intro g7 cap7 w7 hown7 hgrow7 hat7 hlt7)
          have HL7 := hide (HL6.out.snoc hown7 hgrow7)
          clear hown7 hgrow7 hat7 hlt7 hrow
          go_wp2_with fail
          refine (putHead_any w4.heap.size g7 ((l5 + q6) + 1) cap7 _ 0 T w7 HL7.out.size HL7.out.own HL7.out.len (by omega) HT.out.1 HT.out.2).mono ?_
          rintro e w8 ⟨g8, cap8, rfl, o8, B8⟩
          have HL8 := hide (HL7.out.head o8 rfl B8)
          have hq8 := head_le 0 T
          clear o8 B8 HL7
          go_wp2
          go_meet
          case rel => exact ⟨_, _, _, rfl, by omega, by simpa [part1] using HL8.out⟩
      obtain ⟨gg1, m1, cp1, rfl, hm1, bl⟩ := hcut
      obtain ⟨Z1, hZ⟩ : ∃ Z, Z = Z0 ++ part1 p1 (1 :: head 0 T) := ⟨_, rfl⟩
      rw [← hZ] at bl
      have HZ1 := hide hZ
      have HL11 := hide bl
      obtain ⟨y1, hwc⟩ : ∃ W, W = wc := ⟨_, rfl⟩
      rw [← hwc] at HL11 ⊢
      clear hZ bl hwc wc HL6 
      go_upto_if 98 with fail
      go_cut [25] from 96 to 104 (fun s25 wx => ∃ g n cap, s25 = .slice (some ⟨g, 0, none⟩) n cap ∧ n ≤ m1 + 10 ∧ Bld w4.heap.size w4 g n cap (Z1 ++ part1 p2 (2 :: head 0 I)) wx)
      case first =>
        have hrow := HL11.out.row
        have hsz := HL11.out.size
        cases p2
        · go_wp2
          go_meet
          case rel => exact ⟨_, _, _, rfl, by omega, by simpa [part1] using HL11.out⟩
        · go_wp2_with (at_builtin; refine wpList_append_lies _ rfl _ _ 23 rfl w4.heap.size 5 i0 (.int .u8 0) 1 1 Try.underlying23 hi hz0 hz1 hz2 rfl (by decide) _ m1 (toB Z1) rfl (hrow.alloc _) ⟨y1.heap.size, 0, none⟩ 1 1 [.int .u8 2] rfl rfl (cell_one_new _ _ _) (by intro u hu; simp at hu; subst hu; rfl) (by omega) (by unfold maxLen; omega) (by omega) (by simp; omega) (y1.heap.size + 1) (by simp) ?_; intro g7 cap7 w7 hown7 hgrow7 hat7 hlt7)
          have HL7 := hide (HL11.out.snoc hown7 hgrow7)
          clear hown7 hgrow7 hat7 hlt7 hrow
          go_wp2_with fail
          refine (putHead_any w4.heap.size g7 (m1 + 1) cap7 _ 0 I w7 HL7.out.size HL7.out.own HL7.out.len (by omega) HI.out.1 HI.out.2).mono ?_
          rintro e w8 ⟨g8, cap8, rfl, o8, B8⟩
          have HL8 := hide (HL7.out.head o8 rfl B8)
          have hq8 := head_le 0 I
          clear o8 B8 HL7
          go_wp2
          go_meet
          case rel => exact ⟨_, _, _, rfl, by omega, by simpa [part1] using HL8.out⟩
      obtain ⟨gg2, m2, cp2, rfl, hm2, bl⟩ := hcut
      obtain ⟨Z2, hZ⟩ : ∃ Z, Z = Z1 ++ part1 p2 (2 :: head 0 I) := ⟨_, rfl⟩
      rw [← hZ] at bl
      have HZ2 := hide hZ
      have HL12 := hide bl
      obtain ⟨y2, hwc⟩ : ∃ W, W = wc := ⟨_, rfl⟩
      rw [← hwc] at HL12 ⊢
      clear hZ bl hwc wc HL11 
      obtain ⟨hK0, hK1⟩ := HK.out
      go_upto_if 107 with fail
      go_cut [25] from 105 to 114 (fun s25 wx => ∃ g n cap, s25 = .slice (some ⟨g, 0, none⟩) n cap ∧ n ≤ m2 + 10 ∧ Bld w4.heap.size w4 g n cap (Z2 ++ part1 p3 (3 :: head 0 K)) wx)
      case first =>
        have hrow := HL12.out.row
        have hsz := HL12.out.size
        cases p3
        · go_wp2
          go_meet
          case rel => exact ⟨_, _, _, rfl, by omega, by simpa [part1] using HL12.out⟩
        · go_wp2_with (at_builtin; refine wpList_append_lies _ rfl _ _ 23 rfl w4.heap.size 5 i0 (.int .u8 0) 1 1 Try.underlying23 hi hz0 hz1 hz2 rfl (by decide) _ m2 (toB Z2) rfl (hrow.alloc _) ⟨y2.heap.size, 0, none⟩ 1 1 [.int .u8 3] rfl rfl (cell_one_new _ _ _) (by intro u hu; simp at hu; subst hu; rfl) (by omega) (by unfold maxLen; omega) (by omega) (by simp; omega) (y2.heap.size + 1) (by simp) ?_; intro g7 cap7 w7 hown7 hgrow7 hat7 hlt7)
          have HL7 := hide (HL12.out.snoc hown7 hgrow7)
          clear hown7 hgrow7 hat7 hlt7 hrow
          go_wp2_with fail
          refine (putHead_any w4.heap.size g7 (m2 + 1) cap7 _ 0 K w7 HL7.out.size HL7.out.own HL7.out.len (by omega) hK0 (by omega)).mono ?_
          rintro e w8 ⟨g8, cap8, rfl, o8, B8⟩
          have HL8 := hide (HL7.out.head o8 rfl B8)
          have hq8 := head_le 0 K
          clear o8 B8 HL7
          go_wp2
          go_meet
          case rel => exact ⟨_, _, _, rfl, by omega, by simpa [part1] using HL8.out⟩
      obtain ⟨gg3, m3, cp3, rfl, hm3, bl⟩ := hcut
      obtain ⟨Z3, hZ⟩ : ∃ Z, Z = Z2 ++ part1 p3 (3 :: head 0 K) := ⟨_, rfl⟩
      rw [← hZ] at bl
      have HZ3 := hide hZ
      have HL13 := hide bl
      obtain ⟨y3, hwc⟩ : ∃ W, W = wc := ⟨_, rfl⟩
      rw [← hwc] at HL13 ⊢
      clear hZ bl hwc wc HL12 
      go_upto_if 117 with fail
      go_cut [25] from 115 to 128 (fun s25 wx => ∃ g n cap, s25 = .slice (some ⟨g, 0, none⟩) n cap ∧ n ≤ m3 + 10 + l3 ∧ Bld w4.heap.size w4 g n cap (Z3 ++ part1 p4 (4 :: (head 64 (l3 : Int) ++ d3))) wx)
      case first =>
        have hrow := HL13.out.row
        have hsz := HL13.out.size
        cases p4
        · go_wp2
          go_meet
          case rel => exact ⟨_, _, _, rfl, by omega, by simpa [part1] using HL13.out⟩
        · go_wp2_with (at_builtin; refine wpList_append_lies _ rfl _ _ 23 rfl w4.heap.size 5 i0 (.int .u8 0) 1 1 Try.underlying23 hi hz0 hz1 hz2 rfl (by decide) _ m3 (toB Z3) rfl (hrow.alloc _) ⟨y3.heap.size, 0, none⟩ 1 1 [.int .u8 4] rfl rfl (cell_one_new _ _ _) (by intro u hu; simp at hu; subst hu; rfl) (by omega) (by unfold maxLen; omega) (by omega) (by simp; omega) (y3.heap.size + 1) (by simp) ?_; intro g7 cap7 w7 hown7 hgrow7 hat7 hlt7)
          have HL7 := hide (HL13.out.snoc hown7 hgrow7)
          clear hown7 hgrow7 hat7 hlt7 hrow
          go_wp2_with fail
          refine (putHead_any w4.heap.size g7 (m3 + 1) cap7 _ 64 (l3 : Int) w7 HL7.out.size HL7.out.own HL7.out.len (by omega) (by omega) (by omega)).mono ?_
          rintro e w8 ⟨g8, cap8, rfl, o8, B8⟩
          have HL8 := hide (HL7.out.head o8 rfl B8)
          have hq8 := head_le 64 (l3 : Int)
          clear o8 B8 HL7
          generalize hq : (head 64 (l3 : Int)).length = q8 at HL8 hq8 ⊢
          clear hq
          go_wp2_with fail
          refine (appendBytes_any w4.heap.size g8 (m3 + 1 + q8) cap8 _ b3 l3 l3 d3 w8 HL8.out.size HL8.out.own HL8.out.len (HD3.out.below HL8.out.bel HW3.out) HW3.out (by omega)).mono ?_
          rintro e w9 ⟨g9, cap9, rfl, o9, B9⟩
          have HL9 := hide (HL8.out.head o9 HD3.out.lenEq B9)
          clear o9 B9 HL8
          go_wp2
          go_meet
          case rel => exact ⟨_, _, _, rfl, by omega, by simpa [part1] using HL9.out⟩
      obtain ⟨gg4, m4, cp4, rfl, hm4, bl⟩ := hcut
      obtain ⟨Z4, hZ⟩ : ∃ Z, Z = Z3 ++ part1 p4 (4 :: (head 64 (l3 : Int) ++ d3)) := ⟨_, rfl⟩
      rw [← hZ] at bl
      have HZ4 := hide hZ
      have HL14 := hide bl
      obtain ⟨y4, hwc⟩ : ∃ W, W = wc := ⟨_, rfl⟩
      rw [← hwc] at HL14 ⊢
      clear hZ bl hwc wc HL13 
      go_wp2_with fail
      refine (appendBytes_any w4.heap.size gg4 m4 cp4 Z4 b6 l6 l6 d6 y4 HL14.out.size HL14.out.own HL14.out.len (HD6.out.below HL14.out.bel HW6.out) HW6.out (by omega)).mono ?_
      rintro e y5 ⟨g, cap, rfl, o5, B5⟩
      have HL15 := hide (HL14.out.head o5 HD6.out.lenEq B5)
      clear o5 B5 HL14 hi hz0 hz1 hz2
      have hmax : m4 + l6 ≤ 2097152 := by omega
      go_wp2_with fail
      refine (newReader_any _ _ _ l5 y5).mono ?_
      rintro e y6 ⟨rfl, rd6, hy6⟩
      have G6 : Below y5.heap.size y5 y6 := by rw [hy6]; exact (Below.refl _ _).alloc (Nat.le_refl _) _
      have hs6 : y6.heap.size = y5.heap.size + 1 := by rw [hy6]; simp
      have HS6 := hide hs6
      have HG6 := hide G6
      have HRd6 := hide rd6
      have HD10y := hide ((HD10.out.below HL15.out.bel HW10.out).later G6)
      clear hy6 G6 hs6 rd6
      go_wp2_with fail
      refine (cloneBytes_any b10 l10 l10 d10 y6 HD10y.out (by intro h; have := HD10y.out.nilLen h; exact this) (by omega)).mono ?_
      rintro e y7 ⟨a11, rfl, r11, u11, v11, q11, B7⟩
      have HR11 := hide r11
      have HU11 := hide u11
      have HV11 := hide v11
      have HQ11 := hide q11
      have HB7 := hide B7
      clear r11 u11 v11 q11 B7 HD10y
      go_wp2_with fail
      refine (newEntry_any ot oi ok a11 l10 l10 y7).mono ?_
      rintro e y8 ⟨rfl, en8, hy8⟩
      have G8 : Below y7.heap.size y7 y8 := by rw [hy8]; exact (Below.refl _ _).alloc (Nat.le_refl _) _
      have HG8 := hide G8
      have HEn8 := hide en8
      clear hy8 G8 en8
      have HBuf := hide (buffer_left T I K d3 d5 d6 Z0 Z1 Z2 Z3 Z4 p1 p2 p3 p4 cn l3 l5 HD3.out.lenEq HD5.out.lenEq HZ0.out HZ1.out HZ2.out HZ3.out HZ4.out)
      have HB5r := hide (HL15.out.own.rd HL15.out.len (fun z hz => by
        rw [HBuf.out.1] at hz
        simp only [List.mem_append] at hz
        rcases hz with (hz | hz | hz) | hz
        · exact HD5.out.byte z hz
        · exact head_byte 160 (cn : Int) isMajor160 (by omega) z hz
        · exact items_byte T I K d3 p1 p2 p3 p4 HT.out.1 HI.out.1 HK.out.1 HD3.out.byte z hz
        · exact HD6.out.byte z hz))
      have HGlt : Hid (g < y5.heap.size ∧ w4.heap.size ≤ g) := by have := World.ownsRow.lt HL15.out.row g rfl; exact ⟨this.2, this.1⟩
      have HCap : Hid (m4 + l6 ≤ cap) := by
        rcases HL15.out.row.2 with ⟨h, _⟩ | ⟨g', c', _, h, _, _, h1, _⟩
        · cases h
        · cases h; exact h1
      have HM4 : Hid (Z4.length = m4) := by have h1 := HL15.out.len; have h2 := HD6.out.lenEq; rw [List.length_append] at h1; show Z4.length = m4; omega
      go_wp2_with fail
      refine (readEntry_law T I K ot oi ok d3 d5 d6 d10 Z4 p1 p2 p3 p4 cn l5 l6 m4 l10 g cap y5.heap.size y7.heap.size a11 y8 HT.out HI.out HK.out HKn.out HD6.out.lenEq HD5.out.lenEq HM4.out hmax HCap.out HBuf.out.1 HBuf.out.2 HGlt.out.1 ?e1 ?e2 ?e3 HEn8.out (HR11.out.later HG8.out) HD3.out.byte ?e4).mono ?_
      case e1 => have h1 := HS6.out; have h2 := HB7.out.size; omega
      case e2 => exact (HRd6.out.later HB7.out).later HG8.out
      case e3 => exact ((HB5r.out.later HG6.out).later HB7.out).later HG8.out
      case e4 =>
        intro z e
        have h1 := HV11.out z e
        have h2 := HU11.out z e
        have h3 := HS6.out
        exact ⟨by omega, h2⟩
      rintro e y9 ⟨rfl, a, dl, c, rd9, en9, da9, fa9, ni9, B9⟩
      have HRd9 := hide rd9
      have HEn9 := hide en9
      have HDa9 := hide da9
      have HFa9 := hide fa9
      have HNi9 := hide ni9
      have HB9 := hide B9
      clear rd9 en9 da9 fa9 ni9 B9
      obtain ⟨wt, hwt⟩ : ∃ z, z = (if p1 then T else ot) := ⟨_, rfl⟩
      obtain ⟨wi, hwi⟩ : ∃ z, z = (if p2 then I else oi) := ⟨_, rfl⟩
      obtain ⟨wk, hwk⟩ : ∃ z, z = (if p3 then K else ok) := ⟨_, rfl⟩
      obtain ⟨WD, hWD⟩ : ∃ z, z = (if p4 then d3 else d10) := ⟨_, rfl⟩
      rw [← hwt, ← hwi, ← hwk] at HEn9
      rw [← hWD] at HDa9
      have Hwt := hide hwt
      have Hwi := hide hwi
      have Hwk := hide hwk
      have HWD := hide hWD
      clear hwt hwi hwk hWD
      go_upto_if 149 with fail
      go_cut [30] from 146 to 150 (fun s wx => s = .int .u64 wt ∧ y9 = wx)
      case first =>
        cases p1
        · go_wp2
          go_meet
          case rel => exact ⟨by rw [Hwt.out]; rfl, rfl⟩
        · go_wp2
          go_meet
          case rel => exact ⟨by rw [Hwt.out]; rfl, rfl⟩
      obtain ⟨rfl, rfl⟩ := hcut
      go_upto_if 154 with fail
      go_cut [31] from 151 to 155 (fun s wx => s = .int .u64 wi ∧ y9 = wx)
      case first =>
        cases p2
        · go_wp2
          go_meet
          case rel => exact ⟨by rw [Hwi.out]; rfl, rfl⟩
        · go_wp2
          go_meet
          case rel => exact ⟨by rw [Hwi.out]; rfl, rfl⟩
      obtain ⟨rfl, rfl⟩ := hcut
      go_upto_if 159 with fail
      go_cut [32] from 156 to 160 (fun s wx => s = .int .u8 wk ∧ y9 = wx)
      case first =>
        cases p3
        · go_wp2
          go_meet
          case rel => exact ⟨by rw [Hwk.out]; rfl, rfl⟩
        · go_wp2
          go_meet
          case rel => exact ⟨by rw [Hwk.out]; rfl, rfl⟩
      obtain ⟨rfl, rfl⟩ := hcut
      have HDW3 := hide ((((HD3.out.below HL15.out.bel HW3.out).later HG6.out).later HB7.out).later HG8.out)
      have HDW10 := hide ((((HD10.out.below HL15.out.bel HW10.out).later HG6.out).later HB7.out).later HG8.out)
      have hle9 : y5.heap.size ≤ y9.heap.size := by have h1 := HS6.out; have h2 := HB7.out.size; have h3 := HG8.out.size; have h4 := HB9.out.size; omega
      have HUy3 : Hid (Under y5.heap.size b3) := fun z e => by have h1 := HW3.out z e; have h2 := HL15.out.bel.size; omega
      have HUy10 : Hid (Under y5.heap.size b10) := fun z e => by have h1 := HW10.out z e; have h2 := HL15.out.bel.size; omega
      have HDV3 := hide (HDW3.out.below HB9.out HUy3.out)
      have HDV10 := hide (HDW10.out.below HB9.out HUy10.out)
      go_upto_if 164 with fail
      go_cut [33] from 161 to 166 (fun s wx => ∃ aw lw, s = .slice aw lw lw ∧ Rd wx aw lw WD ∧ (aw = none ↔ (p4 = false ∧ b10 = none)) ∧ (∀ z, aw = some z → z.block ≠ g) ∧ Below y9.heap.size y9 wx)
      case first =>
        cases p4
        · go_wp2
          go_meet
          case rel =>
            refine ⟨b10, l10, rfl, by rw [HWD.out]; exact HDV10.out, by simp, fun z e => ?_, Below.refl _ _⟩
            have h1 := HW10.out z e
            have h2 := HGlt.out.2
            omega
        · go_wp2_with fail
          refine (cloneNonNil_rd b3 l3 l3 d3 y9 HDV3.out (by omega)).mono ?_
          rintro e y10 ⟨g10, rfl, r10, _, hov, B10⟩
          have HOv := hide hov
          have HR10z := hide r10
          have HB10 := hide B10
          clear hov r10 B10
          go_wp2
          go_meet
          case rel =>
            refine ⟨_, _, rfl, by rw [HWD.out]; exact HR10z.out, by simp, fun z e => ?_, HB10.out⟩
            cases e
            have h1 := HGlt.out.1
            have h2 := HOv.out
            show g10 ≠ g
            omega
      obtain ⟨aw, lw, rfl, rw9, nw9, fw9, B10⟩ := hcut
      obtain ⟨y10, hwc⟩ : ∃ W, W = wc := ⟨_, rfl⟩
      rw [← hwc] at rw9 B10 ⊢
      obtain rfl : lw = dl := by have h1 := rw9.lenEq; have h2 := HDa9.out.lenEq; omega
      have hdl : lw ≤ 262144 := by
        have h1 := rw9.lenEq
        rw [HWD.out] at h1
        have h2 := HD3.out.lenEq
        have h4 := HD10.out.lenEq
        cases p4
        · simp only [Bool.false_eq_true, if_false] at h1; omega
        · simp only [if_true] at h1; omega
      have HNil : Hid (a = none ↔ aw = none) := by
        show a = none ↔ aw = none
        rw [HNi9.out, nw9, HQ11.out]
      have HRdA := hide (HDa9.out.later B10)
      have HRdW := hide rw9
      have HFw := hide fw9
      have HReader := hide (HRd9.out.later B10)
      have HEnt := hide (HEn9.out.later B10)
      have HBel : Hid (Below w.heap.size w y10) := by
        have s1 := HB4.out.size
        have s2 := HL15.out.bel.size
        have s3 := HG6.out.size
        have s4 := HB7.out.size
        have s5 := HG8.out.size
        have s6 := HB9.out.size
        exact ((((((HB4.out.trans (HL15.out.bel.mono s1)).trans (HG6.out.mono (by omega))).trans (HB7.out.mono (by omega))).trans (HG8.out.mono (by omega))).trans (HB9.out.mono (by omega))).trans (B10.mono (by omega)))
      have HOwn := hide ((((((HL15.out.own.later HG6.out).later HB7.out).later HG8.out).below HB9.out HGlt.out.1).later B10))
      have HLen := hide HL15.out.len
      have HBg : Hid (w.heap.size ≤ g) := by have s1 := HB4.out.size; have s2 := HGlt.out.2; show w.heap.size ≤ g; omega
      have HFar : Hid (∀ z, a = some z → z.block ≠ g) := fun z e => by have h1 := HFa9.out z e; have h2 := HGlt.out.1; omega
      have HEg : Hid (y7.heap.size ≠ g) := by have h1 := HGlt.out.1; have h2 := HS6.out; have h3 := HB7.out.size; show y7.heap.size ≠ g; omega
      clear rw9 nw9 fw9 B10 hwc wc HNi9 HFa9 HDa9 HRd9 HEn9 HB9 HB4 HL15 HD3 HD5 HD6 HD10 HW3 HW5 HW6 HW10 HG6 HS6 HB7 HG8 HEn8 HRd6 HR11 HU11 HV11 HQ11 HBuf HB5r HGlt HCap HM4 HZ0 HZ1 HZ2 HZ3 HZ4 HDW3 HDW10 HDV3 HDV10 HUy3 HUy10 Hwt Hwi Hwk HWD HKn HT HI HK t1 t2 t3 t4 hle9
      have q1 : ((m4 : Int) != (m4 : Int)) = false := by simp
      have q2 : (wt != wt) = false := by simp
      have q3 : (wi != wi) = false := by simp
      have q4 : (wk != wk) = false := by simp
      go_wp2_with fail
      refine (readerOff_any _ _ m4 y10 HReader.out).mono ?_
      rintro e z1 ⟨rfl, rfl⟩
      go_wp2_with fail
      refine (readerFailed_any _ _ m4 y10 HReader.out).mono ?_
      rintro e z1 ⟨rfl, rfl⟩
      obtain ⟨e0, e1, e2, e3, _, _, _, _⟩ := HEnt.out
      go_wp2_with fail
      refine (sameBytes_same a aw lw c lw WD y10 HRdA.out HRdW.out HNil.out (by omega)).mono ?_
      rintro e y11 ⟨rfl, B11⟩
      have HB11 := hide B11
      have HRdA1 := hide (HRdA.out.later B11)
      have HRdW1 := hide (HRdW.out.later B11)
      have HEnt1 := hide (HEnt.out.later B11)
      have HOwn1 := hide (HOwn.out.later B11)
      clear B11 e0 e1 e2 e3 HRdA HRdW HEnt HOwn HReader
      go_wp2_with fail
      go_loopw [34] (fun i wr => ∃ (k : Nat) (zs : List Int), k ≤ m4 + l6 ∧ i = .int .i64 k ∧ zs.length = m4 + l6 ∧ Own w4.heap.size wr (.slice (some ⟨g, 0, none⟩) (m4 + l6) cap) zs ∧ y11.grownBy wr (some g)) (fun i _ => m4 + l6 - (intOf i).toNat)
      case atStart => exact ⟨0, Z4 ++ d6, Nat.zero_le _, rfl, HLen.out, HOwn1.out, grownBy_refl _ _⟩
      case round =>
        obtain ⟨k, zs, hk, rfl, hzl, hown, hgr⟩ := hrel
        have HZL := hide hzl
        have HOw := hide hown
        have HGr := hide hgr
        clear hzl hown hgr
        by_cases hlt : k < m4 + l6
        · have hc := HOw.out.cellAt HZL.out k hlt
          have hfz := HOw.out.frozenAt HZL.out k
          generalize zs[k]?.getD 0 = z at hc
          have hlt' : (k : Int) < (m4 : Int) + (l6 : Int) := by omega
          go_wp2
          go_roundw
          case rel => exact ⟨k + 1, _, by omega, by go_num, by rw [List.length_set]; exact HZL.out, HOw.out.set HZL.out k _, grownBy_setCell HGr.out k _⟩
          case measure => simp [intOf]; omega
        · have HEnt2 := hide (HEnt1.out.kept HGr.out (by simpa using HEg.out))
          have HRdA2 := hide (HRdA1.out.kept HGr.out (fun z e => by simpa using HFar.out z e))
          have HRdW2 := hide (HRdW1.out.kept HGr.out (fun z e => by simpa using HFw.out z e))
          obtain ⟨e0, e1, e2, e3, _, _, _, _⟩ := HEnt2.out
          have hlt' : ¬ (k : Int) < (m4 : Int) + (l6 : Int) := by omega
          go_wp2_with fail
          refine (sameBytes_same a aw lw c lw WD wr HRdA2.out HRdW2.out HNil.out (by omega)).mono ?_
          rintro e y12 ⟨rfl, B12⟩
          have HB12 := hide B12
          clear B12 e0 e1 e2 e3
          go_wp2
          go_ret
          refine ⟨rfl, ?_⟩
          have s1 := HBel.out.size
          have s2 := HB11.out.size
          have s3 := HGr.out.size
          exact ((HBel.out.trans (HB11.out.mono s1)).grown HGr.out (by omega) (fun j e => by cases e; exact HBg.out)).trans (HB12.out.mono (by omega))
end Go.Proofs.Qxb6616937a
