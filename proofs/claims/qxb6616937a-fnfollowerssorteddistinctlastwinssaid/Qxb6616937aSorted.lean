/-
  THE WALK OF FnFollowersSortedDistinctLastWins.
-/
import Derived.Test.Qxb6616937aSearch
import Derived.Deep.CutRange
namespace Go.Proofs.Qxb6616937a
open Go.RowKit Go.Maps Go.Sort Go.Shelf

theorem below_drewN' {B : Nat} {a w : World} (h : Below B a w) (n : Nat) : Below B a (w.drewN n) := ⟨h.os, h.tape, h.output, h.size, h.block⟩
theorem Try.info4' : (Try.prog.info? 4).map (fun i => (i.zero, i.size, i.bytes)) = some (some (.bool false), 1, 1) := by kernel_rfl
theorem Try.info3' : (Try.prog.info? 3).map (fun i => (i.zero, i.size, i.bytes)) = some (some (.int .i64 0), 1, 8) := by kernel_rfl

set_option maxRecDepth 10000 in
set_option maxHeartbeats 4000000 in
theorem sorted_any (a : Option Addr) (n cap : Nat) (S : Nat → ByteArray) (M : Nat → Int) (w : World) (h : Peers w a n S M) (hn : n ≤ 9223372036854775807) :
    Calls Try.prog 6 #[.slice a n cap] w fun e w' => e = .returned (.bool true) ∧ Below w.heap.size w w' := by
  replace h := hide h
  obtain ⟨i9, hi9, hz90, hz91, hz92⟩ := info_parts Try.info9'
  obtain ⟨i4, hi4, hz40, hz41, hz42⟩ := info_parts Try.info4'
  obtain ⟨i3, hi3, hz30, hz31, hz32⟩ := info_parts Try.info3'
  obtain ⟨i22, hi22, hz20, hz21, hz22⟩ := info_parts Try.info22'
  go_enter Try.func6, Try.ntmps6
  go_wp2_with fail
  refine (zzBytes24_any _ _ _ S M _ h.out hn).mono ?_
  rintro e w' ⟨⟨bb, rfl, hok⟩, rfl⟩
  cases bb
  · clear hok
    go_wp2
    go_ret
    exact ⟨rfl, Below.refl _ _⟩
  · obtain ⟨hn1, hsz⟩ := hok rfl
    clear hok
    replace hsz := hide hsz
    go_wp2_with fail
    go_loop [3, 4] (fun t i => ∃ (k c : Nat), k ≤ n ∧ t = .int .i64 c ∧ i = .int .i64 k ∧ k * 24 ≤ c ∧ c ≤ 1048576) (fun _ i => n - (intOf i).toNat)
    case atStart => exact ⟨0, 0, Nat.zero_le _, rfl, rfl, Nat.le_refl _, by omega⟩
    case round =>
      obtain ⟨k, c, hk, rfl, rfl, hkc, hc⟩ := hrel
      by_cases hlt : k < n
      · obtain ⟨b, off, rfl, h1, h2⟩ := h.out.cell k hlt
        have hs := hsz.out k hlt
        generalize S k = s at h1 hs
        clear h2 h hsz
        by_cases hb : c + (24 + s.size) ≤ 1048576
        · have t1 : ¬ (1048576 : Int) < (c : Int) + (24 + (s.size : Int)) := by omega
          go_wp2
          go_round
          case rel => exact ⟨k + 1, c + (24 + s.size), by omega, by go_num, by go_num, by omega, hb⟩
          case measure => simp [intOf]; omega
        · have t1 : (1048576 : Int) < (c : Int) + (24 + (s.size : Int)) := by omega
          go_wp2
          go_ret
          exact ⟨rfl, Below.refl _ _⟩
      · have hnn : n * 24 ≤ 1048576 := by omega
        have hkn : ¬ (k : Int) < (n : Int) := by omega
        clear hlt
        go_wp2_with (first | (at_make; refine wpList_make_full _ rfl _ _ 51 rfl w.heap.size 9 i9 (.string ⟨#[]⟩) 1 Try.underlying51 hi9 hz90 hz91 .i64 .i64 _ _ n rfl rfl rfl rfl (by rw [hz92]; omega) (by unfold maxLen; omega) (Nat.le_refl _) ?_; intro w1 hown1 hgrow1; have F1 := hide (Fill.made rfl hown1); have B1 := hide ((Below.refl w.heap.size w).grown hgrow1 (Nat.le_refl _) (fun k e => by cases e)); have L1 := row_lt hown1; clear hown1 hgrow1) | (at_make; refine wpList_make_full _ rfl _ _ 52 rfl w1.heap.size 22 i22 (.int .u64 0) 1 Try.underlying52 hi22 hz20 hz21 .i64 .i64 _ _ n rfl rfl rfl rfl (by rw [hz22]; omega) (by unfold maxLen; omega) (Nat.le_refl _) ?_; intro w2 hown2 hgrow2; have F2 := hide (Fill.made rfl hown2); have L2 := row_lt hown2; have B2 := hide ((Below.refl w1.heap.size w1).grown hgrow2 (Nat.le_refl _) (fun k e => by cases e)); clear hown2 hgrow2))
        clear hi9 hz90 hz91 hz92 hi22 hz20 hz21 hz22
        have B02 : Below w.heap.size w w2 := B1.out.trans (B2.out.mono (by omega))
        have F12 : Fill w2 w.heap.size n (idsAt S 0) := F1.out.later L1 B2.out
        have B02h := hide B02
        have F12h := hide F12
        clear B02 F12
        go_loopw [7] (fun i wr => ∃ k : Nat, k ≤ n ∧ i = .int .i64 k ∧ Fill wr w.heap.size n (idsAt S k) ∧ Fill wr w1.heap.size n (msAt M k) ∧ Below w.heap.size w wr ∧ w1.heap.size < wr.heap.size) (fun i _ => n - (intOf i).toNat)
        case atStart => exact ⟨0, Nat.zero_le _, rfl, F12h.out, F2.out, B02h.out, L2⟩
        case round =>
          clear F12h B02h F1 F2 B1 B2 L2
          obtain ⟨k, hk, rfl, G1, G2, BW, LW⟩ := hrel
          by_cases hlt : k < n
          · obtain ⟨b, off, rfl, h1, h2⟩ := h.out.cell k hlt
            have hbw : b < w.heap.size := block_lt_of_cell h1
            have h1' : wr.cell? ⟨b, off + k * 2, none⟩ = some (.string (S k)) := (BW.cell (p := ⟨b, off + k * 2, none⟩) hbw).trans h1
            have h2' : (wr.setCell ⟨w.heap.size, k, none⟩ (.string (S k))).cell? ⟨b, off + k * 2 + 1, none⟩ = some (.int .u64 (M k)) := (World.cell?_setCell_far _ _ _ _ (by simp; omega)).trans ((BW.cell (p := ⟨b, off + k * 2 + 1, none⟩) hbw).trans h2)
            have g1 := G1.cell k hlt
            have g1f := G1.frozen k
            have g2 := (G2.far ⟨w.heap.size, k, none⟩ (.string (S k)) (by simp; omega)).cell k hlt
            have g2f := (G2.far ⟨w.heap.size, k, none⟩ (.string (S k)) (by simp; omega)).frozen k
            have hst := hide (fill_step hlt (by omega) G1 G2)
            have BW' := hide ((BW.setCell (p := ⟨w.heap.size, k, none⟩) (Nat.le_refl _) (.string (S k))).setCell (p := ⟨w1.heap.size, k, none⟩) (by simp; omega) (.int .u64 (M k)))
            obtain ⟨z1, hz1⟩ : ∃ z, Hid (z = idsAt S k k) := ⟨_, hide rfl⟩
            obtain ⟨z2, hz2⟩ : ∃ z, Hid (z = msAt M k k) := ⟨_, hide rfl⟩
            rw [← hz1.out] at g1
            rw [← hz2.out] at g2
            clear h1 h2 h hsz G1 G2 BW
            go_wp2
            go_roundw
            case rel => exact ⟨k + 1, by omega, by go_num, hst.out.1, hst.out.2, BW'.out, by simp; omega⟩
            case measure => simp [intOf]; omega
          · have hkk : k = n := by omega
            subst hkk
            have PS : ∀ j, j < k → wr.cell? ⟨w.heap.size, j, none⟩ = some (.string (S j)) ∧ (S j).size ≤ 1048576 := fun j hj => ⟨(G1.cell j hj).trans (by unfold idsAt; rw [if_pos hj]), hsz.out j hj⟩
            have PM : ∀ j, j < k → wr.cell? ⟨w1.heap.size, j, none⟩ = some (.int .u64 (M j)) := fun j hj => (G2.cell j hj).trans (by unfold msAt; rw [if_pos hj])
            have BWh := hide BW
            have CN := hide (newPeers_any w.heap.size w1.heap.size k k k S M wr hn1 PS PM)
            clear G1 G2 BW hsz hlt PS PM
            go_wp2_with fail
            refine CN.out.mono ?_
            rintro e v3 ⟨r, b, D, rfl, R3, B3⟩
            obtain ⟨L, hI⟩ := items_of R3.map
            obtain ⟨N, h1⟩ : ∃ N, Hid (L.length = N) := ⟨_, hide rfl⟩
            obtain ⟨T, h2⟩ : ∃ T, Hid (tS (L.map (·.1)) = T) := ⟨_, hide rfl⟩
            obtain ⟨V, h3⟩ : ∃ V, Hid (tM (L.map (·.1)) = V) := ⟨_, hide rfl⟩
            have hP : Hid (Plain N k S M T V) := by rw [← h1.out, ← h2.out, ← h3.out]; exact hide (plain_of R3.map hI)
            have hNk := hP.out.le
            have CF := hide (followers_at r b k S M D v3 R3 hn1 L hI N T V h1 h2 h3)
            have B03 : Hid (Below w.heap.size w v3) := hide (BWh.out.trans (B3.mono BWh.out.size))
            clear CN BWh B3 R3 hI h1 h2 h3
            go_wp2_with fail
            refine CF.out.mono ?_
            rintro e v4 ⟨a1, c1, a2, c2, rfl, r1, r2, B4⟩
            have B04 : Hid (Below w.heap.size w v4) := hide (B03.out.trans (B4.mono B03.out.size))
            replace r1 := hide r1
            replace r2 := hide r2
            clear CF B03 B4
            have t0 : ¬ (k : Int) < (N : Int) := by omega
            go_wp2_with fail
            go_loopw [11] (fun i wr => ∃ j : Nat, 1 ≤ j ∧ j ≤ N + 1 ∧ i = .int .i64 j ∧ Below v4.heap.size v4 wr) (fun i _ => N + 1 - (intOf i).toNat)
            case atStart => exact ⟨1, Nat.le_refl _, by omega, rfl, Below.refl _ _⟩
            case round =>
              obtain ⟨j, hj1, hj, rfl, BJ⟩ := hrel
              by_cases hlt : j < N
              · obtain ⟨g1, rfl, d1⟩ := (r1.out.later BJ) j hlt
                obtain ⟨g1', e1, d2⟩ := (r1.out.later BJ) (j - 1) (by omega)
                cases e1
                have hless := less_iff (T (j - 1)) (T j)
                rw [decide_eq_true (hP.out.rise (j - 1) j (by omega) hlt)] at hless
                simp only at d1 d2
                generalize T (j - 1) = s1 at d2 hless
                generalize T j = s2 at d1 hless
                obtain ⟨j', rfl⟩ : ∃ j', j = j' + 1 := ⟨j - 1, by omega⟩
                simp only [Nat.add_sub_cancel] at d2
                replace BJ := hide BJ
                clear r1 r2 hP h
                go_wp2
                go_quiet (fail)
                go_wp2
                go_roundw
                case rel => exact ⟨j' + 1 + 1, by omega, by omega, by go_num, below_drewN' BJ.out _⟩
                case measure => simp [intOf]; omega
              · obtain ⟨wz, rfl⟩ : ∃ wz, wz = wr := ⟨_, rfl⟩
                have R1 := hide (r1.out.later BJ)
                have R2 := hide (r2.out.later BJ)
                have B0r : Hid (Below w.heap.size w wz) := hide (B04.out.trans (BJ.mono B04.out.size))
                have hBwr := B0r.out.size
                clear r1 r2 BJ B04
                go_wp2_with (first | (at_make; refine wpList_make_full _ rfl _ _ 45 rfl wz.heap.size 4 i4 (.bool false) 1 Try.underlying45 hi4 hz40 hz41 .i64 .i64 _ _ N rfl rfl rfl rfl (by rw [hz42]; omega) (by unfold maxLen; omega) (Nat.le_refl _) ?_; intro w5 hown1 hgrow1; have F1 := hide (Fill.made rfl hown1); have B1 := hide ((Below.refl wz.heap.size wz).grown hgrow1 (Nat.le_refl _) (fun k e => by cases e)); have L5 := row_lt hown1; clear hown1 hgrow1) | (at_make; refine wpList_make_full _ rfl _ _ 56 rfl w5.heap.size 3 i3 (.int .i64 0) 1 Try.underlying56 hi3 hz30 hz31 .i64 .i64 _ _ N rfl rfl rfl rfl (by rw [hz32]; omega) (by unfold maxLen; omega) (Nat.le_refl _) ?_; intro w6 hown2 hgrow2; have F2 := hide (Fill.made rfl hown2); have L6 := row_lt hown2; have B2 := hide ((Below.refl w5.heap.size w5).grown hgrow2 (Nat.le_refl _) (fun k e => by cases e)); clear hown2 hgrow2))
                clear hi4 hz40 hz41 hz42 hi3 hz30 hz31 hz32
                have Bw6 : Hid (Below wz.heap.size wz w6) := hide (B1.out.trans (B2.out.mono (by omega)))
                have F16 : Hid (Fill w6 wz.heap.size N (hitAt S T 0)) := hide (F1.out.later L5 B2.out)
                have F26 : Hid (Fill w6 w5.heap.size N (ixAt S T 0)) := F2
                clear F1 F2 B1 B2
                go_loopw [14] (fun i wr => ∃ x : Nat, x ≤ k ∧ i = .int .i64 x ∧ Fill wr wz.heap.size N (hitAt S T x) ∧ Fill wr w5.heap.size N (ixAt S T x) ∧ Below wz.heap.size wz wr ∧ w5.heap.size < wr.heap.size) (fun i _ => k - (intOf i).toNat)
                case atStart => exact ⟨0, Nat.zero_le _, rfl, F16.out, F26.out, Bw6.out, L6⟩
                case round =>
                  clear F16 F26 Bw6 L6
                  obtain ⟨x, hx, rfl, G1, G2, BX, LX⟩ := hrel
                  have B0x : Hid (Below w.heap.size w wr) := hide (B0r.out.trans (BX.mono hBwr))
                  have R1x := hide (R1.out.later BX)
                  have R2x := hide (R2.out.later BX)
                  by_cases hlt : x < k
                  · obtain ⟨b0, off0, rfl, p1, p2⟩ := (h.out.later B0x.out).cell x hlt
                    obtain ⟨j0, hj0, hx0⟩ := hP.out.mem x hlt
                    have CS := hide (search_any a1 N c1 j0 T (S x) wr R1x.out (by omega) hP.out.rise hj0 hx0)
                    have g1 := G1.cell j0 hj0
                    have g1f := G1.frozen j0
                    have g2 := (G2.far ⟨wz.heap.size, j0, none⟩ (.bool true) (by simp; omega)).cell j0 hj0
                    have g2f := (G2.far ⟨wz.heap.size, j0, none⟩ (.bool true) (by simp; omega)).frozen j0
                    have hst := hide (mark_step hP.out hj0 hx0 (by omega) G1 G2)
                    have BX' := hide ((BX.setCell (p := ⟨wz.heap.size, j0, none⟩) (Nat.le_refl _) (.bool true)).setCell (p := ⟨w5.heap.size, j0, none⟩) (by simp; omega) (.int .i64 (x : Int)))
                    obtain ⟨z1, hz1⟩ : ∃ z, Hid (z = hitAt S T x j0) := ⟨_, hide rfl⟩
                    obtain ⟨z2, hz2⟩ : ∃ z, Hid (z = ixAt S T x j0) := ⟨_, hide rfl⟩
                    rw [← hz1.out] at g1
                    rw [← hz2.out] at g2
                    clear p2 h G1 G2 BX R1 R2 R1x R2x hP hx0
                    go_wp2_with fail
                    refine CS.out.mono ?_
                    rintro e wy ⟨rfl, rfl⟩
                    clear CS
                    go_wp2
                    go_roundw
                    case rel => exact ⟨x + 1, by omega, by go_num, hst.out.1, hst.out.2, BX'.out, by simp; omega⟩
                    case measure => simp [intOf]; omega
                  · obtain rfl : x = k := by omega
                    have LZ : wz.heap.size < wr.heap.size := by omega
                    replace G1 := hide G1
                    replace G2 := hide G2
                    replace BX := hide BX
                    obtain ⟨wq, rfl⟩ : ∃ wq, wq = wr := ⟨_, rfl⟩
                    go_wp2_with fail
                    go_loopw [16] (fun i wr => ∃ j : Nat, j ≤ N ∧ i = .int .i64 j ∧ Below wq.heap.size wq wr) (fun i _ => N - (intOf i).toNat)
                    case atStart => exact ⟨0, Nat.zero_le _, rfl, Below.refl _ _⟩
                    case round =>
                      obtain ⟨j, hj, rfl, BJ⟩ := hrel
                      have BB : Hid (Below w.heap.size w wr) := hide (B0x.out.trans (BJ.mono B0x.out.size))
                      by_cases hlt : j < N
                      · obtain ⟨i', hi', hi'lt, hMi⟩ := lastIx_of (hP.out.last j hlt)
                        have q1 := (G1.out.later LZ BJ).cell j hlt
                        have q2 := (G2.out.later LX BJ).cell j hlt
                        unfold hitAt at q1
                        unfold ixAt at q2
                        rw [hi'] at q1 q2
                        obtain ⟨g2, rfl, q3⟩ := (R2x.out.later BJ) j hlt
                        obtain ⟨b0, off0, rfl, p1, p2⟩ := (h.out.later BB.out).cell i' hi'lt
                        rw [hMi] at p2
                        simp only [Option.isSome_some, Option.getD_some] at q1 q2 q3
                        generalize V j = m at q3 p2
                        replace BJ := hide BJ
                        clear p1 h hP G1 G2 R1 R2 R1x R2x hi' hMi B0r
                        go_wp2
                        go_quiet (fail)
                        go_wp2
                        go_roundw
                        case rel => exact ⟨j + 1, by omega, by go_num, below_drewN' BJ.out _⟩
                        case measure => simp [intOf]; omega
                      · clear h hP G1 G2 R1 R2 R1x R2x
                        go_wp2
                        go_ret
                        exact ⟨rfl, BB.out⟩
end Go.Proofs.Qxb6616937a
