/-
  THE WALK OF FnFollowersStopsWhenAsked.
-/
import Derived.Test.Qxb6616937aFill
import Derived.Deep.CutRange
namespace Go.Proofs.Qxb6616937a
open Go.RowKit Go.Maps Go.Sort Go.Shelf

theorem below_drewN {B : Nat} {a w : World} (h : Below B a w) (n : Nat) : Below B a (w.drewN n) := ⟨h.os, h.tape, h.output, h.size, h.block⟩

set_option maxRecDepth 10000 in
set_option maxHeartbeats 4000000 in
theorem stops_any (a : Option Addr) (n cap : Nat) (q : Int) (S : Nat → ByteArray) (M : Nat → Int) (w : World) (h : Peers w a n S M) (hn : n ≤ 9223372036854775807) (hq : -9223372036854775808 ≤ q ∧ q ≤ 9223372036854775807) :
    Calls Try.prog 7 #[.slice a n cap, .int .i64 q] w fun e w' => e = .returned (.bool true) ∧ Below w.heap.size w w' := by
  replace h := hide h
  obtain ⟨i9, hi9, hz90, hz91, hz92⟩ := info_parts Try.info9'
  obtain ⟨i22, hi22, hz20, hz21, hz22⟩ := info_parts Try.info22'
  go_enter Try.func7, Try.ntmps7
  go_wp2_with fail
  refine (zzBytes28_any _ _ _ _ S M _ h.out hn).mono ?_
  rintro e w' ⟨⟨bb, rfl, hok⟩, rfl⟩
  cases bb
  · clear hok
    go_wp2
    go_ret
    exact ⟨rfl, Below.refl _ _⟩
  · obtain ⟨hn1, hsz⟩ := hok rfl
    clear hok
    replace hsz := hide hsz
    go_wp2_with fail
    go_loop [5, 6] (fun t i => ∃ (k c : Nat), k ≤ n ∧ t = .int .i64 c ∧ i = .int .i64 k ∧ k * 24 ≤ c ∧ c ≤ 1048576) (fun _ i => n - (intOf i).toNat)
    case atStart => exact ⟨0, 0, Nat.zero_le _, rfl, rfl, Nat.le_refl _, by omega⟩
    case round =>
      obtain ⟨k, c, hk, rfl, rfl, hkc, hc⟩ := hrel
      by_cases hlt : k < n
      · obtain ⟨b, off, rfl, h1, h2⟩ := h.out.cell k hlt
        have hs := hsz.out k hlt
        generalize S k = s at h1 hs
        clear h2 h hsz
        by_cases hb : c + (24 + s.size) ≤ 1048576
        · have t1 : ¬ (1048576 : Int) < (c : Int) + (24 + (s.size : Int)) := by omega
          go_wp2
          go_round
          case rel => exact ⟨k + 1, c + (24 + s.size), by omega, by go_num, by go_num, by omega, hb⟩
          case measure => simp [intOf]; omega
        · have t1 : (1048576 : Int) < (c : Int) + (24 + (s.size : Int)) := by omega
          go_wp2
          go_ret
          exact ⟨rfl, Below.refl _ _⟩
      · have hnn : n * 24 ≤ 1048576 := by omega
        have hkn : ¬ (k : Int) < (n : Int) := by omega
        clear hlt
        go_wp2_with (first | (at_make; refine wpList_make_full _ rfl _ _ 51 rfl w.heap.size 9 i9 (.string ⟨#[]⟩) 1 Try.underlying51 hi9 hz90 hz91 .i64 .i64 _ _ n rfl rfl rfl rfl (by rw [hz92]; omega) (by unfold maxLen; omega) (Nat.le_refl _) ?_; intro w1 hown1 hgrow1; have F1 := hide (Fill.made rfl hown1); have B1 := hide ((Below.refl w.heap.size w).grown hgrow1 (Nat.le_refl _) (fun k e => by cases e)); have L1 := row_lt hown1; clear hown1 hgrow1) | (at_make; refine wpList_make_full _ rfl _ _ 52 rfl w1.heap.size 22 i22 (.int .u64 0) 1 Try.underlying52 hi22 hz20 hz21 .i64 .i64 _ _ n rfl rfl rfl rfl (by rw [hz22]; omega) (by unfold maxLen; omega) (Nat.le_refl _) ?_; intro w2 hown2 hgrow2; have F2 := hide (Fill.made rfl hown2); have L2 := row_lt hown2; have B2 := hide ((Below.refl w1.heap.size w1).grown hgrow2 (Nat.le_refl _) (fun k e => by cases e)); clear hown2 hgrow2))
        clear hi9 hz90 hz91 hz92 hi22 hz20 hz21 hz22
        have B02 : Below w.heap.size w w2 := B1.out.trans (B2.out.mono (by omega))
        have F12 : Fill w2 w.heap.size n (idsAt S 0) := F1.out.later L1 B2.out
        have B02h := hide B02
        have F12h := hide F12
        clear B02 F12
        go_loopw [9] (fun i wr => ∃ k : Nat, k ≤ n ∧ i = .int .i64 k ∧ Fill wr w.heap.size n (idsAt S k) ∧ Fill wr w1.heap.size n (msAt M k) ∧ Below w.heap.size w wr ∧ w1.heap.size < wr.heap.size) (fun i _ => n - (intOf i).toNat)
        case atStart => exact ⟨0, Nat.zero_le _, rfl, F12h.out, F2.out, B02h.out, L2⟩
        case round =>
          clear F12h B02h F1 F2 B1 B2 L2
          obtain ⟨k, hk, rfl, G1, G2, BW, LW⟩ := hrel
          by_cases hlt : k < n
          · obtain ⟨b, off, rfl, h1, h2⟩ := h.out.cell k hlt
            have hbw : b < w.heap.size := block_lt_of_cell h1
            have h1' : wr.cell? ⟨b, off + k * 2, none⟩ = some (.string (S k)) := (BW.cell (p := ⟨b, off + k * 2, none⟩) hbw).trans h1
            have h2' : (wr.setCell ⟨w.heap.size, k, none⟩ (.string (S k))).cell? ⟨b, off + k * 2 + 1, none⟩ = some (.int .u64 (M k)) := (World.cell?_setCell_far _ _ _ _ (by simp; omega)).trans ((BW.cell (p := ⟨b, off + k * 2 + 1, none⟩) hbw).trans h2)
            have g1 := G1.cell k hlt
            have g1f := G1.frozen k
            have g2 := (G2.far ⟨w.heap.size, k, none⟩ (.string (S k)) (by simp; omega)).cell k hlt
            have g2f := (G2.far ⟨w.heap.size, k, none⟩ (.string (S k)) (by simp; omega)).frozen k
            have hst := hide (fill_step hlt (by omega) G1 G2)
            have BW' := hide ((BW.setCell (p := ⟨w.heap.size, k, none⟩) (Nat.le_refl _) (.string (S k))).setCell (p := ⟨w1.heap.size, k, none⟩) (by simp; omega) (.int .u64 (M k)))
            obtain ⟨z1, hz1⟩ : ∃ z, Hid (z = idsAt S k k) := ⟨_, hide rfl⟩
            obtain ⟨z2, hz2⟩ : ∃ z, Hid (z = msAt M k k) := ⟨_, hide rfl⟩
            rw [← hz1.out] at g1
            rw [← hz2.out] at g2
            clear h1 h2 h hsz G1 G2 BW
            go_wp2
            go_roundw
            case rel => exact ⟨k + 1, by omega, by go_num, hst.out.1, hst.out.2, BW'.out, by simp; omega⟩
            case measure => simp [intOf]; omega
          · have hkk : k = n := by omega
            subst hkk
            have PS : ∀ j, j < k → wr.cell? ⟨w.heap.size, j, none⟩ = some (.string (S j)) ∧ (S j).size ≤ 1048576 := fun j hj => ⟨(G1.cell j hj).trans (by unfold idsAt; rw [if_pos hj]), hsz.out j hj⟩
            have PM : ∀ j, j < k → wr.cell? ⟨w1.heap.size, j, none⟩ = some (.int .u64 (M j)) := fun j hj => (G2.cell j hj).trans (by unfold msAt; rw [if_pos hj])
            have BWh := hide BW
            have CN := hide (newPeers_any w.heap.size w1.heap.size k k k S M wr hn1 PS PM)
            clear G1 G2 BW hsz hlt PS PM
            go_wp2_with fail
            refine CN.out.mono ?_
            rintro e v3 ⟨r, b, D, rfl, R3, B3⟩
            obtain ⟨L, hI⟩ := items_of R3.map
            obtain ⟨N, h1⟩ : ∃ N, Hid (L.length = N) := ⟨_, hide rfl⟩
            obtain ⟨T, h2⟩ : ∃ T, Hid (tS (L.map (·.1)) = T) := ⟨_, hide rfl⟩
            obtain ⟨V, h3⟩ : ∃ V, Hid (tM (L.map (·.1)) = V) := ⟨_, hide rfl⟩
            obtain ⟨N2, h4⟩ : ∃ N2, Hid (min q.toNat N = N2) := ⟨_, hide rfl⟩
            have hP : Hid (Plain N k S M T V) := by rw [← h1.out, ← h2.out, ← h3.out]; exact hide (plain_of R3.map hI)
            have hNk := hP.out.le
            have CF := hide (followers_at r b k S M D v3 R3 hn1 L hI N T V h1 h2 h3)
            have CU : Hid (∀ v4, Below v3.heap.size v3 v4 → _) := hide (fun v4 (B4 : Below v3.heap.size v3 v4) => followersUpTo_at r b k q S M D v3 v4 B4 (R3.later B4) hn1 hq L hI N N2 T V h1 h2 h3 h4)
            have B03 : Hid (Below w.heap.size w v3) := hide (BWh.out.trans (B3.mono BWh.out.size))
            clear CN BWh B3 R3 hI h1 h2 h3
            go_wp2_with fail
            refine CF.out.mono ?_
            rintro e v4 ⟨a1, c1, a2, c2, rfl, r1, r2, B4⟩
            go_wp2_with fail
            refine (CU.out v4 B4).mono ?_
            rintro e v5 ⟨a3, c3, a4, c4, rfl, r3, r4, B5⟩
            have B05 : Hid (Below w.heap.size w v5) := by
              have e3 := B03.out.size
              have e4 := B4.size
              exact hide ((B03.out.trans (B4.mono e3)).trans (B5.mono (by omega)))
            replace r1 := hide (r1.later B5)
            replace r2 := hide (r2.later B5)
            replace r3 := hide r3
            replace r4 := hide r4
            clear CU CF B03 B4 B5
            have hN2 : N2 ≤ N := by have := h4.out; omega
            obtain ⟨q1, hq1⟩ : ∃ q1 : Int, Hid (q1 = max q 0) := ⟨_, hide rfl⟩
            go_upto_if 97 with fail
            go_cut [15] from 95 to 97 (fun s wx => s = .int .i64 q1 ∧ v5 = wx)
            case first =>
              by_cases hq0 : q < 0
              · go_wp2
                go_meet
                case rel => exact ⟨by rw [hq1.out]; congr 1; omega, rfl⟩
              · go_wp2
                go_meet
                case rel => exact ⟨by rw [hq1.out]; congr 1; omega, rfl⟩
            obtain ⟨rfl, rfl⟩ := hcut
            go_upto_if 101 with fail
            go_cut [15] from 98 to 103 (fun s wx => s = .int .i64 (N2 : Int) ∧ v5 = wx)
            case first =>
              by_cases hq0 : (N : Int) < q1
              · go_wp2
                go_meet
                case rel => exact ⟨by have e1 := hq1.out; have e2 := h4.out; congr 1; omega, rfl⟩
              · go_wp2
                go_meet
                case rel => exact ⟨by have e1 := hq1.out; have e2 := h4.out; congr 1; omega, rfl⟩
            obtain ⟨rfl, rfl⟩ := hcut
            clear h4 hq1
            go_wp2_with fail
            go_loopw [16] (fun i wr => ∃ j : Nat, j ≤ N2 ∧ i = .int .i64 j ∧ Below v5.heap.size v5 wr) (fun i _ => N2 - (intOf i).toNat)
            case atStart => exact ⟨0, Nat.zero_le _, rfl, Below.refl _ _⟩
            case round =>
              obtain ⟨j, hj, rfl, BJ⟩ := hrel
              by_cases hlt : j < N2
              · obtain ⟨g3, rfl, d3⟩ := (r3.out.later BJ) j hlt
                obtain ⟨g4, rfl, d4⟩ := (r4.out.later BJ) j hlt
                obtain ⟨g1, rfl, d1⟩ := (r1.out.later BJ) j (by omega)
                obtain ⟨g2, rfl, d2⟩ := (r2.out.later BJ) j (by omega)
                generalize T j = s at d3 d1
                generalize V j = m at d4 d2
                replace BJ := hide BJ
                clear r1 r2 r3 r4 hP h
                go_wp2
                go_quiet (fail)
                go_wp2
                go_roundw
                case rel => exact ⟨j + 1, by omega, by go_num, below_drewN BJ.out _⟩
                case measure => simp [intOf]; omega
              · clear r3 r4
                replace BJ := hide BJ
                have R1 := hide (r1.out.later BJ.out)
                have R2 := hide (r2.out.later BJ.out)
                have BB : Hid (Below w.heap.size w wr) := hide (B05.out.trans (BJ.out.mono B05.out.size))
                clear r1 r2 BJ B05
                by_cases hk0 : 0 < k
                · have PW := hide (h.out.later BB.out)
                  clear h
                  obtain ⟨b0, off0, rfl, p1, p2⟩ := PW.out.cell 0 hk0
                  simp only [Nat.zero_mul, Nat.add_zero] at p1 p2
                  have hmin := hide (MinAt.start S M)
                  obtain ⟨s0, hs0⟩ : ∃ s0, Hid (s0 = S 0) := ⟨_, hide rfl⟩
                  obtain ⟨m0, hm0⟩ : ∃ m0, Hid (m0 = M 0) := ⟨_, hide rfl⟩
                  rw [← hs0.out] at p1
                  rw [← hm0.out] at p2
                  go_wp2_with fail
                  clear p1 p2
                  go_loop [17, 18, 19] (fun u v i => ∃ (x : Nat) (s : ByteArray) (m : Int), x ≤ k ∧ 1 ≤ x ∧ u = .string s ∧ v = .int .u64 m ∧ i = .int .i64 x ∧ MinAt S M x s m) (fun _ _ i => k - (intOf i).toNat)
                  case atStart => exact ⟨1, s0, m0, hk0, Nat.le_refl _, rfl, rfl, rfl, by rw [hs0.out, hm0.out]; exact hmin.out⟩
                  case round =>
                    clear hmin hs0 hm0
                    obtain ⟨x, s, m, hx, hx1, rfl, rfl, rfl, HM⟩ := hrel
                    replace HM := hide HM
                    by_cases hlt : x < k
                    · obtain ⟨b1, off1, e1, p1, p2⟩ := PW.out.cell x hlt
                      cases e1
                      have hless := less_iff (S x) s
                      have hsame := same_iff (S x) s
                      obtain ⟨y, hy⟩ : ∃ y, Hid (y = S x) := ⟨_, hide rfl⟩
                      rw [← hy.out] at p1 hless hsame
                      obtain ⟨my, hmy⟩ : ∃ my, Hid (my = M x) := ⟨_, hide rfl⟩
                      rw [← hmy.out] at p2
                      by_cases hl : y.data.toList < s.data.toList
                      · rw [decide_eq_true hl] at hless
                        have nx : MinAt S M (x + 1) y my := by rw [hy.out, hmy.out]; exact HM.out.lt (by rw [← hy.out]; exact hl)
                        replace nx := hide nx
                        clear hsame hl PW HM R1 R2 hP
                        go_wp2
                        go_round
                        case rel => exact ⟨x + 1, y, my, by omega, by omega, rfl, rfl, by go_num, nx.out⟩
                        case measure => simp [intOf]; omega
                      · rw [decide_eq_false hl] at hless
                        by_cases he : y = s
                        · rw [decide_eq_true he] at hsame
                          have nx : MinAt S M (x + 1) s my := by rw [hmy.out]; exact HM.out.eq (by rw [← hy.out]; exact he)
                          replace nx := hide nx
                          clear hl he PW HM R1 R2 hP
                          go_wp2
                          go_round
                          case rel => exact ⟨x + 1, s, my, by omega, by omega, rfl, rfl, by go_num, nx.out⟩
                          case measure => simp [intOf]; omega
                        · rw [decide_eq_false he] at hsame
                          have nx : MinAt S M (x + 1) s m := HM.out.gt (by rw [← hy.out]; exact hl) (by rw [← hy.out]; exact he)
                          replace nx := hide nx
                          clear hl he PW HM R1 R2 hP
                          go_wp2
                          go_round
                          case rel => exact ⟨x + 1, s, m, by omega, by omega, rfl, rfl, by go_num, nx.out⟩
                          case measure => simp [intOf]; omega
                    · obtain rfl : x = k := by omega
                      obtain ⟨f0, f1, f2⟩ := HM.out.first hP.out
                      obtain ⟨g1, e1, d1⟩ := R1.out 0 f0
                      obtain ⟨g2, e2, d2⟩ := R2.out 0 f0
                      subst e1
                      subst e2
                      simp only [f1] at d1
                      simp only [f2] at d2
                      clear f1 f2 HM hP R1 R2 PW
                      go_wp2
                      go_ret
                      exact ⟨rfl, BB.out⟩
                · have hk1 : k = 0 := by omega
                  go_wp2
                  go_ret
                  exact ⟨rfl, BB.out⟩
end Go.Proofs.Qxb6616937a
