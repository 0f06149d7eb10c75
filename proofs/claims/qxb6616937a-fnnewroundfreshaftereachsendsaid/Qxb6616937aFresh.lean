/-
  THE WALK OF FnNewRoundFreshAfterEachSend.
-/
import Derived.Test.Qxb6616937aRound
import Derived.WalkSpells
namespace Go.Proofs.Qxb6616937a
open Go.RowKit

theorem zzBytes23_any (n : Int) (s : Bool) (a : Option Addr) (len cap : Nat) (hl : len ≤ 9223372036854775807) (w : World) :
    Calls Try.prog 23 #[.int .u64 n, .bool s, .slice a len cap] w fun e w' => e = .returned (.bool (decide (len ≤ 1048576))) ∧ w = w' := by
  by_cases h : len ≤ 1048576
  · have h1 : ¬ (1048576 : Int) < (len : Int) := by omega
    rw [decide_eq_true h]
    go_enter Try.func23, Try.ntmps23
    go_wp2
    go_ret
    exact ⟨rfl, rfl⟩
  · have h1 : (1048576 : Int) < (len : Int) := by omega
    rw [decide_eq_false h]
    go_enter Try.func23, Try.ntmps23
    go_wp2
    go_ret
    exact ⟨rfl, rfl⟩

theorem next_again (m : Int) (h : 0 < m) : nextRound m false = m := by
  unfold nextRound; rw [if_neg (by simp; omega)]

/-- ZZreplicaNewRound, its answer given as a number of the caller's own spelling. -/
theorem zzNewRound_at (b : Nat) (n : Int) (s : Bool) (m : Int) (w : World) (h : IsRep w b n s) (he : Hid (nextRound n s = m)) (hn : 0 ≤ n) (hm : n < 18446744073709551615 ∨ s = false) :
    Calls Try.prog 20 #[.pointer (some ⟨b, 0, none⟩)] w fun e w' => e = .returned (.int .u64 m) ∧ IsRep w' b m false ∧ Below b w w' := by
  have h' := zzNewRound_any b n s w h hn hm
  rw [he.out] at h'
  exact h'

/-- The early ways out. -/
theorem fresh_long (n : Int) (s : Bool) (a : Option Addr) (len cap : Nat) (hm : len ≤ 9223372036854775807) (hlen : 65536 < len) (w : World) :
    Calls Try.prog 5 #[.int .u64 n, .bool s, .slice a len cap] w fun e w' => e = .returned (.bool true) ∧ Below w.heap.size w w' := by
  have h1 : (65536 : Int) < (len : Int) := by omega
  by_cases h : len ≤ 1048576
  · have e : decide (len ≤ 1048576) = true := decide_eq_true h
    go_enter Try.func5, Try.ntmps5
    go_wp2_with fail
    refine (zzBytes23_any _ _ _ _ _ hm _).mono ?_
    rintro e w' ⟨rfl, rfl⟩
    go_wp2
    go_ret
    exact ⟨rfl, Below.refl _ _⟩
  · have e : decide (len ≤ 1048576) = false := decide_eq_false h
    go_enter Try.func5, Try.ntmps5
    go_wp2_with fail
    refine (zzBytes23_any _ _ _ _ _ hm _).mono ?_
    rintro e w' ⟨rfl, rfl⟩
    go_wp2
    go_ret
    exact ⟨rfl, Below.refl _ _⟩

theorem fresh_high (n : Int) (s : Bool) (a : Option Addr) (len cap : Nat) (hlen : len ≤ 65536) (_hn : 0 ≤ n) (hh : 18446744073709551614 - (len : Int) < n) (w : World) :
    Calls Try.prog 5 #[.int .u64 n, .bool s, .slice a len cap] w fun e w' => e = .returned (.bool true) ∧ Below w.heap.size w w' := by
  have h1 : ¬ (65536 : Int) < (len : Int) := by omega
  have e : decide (len ≤ 1048576) = true := decide_eq_true (by omega)
  go_enter Try.func5, Try.ntmps5
  go_wp2_with fail
  refine (zzBytes23_any _ _ _ _ _ (by omega) _).mono ?_
  rintro e w' ⟨rfl, rfl⟩
  go_wp2
  go_ret
  exact ⟨rfl, Below.refl _ _⟩

/-- THE MAIN WAY: the answer 'first' is m; the loop's relation: behind k rounds and q sends the replica holds m + q, not sent. -/
theorem fresh_main (n m : Int) (s : Bool) (a : Option Addr) (len cap : Nat) (B : Nat → Bool) (hlen : len ≤ 65536) (hn : 0 ≤ n) (hh : n ≤ 18446744073709551614 - (len : Int)) (w : World)
    (E1 : Hid (nextRound n s = m)) (hm0 : 0 < m) (hm1 : n ≤ m) (hm2 : m ≤ n + 1) (hs : s = true → m = n + 1)
    (hc : ∀ k, k < len → ∃ b off, a = some ⟨b, off, none⟩ ∧ b < w.heap.size ∧ w.cell? ⟨b, off + k, none⟩ = some (.bool (B k))) :
    Calls Try.prog 5 #[.int .u64 n, .bool s, .slice a len cap] w fun e w' => e = .returned (.bool true) ∧ Below w.heap.size w w' := by
  have h1 : ¬ (65536 : Int) < (len : Int) := by omega
  have e : decide (len ≤ 1048576) = true := decide_eq_true (by omega)
  have t1 : (m == 0) = false := beq_eq_false_iff_ne.2 (by omega)
  have t2 : decide (m < n) = false := decide_eq_false (by omega)
  have t3 : decide (1 < m - n) = false := decide_eq_false (by omega)
  have t4 : ¬ 18446744073709551614 - (len : Int) < n := by omega
  cases s
  case' true => have t5 : (m != n + 1) = false := by rw [hs rfl]; simp
  case' false => have t5 : True := trivial
  all_goals
    clear hs
    go_enter Try.func5, Try.ntmps5
    go_wp2_with fail
    refine (zzBytes23_any _ _ _ _ _ (by omega) _).mono ?_
    rintro e w' ⟨rfl, rfl⟩
    go_wp2_with fail
    refine (newReplicaRound_any _ _ _).mono ?_
    rintro e v1 ⟨b1, rfl, R1, hb1, B1⟩
    go_wp2_with fail
    refine (zzNewRound_at b1 _ _ m _ R1 E1 hn (by first | exact .inr rfl | (left; omega))).mono ?_
    rintro e v2 ⟨rfl, R2, B2⟩
    have BB := B1.trans (B2.mono hb1)
    clear R1 B1 B2
    go_wp2_with fail
    go_loopw [7, 9, 10] (fun r bp i wr => ∃ (k q b : Nat), k ≤ len ∧ q ≤ k ∧ i = .int .i64 k ∧ bp = .int .u64 q ∧ r = .pointer (some ⟨b, 0, none⟩) ∧ IsRep wr b (m + q) false ∧ w.heap.size ≤ b ∧ Below w.heap.size w wr) (fun _ _ i _ => len - (intOf i).toNat)
    case atStart => exact ⟨0, 0, b1, Nat.zero_le _, Nat.le_refl _, rfl, rfl, rfl, by simpa using R2, hb1, BB⟩
    case round =>
      clear R2 BB hb1
      obtain ⟨k, q, b, hk, hq, rfl, rfl, rfl, RR, hb, BW⟩ := hrel
      by_cases hlt : k < len
      · obtain ⟨bb, off, ha, hbb, hck⟩ := hc k hlt
        have hck' : wr.cell? ⟨bb, off + k, none⟩ = some (.bool (B k)) := (BW.cell (p := ⟨bb, off + k, none⟩) hbb).trans hck
        clear hc hck hbb
        subst ha
        cases hBk : B k
        · rw [hBk] at hck'
          have E2 : Hid (nextRound (m + q) false = m + q) := next_again _ (by omega)
          have t6 : (m + (q : Int) != m + (q : Int)) = false := by simp
          clear hBk
          go_wp2_with fail
          refine (zzNewRound_at b _ _ (m + q) _ RR E2 (by omega) (.inr rfl)).mono ?_
          rintro e v3 ⟨rfl, R3, B3⟩
          have BW3 := BW.trans (B3.mono hb)
          clear BW B3 RR hck'
          go_wp2
          go_roundw
          case rel => exact ⟨k + 1, q, b, by omega, by omega, by go_num, rfl, rfl, R3, hb, BW3⟩
          case measure => simp [intOf]; omega
        · rw [hBk] at hck'
          have E2 : Hid (nextRound (m + q) true = m + (q + 1)) := by simp [Hid, nextRound]; omega
          have t6 : (m + ((q : Int) + 1) != m + ((q : Int) + 1)) = false := by simp
          clear hBk
          go_wp2_with fail
          refine (round_any b _ _ _ RR).mono ?_
          rintro e v3 ⟨rfl, rfl⟩
          go_wp2_with fail
          refine (newReplicaRound_any _ _ _).mono ?_
          rintro e v4 ⟨b4, rfl, R4, hb4, B4⟩
          have hz := BW.size
          have BW4 := BW.trans (B4.mono hz)
          clear B4 BW RR hck'
          go_wp2_with fail
          refine (zzNewRound_at b4 _ _ (m + (q + 1)) _ R4 E2 (by omega) (by left; omega)).mono ?_
          rintro e v5 ⟨rfl, R5, B5⟩
          have BW5 := BW4.trans (B5.mono (by omega))
          clear BW4 B5 R4
          go_wp2
          go_roundw
          case rel => exact ⟨k + 1, q + 1, b4, by omega, by omega, by go_num, by go_num, rfl, by simpa using R5, by omega, BW5⟩
          case measure => simp [intOf]; omega
      · go_wp2
        go_ret
        exact ⟨rfl, BW⟩
end Go.Proofs.Qxb6616937a
