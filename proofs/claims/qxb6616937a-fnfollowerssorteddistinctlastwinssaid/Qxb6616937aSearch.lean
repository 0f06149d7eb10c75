/-
  zzSearch: the halving finds the one index at which a rising row holds x; the last index of an id.
-/
import Derived.Test.Qxb6616937aFill
namespace Go.Proofs.Qxb6616937a
open Go.RowKit

theorem half_eq (lo hi : Nat) (h : lo ≤ hi) : ((hi : Int) - (lo : Int)).tdiv 2 = (((hi - lo) / 2 : Nat) : Int) := by
  rw [Int.tdiv_eq_ediv_of_nonneg (by omega)]
  omega

set_option maxHeartbeats 1000000 in
theorem search_any (a : Option Addr) (N cap j0 : Nat) (T : Nat → ByteArray) (x : ByteArray) (w : World) (hr : Row w a N (fun j => .string (T j))) (hN : N ≤ 1048576)
    (hrise : ∀ i j, i < j → j < N → (T i).data.toList < (T j).data.toList) (hj : j0 < N) (hx : T j0 = x) :
    Calls Try.prog 27 #[.slice a N cap, .string x] w fun e w' => e = .returned (.int .i64 (j0 : Int)) ∧ w = w' := by
  replace hr := hide hr
  replace hrise := hide hrise
  replace hx := hide hx
  go_enter Try.func27, Try.ntmps27
  go_wp2_with fail
  go_loop [5, 6] (fun u v => ∃ lo hi : Nat, lo ≤ j0 ∧ j0 ≤ hi ∧ hi ≤ N ∧ u = .int .i64 lo ∧ v = .int .i64 hi) (fun u v => (intOf v).toNat - (intOf u).toNat)
  case atStart => exact ⟨0, N, Nat.zero_le _, by omega, Nat.le_refl _, rfl, rfl⟩
  case round =>
    obtain ⟨lo, hi, h1, h2, h3, rfl, rfl⟩ := hrel
    by_cases hlt : lo < hi
    · obtain ⟨md, hmd⟩ : ∃ md : Nat, Hid (md = lo + (hi - lo) / 2) := ⟨_, hide rfl⟩
      have hm1 : lo ≤ md := by have := hmd.out; omega
      have hm2 : md < hi := by have := hmd.out; omega
      have hd : ((hi : Int) - (lo : Int)).tdiv 2 = (md : Int) - (lo : Int) := by rw [half_eq lo hi (by omega)]; have := hmd.out; omega
      obtain ⟨g, rfl, hc⟩ := hr.out md (by omega)
      have hless := less_iff (T md) x
      obtain ⟨y, hy⟩ : ∃ y, Hid (y = T md) := ⟨_, hide rfl⟩
      simp only [← hy.out] at hc hless
      by_cases hl : y.data.toList < x.data.toList
      · rw [decide_eq_true hl] at hless
        have hgo : md < j0 := by
          rcases Nat.lt_trichotomy md j0 with h | h | h
          · exact h
          · subst h; rw [hy.out, hx.out] at hl; exact absurd hl (List.lt_irrefl _)
          · have := hrise.out j0 md h (by omega)
            rw [hx.out, ← hy.out] at this
            exact absurd (List.lt_trans hl this) (List.lt_irrefl _)
        clear hl
        go_wp2
        go_round
        case rel => exact ⟨md + 1, hi, hgo, h2, h3, by go_num, rfl⟩
        case measure => simp [intOf]; omega
      · rw [decide_eq_false hl] at hless
        have hgo : j0 ≤ md := by
          rcases Nat.lt_or_ge md j0 with h | h
          · have := hrise.out md j0 h hj
            rw [hx.out, ← hy.out] at this
            exact absurd this hl
          · exact h
        clear hl
        go_wp2
        go_round
        case rel => exact ⟨lo, md, h1, hgo, by omega, rfl, by go_num⟩
        case measure => simp [intOf]; omega
    · obtain rfl : lo = j0 := by omega
      obtain ⟨g, rfl, hc⟩ := hr.out lo hj
      simp only [hx.out] at hc
      have t1 : (lo : Int) < (N : Int) := by omega
      go_wp2
      go_ret
      exact ⟨rfl, rfl⟩

/-- The last of the first n peers with this id. -/
def lastIx (S : Nat → ByteArray) (s : ByteArray) : Nat → Option Nat
  | 0 => none
  | n + 1 => if S n = s then some n else lastIx S s n

theorem lastIx_of {S : Nat → ByteArray} {M : Nat → Int} {s : ByteArray} : ∀ {n : Nat} {m : Int}, lastOf S M n s.data.toList = some m → ∃ i, lastIx S s n = some i ∧ i < n ∧ M i = m
  | n + 1, m, h => by
    unfold lastOf at h
    unfold lastIx
    by_cases e : S n = s
    · rw [if_pos e]
      rw [if_pos (by rw [e])] at h
      exact ⟨n, rfl, by omega, by simpa using h⟩
    · rw [if_neg e]
      rw [if_neg (fun e' => e (ByteArray.ext (Array.ext' e')))] at h
      obtain ⟨i, h1, h2, h3⟩ := lastIx_of h
      exact ⟨i, h1, by omega, h3⟩

def hitAt (S T : Nat → ByteArray) (i j : Nat) : Value := .bool (lastIx S (T j) i).isSome
def ixAt (S T : Nat → ByteArray) (i j : Nat) : Value := .int .i64 (((lastIx S (T j) i).getD 0 : Nat) : Int)

theorem mark_step {W : World} {g1 g2 N n i j0 : Nat} {S T : Nat → ByteArray} {M V : Nat → Int} (hP : Plain N n S M T V) (hj : j0 < N) (hx : T j0 = S i) (hne : g1 ≠ g2) (h1 : Fill W g1 N (hitAt S T i)) (h2 : Fill W g2 N (ixAt S T i)) :
    Fill ((W.setCell ⟨g1, j0, none⟩ (.bool true)).setCell ⟨g2, j0, none⟩ (.int .i64 (i : Int))) g1 N (hitAt S T (i + 1)) ∧ Fill ((W.setCell ⟨g1, j0, none⟩ (.bool true)).setCell ⟨g2, j0, none⟩ (.int .i64 (i : Int))) g2 N (ixAt S T (i + 1)) := by
  have other : ∀ j, j < N → j ≠ j0 → lastIx S (T j) (i + 1) = lastIx S (T j) i := fun j hjN hn => by
    rw [lastIx, if_neg]
    intro e
    rw [← hx] at e
    rcases Nat.lt_or_gt_of_ne hn with h | h
    · have := hP.rise j j0 h hj
      rw [e] at this
      exact List.lt_irrefl _ this
    · have := hP.rise j0 j h hjN
      rw [e] at this
      exact List.lt_irrefl _ this
  exact ⟨(h1.set j0 hj _ (hitAt S T (i + 1)) (by simp [hitAt, lastIx, hx]) (fun j hjN hn => by unfold hitAt; rw [other j hjN hn])).far _ _ (Ne.symm hne),
   (h2.far _ _ hne).set j0 hj _ (ixAt S T (i + 1)) (by simp [ixAt, lastIx, hx]) (fun j hjN hn => by unfold ixAt; rw [other j hjN hn])⟩
end Go.Proofs.Qxb6616937a
