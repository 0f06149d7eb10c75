/-
  THE WALK OF FnCborEntryReadsCanonicalEncoding.
-/
import Derived.Test.Qxb6616937aPlain
import Derived.Deep.DeepCutAuto
namespace Go.Proofs.Qxb6616937a
open Go.RowKit

set_option maxRecDepth 4000 in
set_option maxHeartbeats 1600000 in
/-- The early ways out. -/
theorem cbor_long (T I K f ot oi ok : Int) (a3 a5 a6 a10 : Option Addr) (l3 c3 l5 c5 l6 c6 l10 c10 : Nat) (w : World) (m3 : l3 ≤ 9223372036854775807) (m5 : l5 ≤ 9223372036854775807) (m6 : l6 ≤ 9223372036854775807) (m10 : l10 ≤ 9223372036854775807)
    (h : ¬ (l3 ≤ 262144 ∧ l5 ≤ 262144 ∧ l6 ≤ 262144 ∧ l10 ≤ 262144)) :
    Calls Try.prog 3 #[.int .u64 T, .int .u64 I, .int .u8 K, .slice a3 l3 c3, .int .u8 f, .slice a5 l5 c5, .slice a6 l6 c6, .int .u64 ot, .int .u64 oi, .int .u8 ok, .slice a10 l10 c10] w fun e w' => e = .returned (.bool true) ∧ Below w.heap.size w w' := by
  have HC := hide (zzBytes8_any T I K f ot oi ok a3 a5 a6 a10 l3 c3 l5 c5 l6 c6 l10 c10 w m3 m5 m6 m10)
  go_enter Try.func3, Try.ntmps3
  go_wp2_with fail
  refine HC.out.mono ?_
  rintro e w1 ⟨⟨b, rfl, _⟩, rfl⟩
  clear HC
  cases b
  · go_wp2
    go_ret
    exact ⟨rfl, Below.refl _ _⟩
  · by_cases h3 : l3 ≤ 262144
    · by_cases h5 : l5 ≤ 262144
      · by_cases h6 : l6 ≤ 262144
        · have h10 : 262144 < (l10 : Int) := by omega
          have h3' : ¬ 262144 < (l3 : Int) := by omega
          have h5' : ¬ 262144 < (l5 : Int) := by omega
          have h6' : ¬ 262144 < (l6 : Int) := by omega
          clear h h3 h5 h6
          go_wp2
          go_ret
          exact ⟨rfl, Below.refl _ _⟩
        · have h3' : ¬ 262144 < (l3 : Int) := by omega
          have h5' : ¬ 262144 < (l5 : Int) := by omega
          have h6' : 262144 < (l6 : Int) := by omega
          clear h h3 h5 h6
          go_wp2
          go_ret
          exact ⟨rfl, Below.refl _ _⟩
      · have h3' : ¬ 262144 < (l3 : Int) := by omega
        have h5' : 262144 < (l5 : Int) := by omega
        clear h h3 h5
        go_wp2
        go_ret
        exact ⟨rfl, Below.refl _ _⟩
    · have h3' : 262144 < (l3 : Int) := by omega
      clear h h3
      go_wp2
      go_ret
      exact ⟨rfl, Below.refl _ _⟩
end Go.Proofs.Qxb6616937a
