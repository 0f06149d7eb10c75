/-
  THE SLICE OF PEERS THAT CAME IN, OPENED.
-/
import Derived.Test.Qxb6616937aPeers
import Derived.ProofKit
import Derived.Deep.Grids
import Derived.Deep.SlicePairs
namespace Go.Proofs.Qxb6616937a
open Go.ChangeShapes Go.WideShapes Go.ChangeAt Go.RowKit Go.Deep

theorem peers_open {H : Type} {enc : TypeId × Value → H} {w : World} {base : Nat} {spare : Nat → Bool} {held : Bool} {fuel : Nat} {a : Option Addr} {len cap : Nat} {x : DataW H × List MemPlace}
    (h : DataW.trod enc Try.prog w base spare held fuel 47 [.slice a len cap] = some x) : len ≤ 9223372036854775807 ∧ ∃ S M, Peers w a len S M := by
  rcases open_slice_pairs Try.underlying47 Try.underlying50 (by kernel_rfl) rfl rfl (by kernel_rfl) (by kernel_rfl) h with ⟨hcs, _⟩ | ⟨b, l, c, m, n, V0, V1, D0, D1, P0, P1, hcs, _, hl, hm, hmm, _, hcell⟩
  · simp at hcs
    obtain ⟨rfl, rfl, rfl⟩ := hcs
    exact ⟨by omega, fun _ => ByteArray.empty, fun _ => 0, fun k hk => absurd hk (Nat.not_lt_zero _), fun k hk => absurd hk (Nat.not_lt_zero _), fun k hk => absurd hk (Nat.not_lt_zero _)⟩
  · simp at hcs
    obtain ⟨rfl, rfl, rfl⟩ := hcs
    have hlm : len ≤ m := by rw [hmm]; split <;> omega
    unfold maxLen at hm
    have hs : ∀ i, i < len → ∃ s : ByteArray, V0 i = .string s ∧ s.size ≤ 9223372036854775807 := fun i hi => by
      obtain ⟨s, e, _, hs⟩ := DataW.trod_string Try.underlying9 (hcell i (by omega)).2.2.1
      simp at e
      unfold maxLen at hs
      exact ⟨s, e, hs⟩
    have hi : ∀ i, i < len → ∃ z : Int, V1 i = .int .u64 z ∧ 0 ≤ z ∧ z < 18446744073709551616 := fun i hi => by
      obtain ⟨z, e, _, hw⟩ := DataW.trod_int Try.underlying22 (hcell i (by omega)).2.2.2
      simp at e
      simp [Lit.wf, IntKind.min, IntKind.max, IntKind.signed, IntKind.bits] at hw
      exact ⟨z, e, by omega, by omega⟩
    obtain ⟨S, hS⟩ := choose_lt (α := ByteArray) hs
    obtain ⟨M, hM⟩ := choose_lt (α := Int) hi
    refine ⟨by omega, S, M, fun k hk => ?_, fun k hk => (hS k hk).2, fun k hk => (hM k hk).2⟩
    obtain ⟨c0, c1, _⟩ := hcell k (by omega)
    rw [(hS k hk).1] at c0
    rw [(hM k hk).1] at c1
    obtain ⟨g, off, spot⟩ := b
    have hspot : spot = none := by simpa [Addr.add] using World.cell?_spot (hcell 0 (by omega)).1
    subst hspot
    rw [add_plain] at c0 c1
    exact ⟨g, off, rfl, c0, by rw [Nat.add_assoc]; exact c1⟩
end Go.Proofs.Qxb6616937a
