/-
  The thin functions of zzexport.go that the Cbor law calls, and the bound on its arguments' lengths.
-/
import Derived.Test.Qxb6616937aEntry
namespace Go.Proofs.Qxb6616937a
open Go.RowKit

theorem newReader_any (a : Option Addr) (len cap off : Nat) (w : World) :
    Calls Try.prog 12 #[.slice a len cap, .int .i64 off, .bool false] w fun e w' => e = .returned (.pointer (some ⟨w.heap.size, 0, none⟩)) ∧ IsReader w' w.heap.size (.slice a len cap) off ∧ w' = w.alloc (.cells #[.slice a len cap, .int .i64 off, .bool false] 61) := by
  go_enter Try.func12, Try.ntmps12
  go_wp2
  go_ret
  exact ⟨rfl, ⟨by simp, by simp, by simp, by simp⟩, rfl⟩

theorem newEntry_any (t i k : Int) (a : Option Addr) (len cap : Nat) (w : World) :
    Calls Try.prog 13 #[.int .u64 t, .int .u64 i, .int .u8 k, .slice a len cap] w fun e w' => e = .returned (.pointer (some ⟨w.heap.size, 0, none⟩)) ∧ IsEnt w' w.heap.size t i k (.slice a len cap) ∧ w' = w.alloc (.cells #[.int .u64 t, .int .u64 i, .int .u8 k, .slice a len cap] 38) := by
  go_enter Try.func13, Try.ntmps13
  go_wp2
  go_ret
  exact ⟨rfl, ⟨by simp, by simp, by simp, by simp, by simp, by simp, by simp, by simp⟩, rfl⟩

theorem readerOff_any (b : Nat) (v : Value) (off : Nat) (w : World) (h : IsReader w b v off) :
    Calls Try.prog 16 #[.pointer (some ⟨b, 0, none⟩)] w fun e w' => e = .returned (.int .i64 off) ∧ w = w' := by
  obtain ⟨c0, c1, c2, _⟩ := h
  go_enter Try.func16, Try.ntmps16
  go_wp2
  go_ret
  exact ⟨rfl, rfl⟩

theorem readerFailed_any (b : Nat) (v : Value) (off : Nat) (w : World) (h : IsReader w b v off) :
    Calls Try.prog 17 #[.pointer (some ⟨b, 0, none⟩)] w fun e w' => e = .returned (.bool false) ∧ w = w' := by
  obtain ⟨c0, c1, c2, _⟩ := h
  go_enter Try.func17, Try.ntmps17
  go_wp2
  go_ret
  exact ⟨rfl, rfl⟩

theorem readerEntry_any (b E : Nat) (Q : World → Prop) (w : World) (h : Calls Try.prog 30 #[.pointer (some ⟨b, 0, none⟩), .pointer (some ⟨E, 0, none⟩)] w fun e w' => e = .returned (.tuple #[]) ∧ Q w') :
    Calls Try.prog 14 #[.pointer (some ⟨b, 0, none⟩), .pointer (some ⟨E, 0, none⟩)] w fun e w' => e = .returned (.tuple #[]) ∧ Q w' := by
  have H := hide h
  clear h
  go_enter Try.func14, Try.ntmps14
  go_wp2_with fail
  refine H.out.mono ?_
  rintro e w1 ⟨rfl, hq⟩
  have HQ := hide hq
  clear hq
  go_wp2
  go_end0
  exact ⟨rfl, HQ.out⟩

/-- The bound: some answer; yes where all four lengths are at most 2^18. -/
theorem zzBytes8_any (t i k f ot oi ok : Int) (a1 a2 a3 a4 : Option Addr) (l1 c1 l2 c2 l3 c3 l4 c4 : Nat) (w : World) (h1 : l1 ≤ 9223372036854775807) (h2 : l2 ≤ 9223372036854775807) (h3 : l3 ≤ 9223372036854775807) (h4 : l4 ≤ 9223372036854775807) :
    Calls Try.prog 8 #[.int .u64 t, .int .u64 i, .int .u8 k, .slice a1 l1 c1, .int .u8 f, .slice a2 l2 c2, .slice a3 l3 c3, .int .u64 ot, .int .u64 oi, .int .u8 ok, .slice a4 l4 c4] w fun e w' => (∃ b, e = .returned (.bool b) ∧ (l1 ≤ 262144 → l2 ≤ 262144 → l3 ≤ 262144 → l4 ≤ 262144 → b = true)) ∧ w = w' := by
  go_enter Try.func8, Try.ntmps8
  go_wp2
  all_goals
    go_ret
    refine ⟨⟨_, rfl, ?_⟩, rfl⟩
    intros
    first | rfl | omega
end Go.Proofs.Qxb6616937a
