/-
  THE PEERS THAT CAME IN: a slice of structs of a string and a uint64; the bound on their lengths.
-/
import Derived.Test.Qxb6616937aProg
import Derived.WalkKit
import Derived.WalkSpells
import Derived.WalkLawsBesides
import Derived.Deep.QuietTactic
import Derived.BigQuiet
namespace Go.Proofs.Qxb6616937a
open Go.RowKit

theorem hide {p : Prop} (h : p) : Hid p := h

structure Peers (w : World) (a : Option Addr) (n : Nat) (S : Nat → ByteArray) (M : Nat → Int) : Prop where
  cell : ∀ k, k < n → ∃ b off, a = some ⟨b, off, none⟩ ∧ w.cell? ⟨b, off + k * 2, none⟩ = some (.string (S k)) ∧ w.cell? ⟨b, off + k * 2 + 1, none⟩ = some (.int .u64 (M k))
  str : ∀ k, k < n → (S k).size ≤ 9223372036854775807
  num : ∀ k, k < n → 0 ≤ M k ∧ M k < 18446744073709551616

theorem Peers.later {w w' : World} {a : Option Addr} {n : Nat} {S : Nat → ByteArray} {M : Nat → Int} (h : Peers w a n S M) (hb : Below w.heap.size w w') : Peers w' a n S M :=
  ⟨fun k hk => by
    obtain ⟨b, off, rfl, h1, h2⟩ := h.cell k hk
    exact ⟨b, off, rfl, (hb.cell (p := ⟨b, off + k * 2, none⟩) (block_lt_of_cell h1)).trans h1, (hb.cell (p := ⟨b, off + k * 2 + 1, none⟩) (block_lt_of_cell h2)).trans h2⟩, h.str, h.num⟩

/-- Some answer; if true, all lengths are small. -/
def BytesOk (n : Nat) (S : Nat → ByteArray) (e : Ending) : Prop := ∃ bb, e = .returned (.bool bb) ∧ (bb = true → n ≤ 1048576 ∧ ∀ k, k < n → (S k).size ≤ 1048576)
theorem BytesOk.no (n : Nat) (S : Nat → ByteArray) : BytesOk n S (.returned (.bool false)) := ⟨false, rfl, fun h => by cases h⟩

set_option maxHeartbeats 400000 in
theorem zzBytes24_any (a : Option Addr) (n cap : Nat) (S : Nat → ByteArray) (M : Nat → Int) (w : World) (h : Peers w a n S M) (hn : n ≤ 9223372036854775807) :
    Calls Try.prog 24 #[.slice a n cap] w fun e w' => BytesOk n S e ∧ w = w' := by
  by_cases hl : n ≤ 1048576
  · have t1 : ¬ 1048576 < (n : Int) := by omega
    go_enter Try.func24, Try.ntmps24
    go_wp2
    go_loop [2, 3, 4] (fun r z i => ∃ (k t : Nat), k ≤ n ∧ t ≤ 1048576 ∧ r = .bool false ∧ z = .int .i64 t ∧ i = .int .i64 k ∧ Hid (∀ j, j < k → (S j).size ≤ 1048576)) (fun _ _ i => n - (intOf i).toNat)
    case atStart => exact ⟨0, n, Nat.zero_le _, hl, rfl, rfl, rfl, hide (fun j hj => absurd hj (Nat.not_lt_zero _))⟩
    case round =>
      obtain ⟨k, t, hk, ht, rfl, rfl, rfl, hS⟩ := hrel
      by_cases hlt : k < n
      · obtain ⟨b, off, rfl, h1, h2⟩ := h.cell k hlt
        have hs := h.str k hlt
        obtain ⟨s, hs0⟩ : ∃ s, Hid (s = S k) := ⟨_, hide rfl⟩
        rw [← hs0.out] at h1 hs
        clear h2 h
        by_cases hb : s.size ≤ 1048576
        · by_cases hb2 : t + s.size ≤ 1048576
          · go_wp2
            go_round
            case rel => exact ⟨k + 1, t + s.size, by omega, hb2, rfl, by go_num, by go_num, hide (fun j hj => by
                by_cases e : j = k
                · subst e; rw [← hs0.out]; exact hb
                · exact hS.out j (by omega))⟩
            case measure => simp [intOf]; omega
          · go_wp2
            go_ret
            exact ⟨BytesOk.no _ _, rfl⟩
        · go_wp2
          go_ret
          exact ⟨BytesOk.no _ _, rfl⟩
      · go_wp2
        go_ret
        exact ⟨⟨true, rfl, fun _ => ⟨hl, fun j hj => hS.out j (by omega)⟩⟩, rfl⟩
  · have t1 : 1048576 < (n : Int) := by omega
    go_enter Try.func24, Try.ntmps24
    go_wp2
    go_ret
    exact ⟨BytesOk.no _ _, rfl⟩

set_option maxHeartbeats 400000 in
theorem zzBytes28_any (a : Option Addr) (n cap : Nat) (q : Int) (S : Nat → ByteArray) (M : Nat → Int) (w : World) (h : Peers w a n S M) (hn : n ≤ 9223372036854775807) :
    Calls Try.prog 28 #[.slice a n cap, .int .i64 q] w fun e w' => BytesOk n S e ∧ w = w' := by
  by_cases hl : n ≤ 1048576
  · have t1 : ¬ 1048576 < (n : Int) := by omega
    go_enter Try.func28, Try.ntmps28
    go_wp2
    go_loop [4, 5, 6] (fun r z i => ∃ (k t : Nat), k ≤ n ∧ t ≤ 1048576 ∧ r = .bool false ∧ z = .int .i64 t ∧ i = .int .i64 k ∧ Hid (∀ j, j < k → (S j).size ≤ 1048576)) (fun _ _ i => n - (intOf i).toNat)
    case atStart => exact ⟨0, n, Nat.zero_le _, hl, rfl, rfl, rfl, hide (fun j hj => absurd hj (Nat.not_lt_zero _))⟩
    case round =>
      obtain ⟨k, t, hk, ht, rfl, rfl, rfl, hS⟩ := hrel
      by_cases hlt : k < n
      · obtain ⟨b, off, rfl, h1, h2⟩ := h.cell k hlt
        have hs := h.str k hlt
        obtain ⟨s, hs0⟩ : ∃ s, Hid (s = S k) := ⟨_, hide rfl⟩
        rw [← hs0.out] at h1 hs
        clear h2 h
        by_cases hb : s.size ≤ 1048576
        · by_cases hb2 : t + s.size ≤ 1048576
          · go_wp2
            go_round
            case rel => exact ⟨k + 1, t + s.size, by omega, hb2, rfl, by go_num, by go_num, hide (fun j hj => by
                by_cases e : j = k
                · subst e; rw [← hs0.out]; exact hb
                · exact hS.out j (by omega))⟩
            case measure => simp [intOf]; omega
          · go_wp2
            go_ret
            exact ⟨BytesOk.no _ _, rfl⟩
        · go_wp2
          go_ret
          exact ⟨BytesOk.no _ _, rfl⟩
      · go_wp2
        go_ret
        exact ⟨⟨true, rfl, fun _ => ⟨hl, fun j hj => hS.out j (by omega)⟩⟩, rfl⟩
  · have t1 : 1048576 < (n : Int) := by omega
    go_enter Try.func28, Try.ntmps28
    go_wp2
    go_ret
    exact ⟨BytesOk.no _ _, rfl⟩
end Go.Proofs.Qxb6616937a
