/-
  THE CONTRACTS OF THE METER's THREE FUNCTIONS: ZZnewMeter lays one new block; ZZover and over only read. The worlds behind the calls are letters: 'Grown' and the two cells of the new block are all that is said of them.
-/
import Derived.Test.Qxb6616858aProg
import Derived.WalkKit
import Derived.Deep.QuietTactic
import Derived.BigQuiet
namespace Go.Proofs.Qxb6616858a
open Go.RowKit

theorem grown_trans {a b c : World} (h : Grown a b) (k : Grown b c) : Grown a c :=
  ⟨World.keptBut_trans h.1 (World.keptBut_mono (fun _ f => f.elim) k.1), fun x => (k.2.1 x).trans (h.2.1 x), Nat.le_trans h.2.2 k.2.2⟩

theorem grown_drewN (w : World) (n : Nat) : Grown w (w.drewN n) :=
  (Grown.refl w : Grown w w)

theorem over_any (b off : Nat) (u g : Int) (w : World) (hu : w.cell? ⟨b, off, none⟩ = some (.int .u64 u)) (hg : w.cell? ⟨b, off + 1, none⟩ = some (.int .u64 g)) :
    Calls Try.prog 7 #[.pointer (some ⟨b, off, none⟩)] w fun e w' => e = .returned (.bool (decide (g < u))) ∧ Grown w w' := by
  go_enter Try.func7, Try.ntmps7
  go_wp2
  go_quiet (fail)
  go_wp2
  go_ret
  exact ⟨rfl, grown_drewN _ _⟩

theorem zzover_any (b : Nat) (u g : Int) (w : World) (hu : w.cell? ⟨b, 0, none⟩ = some (.int .u64 u)) (hg : w.cell? ⟨b, 1, none⟩ = some (.int .u64 g)) :
    Calls Try.prog 5 #[.pointer (some ⟨b, 0, none⟩)] w fun e w' => e = .returned (.bool (decide (g < u))) ∧ Grown w w' := by
  go_enter Try.func5, Try.ntmps5
  go_wp2_with (go_at_call 7; refine (over_any b 0 u g _ hu hg).mono ?_; rintro e w' ⟨rfl, hw'⟩)
  go_ret
  exact ⟨rfl, hw'⟩

theorem newMeter_any (u g : Int) (w : World) :
    Calls Try.prog 6 #[.int .u64 u, .int .u64 g] w fun e w' => ∃ b, e = .returned (.pointer (some ⟨b, 0, none⟩)) ∧ w'.cell? ⟨b, 0, none⟩ = some (.int .u64 u) ∧ w'.cell? ⟨b, 1, none⟩ = some (.int .u64 g) ∧ Grown w w' := by
  go_enter Try.func6, Try.ntmps6
  go_wp2
  go_ret
  exact ⟨_, rfl, by simp, by simp, (Grown.refl _).alloc _ _⟩
end Go.Proofs.Qxb6616858a
