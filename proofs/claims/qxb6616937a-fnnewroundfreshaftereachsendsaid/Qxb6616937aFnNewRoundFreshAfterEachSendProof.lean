/-
  A PROOF OF 'Rows.FnNewRoundFreshAfterEachSendSaid' ('example.com/quorumshift/quorumshift/zzlaws_root_b1.FnNewRoundFreshAfterEachSend'): the frame after the shells of the other laws, the slice of bools opened by 'open_bools'.
-/
import Derived.Test.Qxb6616937aRows
import Derived.WalkKit
import Derived.ProofKit
import Derived.OpenShut
import Derived.ShutString
import Derived.ChangeOld
import Derived.Below
import Derived.Deep.Grids
import Derived.Test.Qxb6616937aFresh
namespace Go.Proofs.Qxb6616937a.fnNewRoundFreshAfterEachSend
open Go.ChangeShapes Go.WideShapes Go.ChangeAt Go.RowKit Go.Deep
set_option linter.unusedVariables false

theorem own : ownKnob Try.prog.godebug = none := by kernel_rfl
theorem laidOut : laidOutB Try.prog = true := by kernel_rfl

/-- What 'open_int' hands over of a uint64, as bounds. -/
theorem wf_u64 {x : Int} (h : (Lit.int .u64 x).wf = true) : 0 ≤ x ∧ x < 18446744073709551616 := by
  simp [Lit.wf, IntKind.min, IntKind.max, IntKind.signed, IntKind.bits] at h
  exact ⟨by omega, by omega⟩

/-- WHAT THE WALK IS TOLD OF A SLICE OF BOOLS THAT CAME IN. -/
def IsBools (w : World) (a : Option Addr) (len : Nat) (B : Nat → Bool) : Prop :=
  len ≤ 9223372036854775807 ∧ ∀ k, k < len → ∃ b off, a = some ⟨b, off, none⟩ ∧ b < w.heap.size ∧ w.cell? ⟨b, off + k, none⟩ = some (.bool (B k))

theorem walk (a0 : Int) (a1 : Bool) (a2 : Option Addr) (len2 cap2 : Nat) (B : Nat → Bool) (w : World) (w0 : (Lit.int .u64 a0).wf = true) (w2 : IsBools w a2 len2 B) :
    Calls Try.prog 5 #[.int .u64 a0, .bool a1, .slice a2 len2 cap2] w fun e w' => e = .returned (.bool true) ∧ Below w.heap.size w w' := by
  obtain ⟨l0, u0⟩ := wf_u64 w0
  obtain ⟨hl, hc⟩ := w2
  by_cases h1 : len2 ≤ 65536
  · by_cases h2 : a0 ≤ 18446744073709551614 - (len2 : Int)
    · refine fresh_main a0 (nextRound a0 a1) a1 a2 len2 cap2 B h1 l0 h2 w rfl ?_ ?_ ?_ ?_ hc
      · unfold nextRound; split <;> omega
      · unfold nextRound; split <;> omega
      · unfold nextRound; split <;> omega
      · intro h; subst h; simp [nextRound]
    · exact fresh_high a0 a1 a2 len2 cap2 h1 l0 (by omega) w
  · exact fresh_long a0 a1 a2 len2 cap2 hl (by omega) w

set_option maxRecDepth 100000 in
theorem lifted (os : Os) (started : os.Started) (H : Type) (enc : TypeId × Value → H) :
    ReturnsInHanded {} Try.checked os 5 .any (Rows.fnNewRoundFreshAfterEachSendSpec.pre6 enc Try.prog Try.f5 Rows.fnNewRoundFreshAfterEachSendRow.domain false) (Rows.fnNewRoundFreshAfterEachSendSpec.post enc Try.prog Try.f5 false true false false) := by
  refine returnsInHanded_of_change (C := Try.checked) own started (by kernel_rfl) Try.func5
    (ChangeSpec.witness6 (enc := enc) (C := Try.checked) false ⟨#[], #[.int .u64 0, .bool false, .slice none 0 0], []⟩ 8 (by kernel_rfl) (by kernel_rfl) (by kernel_rfl) (by kernel_rfl)) ?_
  intro W base args ds gs before hval0 hW hcnd _
  have hval : ∀ (j : Nat) t v, Try.f5.params[j]? = some t → args[j]? = some v → Value.okWide Try.prog W .any base t v := hval0
  have hW' := hW
  obtain ⟨p, q, hA0, hV, rfl, hfz, hnd⟩ := hW
  have hA : DataW.TrodAll enc Try.prog W 0 (fun _ => true) true Try.f5.params.toList args.toList ds p := hA0
  rw [Try.params5] at hA hval
  obtain ⟨v0, vs0, d0, ds0, p0, q0, hargs, rfl, rfl, h0, r0⟩ := trodAll_cons hA
  obtain ⟨v1, vs1, d1, ds1, p1, q1, rfl, rfl, rfl, h1, r1⟩ := trodAll_cons r0
  obtain ⟨v2, vs2, d2, ds2, p2, q2, rfl, rfl, rfl, h2, r2⟩ := trodAll_cons r1
  obtain ⟨rfl, rfl, rfl⟩ := trodAll_nil r2
  obtain rfl : args = #[v0, v1, v2] := by cases args; simp_all
  obtain ⟨rfl, rfl⟩ := trodVars_none hV
  obtain ⟨a0, rfl, rfl, rfl, w0⟩ := open_int Try.underlying22 (hval 0 22 v0 rfl rfl) h0
  obtain ⟨a1, rfl, rfl, rfl⟩ := open_bool Try.underlying4 (hval 1 4 v1 rfl rfl) h1
  obtain ⟨a2, len2, cap2, rfl⟩ := okWide_slice Try.underlying45 (hval 2 45 v2 rfl rfl)
  have k2 := h2
  have lt2 : ∀ x ∈ p2, x.block < W.heap.size := by obtain ⟨m, hm⟩ := k2; exact DataW.trod_lt m _ _ _ hm
  obtain ⟨B, w2⟩ : ∃ B, IsBools W a2 len2 B := by
    obtain ⟨fuel, hf⟩ := h2
    rcases open_bools Try.underlying45 Try.underlying4 (by kernel_rfl) hf with ⟨hcs, _⟩ | ⟨x, l, c, B, hcs, _, hl, hm, _, hcell⟩
    · simp [Value.cells] at hcs
      obtain ⟨rfl, rfl, rfl⟩ := hcs
      exact ⟨fun _ => false, by omega, fun k hk => absurd hk (by omega)⟩
    · simp [Value.cells] at hcs
      obtain ⟨rfl, rfl, rfl⟩ := hcs
      unfold maxLen at hm
      refine ⟨B, by omega, fun k hk => ?_⟩
      have hx := hcell k (by omega)
      obtain ⟨b, off, spot⟩ := x
      have hspot : spot = none := by simpa [Addr.add] using World.cell?_spot (hcell 0 (by omega))
      subst hspot
      rw [add_plain] at hx
      exact ⟨b, off, rfl, block_lt_of_cell hx, hx⟩
  clear hA0 hval0
  refine (walk a0 a1 a2 len2 cap2 B W w0 w2).mono fun e W' ⟨he, bel⟩ => ?_
  subst he
  exact ⟨_, rfl, _, _, _, [], _, [], hW', trodAll_mk1 (shut_bool Try.underlying4 _), (trodAll_cons_mk (shut_int Try.underlying22 w0) (trodAll_cons_mk (shut_bool Try.underlying4 _) (trodAll_cons_mk (Below.trod laidOut (by kernel_rfl) (of_decide_eq_true (by kernel_rfl)) k2 bel lt2) trodAll_mk0))), rfl, bel.frame _, fun h => by cases h⟩

theorem over : Rows.fnNewRoundFreshAfterEachSendRow.holds Try.pinned (OpenSpec.ofChange Rows.fnNewRoundFreshAfterEachSendSpec) :=
  OpenClaim.holds_of_wide 5 Try.f5 rfl rfl rfl rfl rfl rfl rfl ⟨rfl, rfl, rfl, rfl, rfl⟩ rfl rfl rfl rfl rfl (by kernel_rfl) Try.func5 (by kernel_rfl)
    (of_decide_eq_true (by kernel_rfl)) (by unfold Func.isWrapper; first | (rw [if_pos (by decide +kernel)]; kernel_rfl) | (rw [if_neg (by decide +kernel)]; exact ⟨rfl, rfl⟩))
    (fun os started H enc _ => lifted os started H enc)

/-- ████ THE STATEMENT ████ -/
theorem proved : Rows.FnNewRoundFreshAfterEachSendSaid := over
#print axioms proved
end Go.Proofs.Qxb6616937a.fnNewRoundFreshAfterEachSend
