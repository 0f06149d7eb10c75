/-
  THE SHELL OF A PROOF OF 'Rows.FnNewRoundStaysUntilSentSaid' ('example.com/quorumshift/quorumshift/zzlaws_root_b1.FnNewRoundStaysUntilSent'), WRITTEN BY PROGRAM (proof-skeleton.mjs) off the guide's own print for that function. Not trusted: Lean checks it.
  The hole is filled: the walk goes over the contracts of Qxb6616937aRound. It ends in 'Below' (a new block is written), so the post is given limb by limb.
-/
import Derived.Test.Qxb6616937aRows
import Derived.WalkKit
import Derived.ProofKit
import Derived.OpenShut
import Derived.ShutString
import Derived.Below
import Derived.ChangeOld
import Derived.Test.Qxb6616937aRound
namespace Go.Proofs.Qxb6616937a.fnNewRoundStaysUntilSent
open Go.ChangeShapes Go.WideShapes Go.ChangeAt Go.RowKit
open Go.ChangeMaps (open_string shut_string)
set_option linter.unusedVariables false      -- a walk need not use every 'w<i>' (that an integer argument fits its kind)

theorem own : ownKnob Try.prog.godebug = none := by kernel_rfl

/-! ### STEP 1: THE WALK: the Go text returns true. 'Grown w w'': the world has at most new blocks (Derived/RowKit3.lean). Part the cases AHEAD of 'go_enter' where a test parts the walk; take each callee by a contract of your own. -/
/-- What 'open_int' hands over of a uint64, as bounds. -/
theorem wf_u64 {x : Int} (h : (Lit.int .u64 x).wf = true) : 0 ≤ x ∧ x < 18446744073709551616 := by
  simp [Lit.wf, IntKind.min, IntKind.max, IntKind.signed, IntKind.bits] at h
  exact ⟨by omega, by omega⟩

theorem next_again (m : Int) (h : 0 < m) : nextRound m false = m := by
  unfold nextRound; rw [if_neg (by simp; omega)]

/-- ZZreplicaNewRound, its answer given as a number of the caller's own spelling. -/
theorem zzNewRound_at (b : Nat) (n : Int) (s : Bool) (m : Int) (w : World) (h : IsRep w b n s) (he : Hid (nextRound n s = m)) (hn : 0 ≤ n) (hm : n < 18446744073709551615 ∨ s = false) :
    Calls Try.prog 20 #[.pointer (some ⟨b, 0, none⟩)] w fun e w' => e = .returned (.int .u64 m) ∧ IsRep w' b m false ∧ Below b w w' := by
  have h' := zzNewRound_any b n s w h hn hm
  rw [he.out] at h'
  exact h'

theorem walk (a0 : Int) (a1 : Bool) (w0 : (Lit.int .u64 a0).wf = true) (w : World) :
    Calls Try.prog 4 #[.int .u64 a0, .bool a1] w fun e w' => e = .returned (.bool true) ∧ Below w.heap.size w w' := by
  obtain ⟨l0, u0⟩ := wf_u64 w0
  clear w0
  cases a1
  · by_cases hz : a0 = 0
    · subst hz
      have E1 : Hid (nextRound 0 false = 0 + 1) := by simp [Hid, nextRound]
      have E2 : Hid (nextRound (0 + 1) false = 0 + 1) := next_again _ (by omega)
      go_enter Try.func4, Try.ntmps4
      go_wp2_with fail
      refine (newReplicaRound_any _ _ _).mono ?_
      rintro e v1 ⟨b, rfl, R1, hb1, B1⟩
      go_wp2_with fail
      refine (zzNewRound_at b _ _ 1 _ R1 E1 (by omega) (by first | (left; omega) | (right; rfl))).mono ?_
      rintro e v2 ⟨rfl, R2, B2⟩
      go_wp2_with fail
      refine (zzNewRound_at b _ _ 1 _ R2 E2 (by omega) (by right; rfl)).mono ?_
      rintro e v3 ⟨rfl, R3, B3⟩
      go_wp2_with fail
      refine (round_any b _ _ _ R3).mono ?_
      rintro e v4 ⟨rfl, rfl⟩
      go_wp2_with fail
      refine (roundSent_any b _ _ _ R3).mono ?_
      rintro e v5 ⟨rfl, rfl⟩
      go_wp2
      go_ret
      exact ⟨rfl, (B1.trans (B2.mono hb1)).trans (B3.mono hb1)⟩
    · have E1 : Hid (nextRound a0 false = a0) := next_again _ (by omega)
      have E2 : Hid (nextRound a0 false = a0) := E1
      have t1 : (a0 == 0) = false := beq_eq_false_iff_ne.2 hz
      go_enter Try.func4, Try.ntmps4
      go_wp2_with fail
      refine (newReplicaRound_any _ _ _).mono ?_
      rintro e v1 ⟨b, rfl, R1, hb1, B1⟩
      go_wp2_with fail
      refine (zzNewRound_at b _ _ a0 _ R1 E1 (by omega) (by first | (left; omega) | (right; rfl))).mono ?_
      rintro e v2 ⟨rfl, R2, B2⟩
      go_wp2_with fail
      refine (zzNewRound_at b _ _ a0 _ R2 E2 (by omega) (by right; rfl)).mono ?_
      rintro e v3 ⟨rfl, R3, B3⟩
      go_wp2_with fail
      refine (round_any b _ _ _ R3).mono ?_
      rintro e v4 ⟨rfl, rfl⟩
      go_wp2_with fail
      refine (roundSent_any b _ _ _ R3).mono ?_
      rintro e v5 ⟨rfl, rfl⟩
      go_wp2
      go_ret
      exact ⟨rfl, (B1.trans (B2.mono hb1)).trans (B3.mono hb1)⟩
  · by_cases hm : a0 = 18446744073709551615
    · subst hm
      go_enter Try.func4, Try.ntmps4
      go_wp2
      go_ret
      exact ⟨rfl, Below.refl _ _⟩
    · have hlt : a0 < 18446744073709551615 := by omega
      have E1 : Hid (nextRound a0 true = a0 + 1) := by simp [Hid, nextRound]
      have E2 : Hid (nextRound (a0 + 1) false = a0 + 1) := next_again _ (by omega)
      have t1 : (a0 == 18446744073709551615) = false := beq_eq_false_iff_ne.2 hm
      clear hm
      go_enter Try.func4, Try.ntmps4
      go_wp2_with fail
      refine (newReplicaRound_any _ _ _).mono ?_
      rintro e v1 ⟨b, rfl, R1, hb1, B1⟩
      go_wp2_with fail
      refine (zzNewRound_at b _ _ (a0 + 1) _ R1 E1 (by omega) (by first | (left; omega) | (right; rfl))).mono ?_
      rintro e v2 ⟨rfl, R2, B2⟩
      go_wp2_with fail
      refine (zzNewRound_at b _ _ (a0 + 1) _ R2 E2 (by omega) (by right; rfl)).mono ?_
      rintro e v3 ⟨rfl, R3, B3⟩
      go_wp2_with fail
      refine (round_any b _ _ _ R3).mono ?_
      rintro e v4 ⟨rfl, rfl⟩
      go_wp2_with fail
      refine (roundSent_any b _ _ _ R3).mono ?_
      rintro e v5 ⟨rfl, rfl⟩
      go_wp2
      go_ret
      exact ⟨rfl, (B1.trans (B2.mono hb1)).trans (B3.mono hb1)⟩

/-! ### THE ROW's STEP: WRITTEN OUT: LEAVE IT -/
set_option maxRecDepth 100000 in
theorem lifted (os : Os) (started : os.Started) (H : Type) (enc : TypeId × Value → H) :
    ReturnsInHanded {} Try.checked os 4 .any (Rows.fnNewRoundStaysUntilSentSpec.pre6 enc Try.prog Try.f4 Rows.fnNewRoundStaysUntilSentRow.domain false) (Rows.fnNewRoundStaysUntilSentSpec.post enc Try.prog Try.f4 false true false false) := by
  refine returnsInHanded_of_change (C := Try.checked) own started (by kernel_rfl) Try.func4
    (ChangeSpec.witness6 (enc := enc) (C := Try.checked) false ⟨#[], #[.int .u64 0, .bool false], []⟩ 8 (by kernel_rfl) (by kernel_rfl) (by kernel_rfl) (by kernel_rfl)) ?_
  intro W base args ds gs before hval0 hW hcnd _
  have hval : ∀ (j : Nat) t v, Try.f4.params[j]? = some t → args[j]? = some v → Value.okWide Try.prog W .any base t v := hval0
  have hW' := hW
  obtain ⟨p, q, hA0, hV, rfl, hfz, hnd⟩ := hW
  have hA : DataW.TrodAll enc Try.prog W 0 (fun _ => true) true Try.f4.params.toList args.toList ds p := hA0
  rw [Try.params4] at hA hval
  obtain ⟨v0, vs0, d0, ds0, p0, q0, hargs, rfl, rfl, h0, r0⟩ := trodAll_cons hA
  obtain ⟨v1, vs1, d1, ds1, p1, q1, rfl, rfl, rfl, h1, r1⟩ := trodAll_cons r0
  obtain ⟨rfl, rfl, rfl⟩ := trodAll_nil r1
  obtain rfl : args = #[v0, v1] := by cases args; simp_all
  obtain ⟨rfl, rfl⟩ := trodVars_none hV
  obtain ⟨a0, rfl, rfl, rfl, w0⟩ := open_int Try.underlying22 (hval 0 22 v0 rfl rfl) h0
  obtain ⟨a1, rfl, rfl, rfl⟩ := open_bool Try.underlying4 (hval 1 4 v1 rfl rfl) h1
  clear hA0 hval0
  simp only [List.append_nil] at hW'
  refine (walk a0 a1 w0 W).mono fun e W' ⟨he, hg⟩ => ?_
  subst he
  exact ⟨_, rfl, _, _, _, [], _, [], hW', trodAll_mk1 (shut_bool Try.underlying4 _), (trodAll_cons_mk (shut_int Try.underlying22 w0) (trodAll_cons_mk (shut_bool Try.underlying4 _) trodAll_mk0)), rfl, hg.frame _, fun h => by cases h⟩

theorem over : Rows.fnNewRoundStaysUntilSentRow.holds Try.pinned (OpenSpec.ofChange Rows.fnNewRoundStaysUntilSentSpec) :=
  OpenClaim.holds_of_wide 4 Try.f4 rfl rfl rfl rfl rfl rfl rfl ⟨rfl, rfl, rfl, rfl, rfl⟩ rfl rfl rfl rfl rfl (by kernel_rfl) Try.func4 (by kernel_rfl)
    (of_decide_eq_true (by kernel_rfl)) (by unfold Func.isWrapper; first | (rw [if_pos (by decide +kernel)]; kernel_rfl) | (rw [if_neg (by decide +kernel)]; exact ⟨rfl, rfl⟩))
    (fun os started H enc _ => lifted os started H enc)

/-- ████ THE STATEMENT ████ -/
theorem proved : Rows.FnNewRoundStaysUntilSentSaid :=
  over
#print axioms proved
end Go.Proofs.Qxb6616937a.fnNewRoundStaysUntilSent
